import PyProof.Rows.All
import Wide.All
import OpenK.AllK
import Wide.FinOn
import Flt.RightOps
import Flt.RightMore
import PySem.Challenge.RW_pg0092_01
open PySem PySem.W PySem.Calls PyProof.Rows
set_option Elab.async false
set_option maxRecDepth 100000
set_option maxHeartbeats 8000000
namespace Mine
open_top hd for PySem.Challenge.rw_pg0092_01
end Mine
namespace Mine
/-- a call of a def: of the caller's ledger the objects of sub are handed over, those of rest stay as they are -/
theorem callS {prog : Program} {w : World} {A A₀ : Around} {s : Shared} {K : Frag} {L : Addr} {h₀ base : Heap} {m mg mb : Str → Option Value} {news : List (Addr × Obj)} {p : Program} {loose : List Str} {mean : ExcName → Option Value}
    {env : Env} {outer : List Env} {R : Result → Shared → Prop} {name qual : Str} {params : Arguments} {body : List Stmt} {scope : Scope} {dV kV doc pm cdv ct oc : Value} {an od : Option Addr} {osl : Array (Option Value)} {f : Addr} {args : Args} {binds : List (Str × Value)}
    (sub rest : List (Addr × Obj)) (hsub : ∀ q ∈ sub, q ∈ news) (hrest : ∀ q ∈ rest, q ∈ news ∧ ∀ r ∈ sub, q.1 ≠ r.1)
    (B : Below A₀ base outer h₀) (F : Fr h₀ L s.heap m) (X₀ : K.In h₀) (N : News h₀ L s.heap news) (T : Top p loose mean mg mb h₀) (hA : A.frames = some (env :: outer)) (hf : env.frame = some L) (hke : env.scope.kind = .function)
    (ho : K.lookup f = some ⟨oc, od, .func (fnOf name qual params body scope dV kV doc pm an cdv ct), osl⟩) (hcd : codeIn K cdv qual = true) (hroom : A.depth < recursionLimit)
    (hbind : BindsTo s (fnOf name qual params body scope dV kV doc pm an cdv ct) args binds) (hloc : ∀ y ∈ binds, scope.names.lookup y.1 = some .local)
    (h : ∀ g L' h₁, Fr h₀ L g m → Fr g L' h₁ (fun y => binds.reverse.lookup y) → News g L' h₁ sub → Below A base (env :: outer) g → K.In g → Top p loose mean mg mb g → (∀ q ∈ rest, g.get? q.1 = some q.2) →
      wpAny (model prog w) (A.deeper (envOf qual scope L' f cdv)) (execs body (envOf qual scope L' f cdv))
        (fun fl s' => LeaveK h₀ L m g (fun r s'' => News h₀ L s''.heap rest → R r s'') (match fl with | .ret v => v | _ => .none) s')
        (fun e s' => wpAny (model prog w) (A.deeper (envOf qual scope L' f cdv)) (leaving (envOf qual scope L' f cdv) e) (fun _ s'' => R (.error e) s'') (fun e' s'' => R (.error e') s'') s')
        { s with heap := h₁, toks := s.toks + binds.length })
    (hco : scope.isCoroutine = false) (hgen : scope.isGenerator = false) (hk : scope.kind = .function)
    (hcell : ∀ x ∈ scope.names, x.2 ≠ .cell) : codeAny (model prog w) A (.call (.ref f) args) R s := by
  have Ns : News h₀ L s.heap sub := fun q hq => N q (hsub q hq)
  have X := X₀.keeps F.keep
  obtain ⟨FG, BG, st, lv⟩ := groundX (R := fun r s'' => News h₀ L s''.heap rest → R r s'') B F Ns hA hf hke
  have hg : ∀ q ∈ rest, (hideAll s.heap (sub.map (·.1))).get? q.1 = some q.2 := fun q hq =>
    hideAll_get _ (N q (hrest q hq).1).1 fun hm => by
      obtain ⟨r, hr, e⟩ := List.mem_map.mp hm
      exact (hrest q hq).2 r hr e.symm
  refine codeAny_call_def (fd := fnX name qual params body scope [] dV kV doc pm an cdv ct) (body := body) (binds := binds) hroom (X _ _ ho) rfl (T.nolimit.keeps F.keep) (codeRec_of X hcd) rfl hbind hcell hloc (fun h₁ hns hk₁ => ?_) hco hgen hk
  refine wpAny_mono (h _ s.heap.objs.size h₁ FG ⟨hns, fun b o e => hk₁ b o (of_hideAll _ e), Nat.le_of_eq (hideAll_size _ _)⟩
    (fun q hq => ⟨hk₁ _ _ (Ns q hq).1, Nat.ne_of_lt (Heap.lt_size (Ns q hq).1), hideAll_none _ (List.mem_map_of_mem hq)⟩) BG (X₀.keeps st) (T.keeps st) hg) (fun fl s' hl => ?_) fun _ _ y => y
  have h1 := lv _ _ hl
  obtain ⟨L₁, m₁, n₁, F₁, N₁, k₁⟩ := hl
  exact h1 fun q hq => ⟨F₁.keep _ _ (hg q hq), (N q (hrest q hq).1).2⟩

/-- the contract of a call of the def at f: the ledger's part sub is handed over, the rest stays; it comes back with a value and a part that Post tells of -/
def Ct (w : World) (mean : ExcName → Option Value) (mg mb : Str → Option Value) (f : Addr) (d u : Nat) (vs : List Value) (sub : List (Addr × Obj)) (Pre : List (Addr × Obj) → Heap → Prop) (Post : Value → List (Addr × Obj) → Prop) : Prop :=
  ∀ (dp un : Nat) (gd : Option (List Code)) (cn : Str) (cs : Scope) (a : Addr) (ccd : Value) (cl : List (Str × Addr)) (outer : List Env) (A₀ : Around) (base h₀ : Heap) (L : Addr) (m : Str → Option Value) (s : Shared) (Q E : Value → Shared → Prop) (news rest : List (Addr × Obj)),
    Below A₀ base outer h₀ → Fr h₀ L s.heap m → (hd.heap_39 w.params).In h₀ → News h₀ L s.heap news → Top hd.view_39 (looseW hd.view_39 []) mean mg mb h₀ → cs.kind = .function →
    (∀ q ∈ sub, q ∈ news) → (∀ q ∈ rest, q ∈ news ∧ ∀ r ∈ sub, q.1 ≠ r.1) → Pre rest h₀ →
    dp + d < recursionLimit → un + u < cLine →
    (∀ v new h' tk', Fr h₀ L h' m → News h₀ L h' (new ++ rest) → (∀ p ∈ new, ∀ q ∈ rest, p.1 ≠ q.1) → Post v new → Q v { s with heap := h', toks := tk' }) →
    wpAny (model PySem.Challenge.rw_pg0092_01.row.prog w) (ktrTop dp un gd cn cs L a ccd cl outer) (call (.ref f) vs) Q E s

theorem apart {g h' : Heap} {L' : Addr} {new rest : List (Addr × Obj)} (N : News g L' h' new) (hg : ∀ q ∈ rest, g.get? q.1 = some q.2) : ∀ p ∈ new, ∀ q ∈ rest, p.1 ≠ q.1 := fun p hp q hq e => by
  have h1 := (N p hp).2.2
  rw [e, hg q hq] at h1
  cases h1
theorem news_app {h₀ h' : Heap} {L : Addr} {new rest : List (Addr × Obj)} (N : News h₀ L h' new) (M : News h₀ L h' rest) : News h₀ L h' (new ++ rest) := fun p hp => (List.mem_append.mp hp).elim (N p) (M p)
theorem news_sub {h₀ h' : Heap} {L : Addr} {new all : List (Addr × Obj)} (N : News h₀ L h' all) (hs : ∀ p ∈ new, p ∈ all) : News h₀ L h' new := fun p hp => N p (hs p hp)


theorem ct_ret {h₀ h' g : Heap} {L L' : Addr} {m : Str → Option Value} {new all rest : List (Addr × Obj)} {s : Shared} {Q : Value → Shared → Prop} {Post : Value → List (Addr × Obj) → Prop} {v : Value} {tk' : Nat}
    (hret : ∀ v new h' tk', Fr h₀ L h' m → News h₀ L h' (new ++ rest) → (∀ p ∈ new, ∀ q ∈ rest, p.1 ≠ q.1) → Post v new → Q v { s with heap := h', toks := tk' })
    (kF : Fr h₀ L h' m) (kN : News h₀ L h' all) (hR : News h₀ L h' rest) (N' : News g L' h' all) (hg : ∀ q ∈ rest, g.get? q.1 = some q.2) (hs : ∀ p ∈ new, p ∈ all) (post : Post v new) : Q v { s with heap := h', toks := tk' } :=
  hret v new h' tk' kF (news_app (news_sub kN hs) hR) (apart (news_sub N' hs) hg) post

theorem Ct.use {w : World} {mean : ExcName → Option Value} {mg mb : Str → Option Value} {f : Addr} {d u : Nat} {vs : List Value} {sub : List (Addr × Obj)} {Pre : List (Addr × Obj) → Heap → Prop} {Post : Value → List (Addr × Obj) → Prop} (C : Ct w mean mg mb f d u vs sub Pre Post)
    {dp un : Nat} {gd : Option (List Code)} {cn : Str} {cs : Scope} {a : Addr} {ccd : Value} {cl : List (Str × Addr)} {outer : List Env} {A₀ : Around} {base h₀ : Heap} {L : Addr} {m : Str → Option Value} {s : Shared} {Q E : Value → Shared → Prop} {news rest : List (Addr × Obj)}
    (B : Below A₀ base outer h₀) (F : Fr h₀ L s.heap m) (X : (hd.heap_39 w.params).In h₀) (N : News h₀ L s.heap news) (T : Top hd.view_39 (looseW hd.view_39 []) mean mg mb h₀) (hk : cs.kind = .function)
    (hsub : ∀ q ∈ sub, q ∈ news) (hrest : ∀ q ∈ rest, q ∈ news ∧ ∀ r ∈ sub, q.1 ≠ r.1) (hpre : Pre rest h₀) (hd : dp + d < recursionLimit) (hu : un + u < cLine)
    (ret : ∀ v new h' tk', Fr h₀ L h' m → News h₀ L h' (new ++ rest) → (∀ p ∈ new, ∀ q ∈ rest, p.1 ≠ q.1) → Post v new → Q v { s with heap := h', toks := tk' }) :
    wpAny (model PySem.Challenge.rw_pg0092_01.row.prog w) (ktrTop dp un gd cn cs L a ccd cl outer) (call (.ref f) vs) Q E s := C _ _ _ _ _ _ _ _ _ _ _ _ _ _ _ _ _ _ _ B F X N T hk hsub hrest hpre hd hu ret
theorem all_rest {news : List (Addr × Obj)} : ∀ q ∈ news, q ∈ news ∧ ∀ r ∈ ([] : List (Addr × Obj)), q.1 ≠ r.1 := fun _ hq => ⟨hq, fun _ hr => nomatch hr⟩
theorem nil_sub {news : List (Addr × Obj)} : ∀ q ∈ ([] : List (Addr × Obj)), q ∈ news := fun _ hr => nomatch hr

/-- a quotient of two ints as a float -/
def divI (a b : Int) : UInt64 := Float64.ofFrac (decide (a < 0) != decide (b < 0)) a.natAbs b.natAbs
theorem div_ii_s {prog : Program} {w : World} {A : Around} {E : Value → Shared → Prop} {s : Shared} {Q : Value → Shared → Prop} {a b : Int} {t u : Tok} (ha : a.natAbs ≤ 100000) (hb : b ≠ 0) (h : Q (.float (divI a b) s.toks) { s with toks := s.toks + 1 }) : wpAny (model prog w) A (binaryOp .Div (.int a t) (.int b u)) Q E s := by
  refine AutoIntOps.truediv_2 (by simpa using hb) (Flt.quot_fits (by omega) (Nat.lt_of_le_of_lt ha ?_)) h
  decide +kernel

/-- tokens, with the fact that they are not nought -/
theorem gen_toks1 {M : Model} {A : Around} {body : List Stmt} {env : Env} {Q : Flow → Shared → Prop} {E : Value → Shared → Prop} {h : Heap} {g d os} {X : Nat} (H : ∀ tk : Nat, 0 < tk → wpAny M A (execs body env) Q E ⟨h, g, d, tk, os⟩) : wpAny M A (execs body env) Q E ⟨h, g, d, X + 1, os⟩ := H _ (Nat.succ_pos _)
theorem gen_toks0 {M : Model} {A : Around} {body : List Stmt} {env : Env} {Q : Flow → Shared → Prop} {E : Value → Shared → Prop} {h : Heap} {g d os} {X : Nat} (hX : 0 < X) (H : ∀ tk : Nat, 0 < tk → wpAny M A (execs body env) Q E ⟨h, g, d, tk, os⟩) : wpAny M A (execs body env) Q E ⟨h, g, d, X, os⟩ := H _ hX
theorem no_book (P : Params) : nsIn (hd.heap_39 P) cStatics sharingNotToldKey = some none := by rfl
theorem not_told {K : Frag} {M : Model} {A : Around} {E : Value → Shared → Prop} {s : Shared} {t : Tok} {Q : Bool → Shared → Prop} (x : K.In s.heap) (e : nsIn K cStatics sharingNotToldKey = some none) (h : Q false s) : wpAny M A (sharingNotTold t) Q E s := by
  unfold sharingNotTold
  refine wpAny_bind ((looks_nsIn x e).here ?_)
  exact wpAny_pure h
theorem same_float {K : Frag} {M : Model} {A : Around} {E : Value → Shared → Prop} {s : Shared} {y z : UInt64} {u v : Tok} {Q : Bool → Shared → Prop}
    (hu : 0 < u) (hv : 0 < v) (x : K.In s.heap) (e : nsIn K cStatics sharingNotToldKey = some none) (hq : ∀ b, Q b s) : wpAny M A (isSame (.float y u) (.float z v)) Q E s := by
  show wpAny M A (isSame.created (y == z && !Float64.isNaN y) u v) Q E s
  unfold isSame.created
  refine wpAny_ite ?_
  split
  · rename_i h
    simp only [Bool.or_eq_true, beq_iff_eq] at h
    rcases h with h | h
    · subst h; exact absurd hu (Nat.lt_irrefl _)
    · subst h; exact absurd hv (Nat.lt_irrefl _)
  refine wpAny_ite ?_
  split
  · exact wpAny_pure (hq _)
  refine wpAny_ite ?_
  split
  · exact wpAny_pure (hq _)
  refine wpAny_bind (not_told x e ?_)
  simp only [Bool.false_eq_true, if_false]
  refine wpAny_bind (not_told x e ?_)
  simp only [Bool.false_eq_true, if_false]
  exact wpAny_bind (wpAny_rule (wpAny_bind (wpAny_askSetting (wpAny_pure (hq _)))))
theorem eqAt_float {K : Frag} {A : Around} {s : Shared} {x y : UInt64} {t u : Tok} (X : K.In s.heap) (e : nsIn K cStatics sharingNotToldKey = some none) (ht : 0 < t) (hu : 0 < u) (h : (Float64.cmp x y == some Ordering.eq) = true) : SeqAt.EqAt A s (.float x t) (.float y u) true := fun prog w E Q hq => by
  unfold eqBool
  refine wpAny_holding ?_
  refine wpAny_ite_split (fun _ => wpAny_bind (wpAny_rule (wpAny_pure hq))) (fun _ => ?_)
  refine wpAny_bind (same_float ht hu X e fun b => ?_)
  cases b
  · exact wpAny_bind (AutoFloatOps.eq_0 (wpAny_truthy_bool (by rw [h]; exact hq)))
  · exact wpAny_pure hq
/-- texts: bounds of lengths, found by assumption -/
theorem item_le (x : Str) (i : Int) : (Txt.item x i).length ≤ 1 := Nat.le_refl _
section
variable {prog : Program} {w : World} {A : Around} {E : Value → Shared → Prop} {s : Shared} {x y : Str} {t u : Tok} {Q : Value → Shared → Prop}
theorem size_ub {a b c d : Nat} (h1 : a ≤ c) (h2 : b ≤ d) (h : c + d ≤ 4096) : a + b ≤ sizeLine := by
  rw [sizeLine_eq]
  exact Nat.le_trans (Nat.add_le_add h1 h2) (Nat.le_trans h (by decide))
theorem add_ub {C D : Nat} (hx : x.length ≤ C) (hy : y.length ≤ D) (hCD : C + D ≤ 4096) (h : ∀ t' k, (x ++ y).length ≤ C + D → Q (.str (x ++ y) t') { s with toks := k }) : wpAny (model prog w) A (binaryOp .Add (.str x t) (.str y u)) Q E s :=
  SBL.add (fun t' k e => h t' k (Nat.le_trans e.2 (Nat.add_le_add hx hy))) (size_ub hx hy hCD)
theorem iadd_ub {C D : Nat} (hx : x.length ≤ C) (hy : y.length ≤ D) (hCD : C + D ≤ 4096) (h : ∀ t' k, (x ++ y).length ≤ C + D → Q (.str (x ++ y) t') { s with toks := k }) : wpAny (model prog w) A (inplaceOp .Add (.str x t) (.str y u)) Q E s :=
  SBL.iadd (fun t' k e => h t' k (Nat.le_trans e.2 (Nat.add_le_add hx hy))) (size_ub hx hy hCD)
theorem mul_ub {n N : Int} (hx : x.length ≤ 1) (hn : 0 ≤ n ∧ n ≤ N) (hN : N.toNat ≤ 4096) (h : ∀ t' k, (Txt.mul x n).length ≤ 1 * N.toNat → Q (.str (Txt.mul x n) t') { s with toks := k }) : wpAny (model prog w) A (binaryOp .Mult (.str x t) (.int n u)) Q E s := by
  have hn' : n ≤ ((N.toNat : Nat) : Int) := by omega
  exact SB.mul (mulOk_of 1 N.toNat hx hn' (by omega) (by omega) (by omega)) fun t' k => h t' k (len_mul_leN hx hn')
end
theorem sum_ub {a p c : Int} {L : Nat} (h1 : 0 ≤ a ∧ a ≤ (L : Int)) (h2 : L ≤ 100) (h3 : 0 ≤ p ∧ p ≤ c) : 0 ≤ a + p ∧ a + p ≤ 100 + c := by omega
end Mine
namespace Mine
def fallI (place sixth corner : Int) : Int :=
  let way := if place - corner < 0 then -(place - corner) else place - corner
  let way := if 6 * sixth - way < way then 6 * sixth - way else way
  let mx := if 0 > way - sixth then 0 else way - sixth
  if sixth < mx then sixth else mx
def partI (place sixth least most corner : Int) : Int := most - ((most - least) * fallI place sixth corner).fdiv sixth

theorem fall_in {place sixth corner : Int} (h : 0 < sixth) : 0 ≤ fallI place sixth corner ∧ fallI place sixth corner ≤ sixth := by
  unfold fallI
  simp only
  generalize (if 6 * sixth - _ < _ then _ else _ : Int) = way
  split <;> split <;> omega
theorem part_in {place sixth least most corner : Int} (h : 0 < sixth) (hl : least ≤ most) : least ≤ partI place sixth least most corner ∧ partI place sixth least most corner ≤ most := by
  unfold partI
  have hf := fall_in (place := place) (corner := corner) h
  generalize fallI place sixth corner = f at hf
  have h1 : 0 ≤ (most - least) * f := Int.mul_nonneg (by omega) hf.1
  have h2 : (most - least) * f ≤ (most - least) * sixth := Int.mul_le_mul_of_nonneg_left hf.2 (by omega)
  generalize (most - least) * f = p at h1 h2
  rw [Int.fdiv_eq_ediv_of_nonneg _ (Int.le_of_lt h)]
  have h3 : 0 ≤ p / sixth := Int.ediv_nonneg h1 (Int.le_of_lt h)
  have h4 : p / sixth ≤ most - least := by
    have := Int.ediv_le_ediv h h2
    rwa [Int.mul_ediv_cancel _ (by omega)] at this
  omega
structure PartsAre (x y z u p q r : Int) : Prop where
  cr : partI x y z u 0 = p
  cg : partI x y z u (2 * y) = q
  cb : partI x y z u (4 * y) = r
abbrev list3 (p q r : Int) (t1 t2 t3 : Tok) (n : Nat) : Obj := W.listOf #[.int p t1, .int q t2, .int r t3] n
theorem c_parts {w mean mg mb} (x y z u : Int) (t1 t2 t3 t4 : Tok) (hs : 0 < y) (_ : 0 ≤ x) (_ : x ≤ 1000) (_ : y ≤ 1000) (hz : 0 ≤ z) (_ : z ≤ 16) (hl : z ≤ u) (hu : u ≤ 16) :
    Ct w mean mg mb 81 1 20 [.int x t1, .int y t2, .int z t3, .int u t4] [] (fun _ _ => True)
      (fun v new => ∃ a p q r t1 t2 t3 n, PartsAre x y z u p q r ∧ (0 ≤ p ∧ p ≤ 16) ∧ (0 ≤ q ∧ q ≤ 16) ∧ (0 ≤ r ∧ r ≤ 16) ∧ v = .ref a ∧ new = [(a, list3 p q r t1 t2 t3 n)]) := by
  w_top off
  unfold Ct
  k_fill
  intro dp un gd cn cs a ccd cl outer A₀ base h₀ L m s Q E news rest B F X N T hk hsub hrest hpre hdp hun hret
  refine wpAny_call ?_
  k_dflt (refine' callS _ _ hsub hrest ?k1 ?k2 ?k3 ?k4 ?k5 ?kA ?kF ?kK ?k6 ?k7 ?k8 ?k9 ?kB ?_ ?c2 ?c3 ?c4 ?c5; (case kA => exact rfl); (case kF => exact rfl); (case kK => assumption); (case k1 => k_asm); (case k2 => k_asm); (case k3 => k_asm); (case k4 => k_asm); (case k5 => k_asm); (case k6 => k_is); (case k7 => k_is); (case k8 => ktr_room); (case k9 => exact BindsTo.of_eq rfl); (case c5 => decide); (case kB => exact locs rfl); (case c2 => exact rfl); (case c3 => exact rfl); (case c4 => exact rfl); k_whole; intro g' L' h' FG' F' N' B' X' T' hg; (try dsimp only); (try k_lift B'); (try k_fold))
  clear hrest N
  k_steps
  (rename News _ _ _ _ => hR); (revert hR); (rename News _ _ _ _ => kN); (rename Fr _ _ _ _ => kF); (revert kN); (rename News _ _ _ _ => nN); (intro kN hR)
  refine' ct_ret hret kF kN hR nN hg ?sub ⟨_, _, _, _, _, _, _, _, ⟨rfl, rfl, rfl⟩, ⟨Int.le_trans hz (part_in hs hl).1, Int.le_trans (part_in hs hl).2 hu⟩, ⟨Int.le_trans hz (part_in hs hl).1, Int.le_trans (part_in hs hl).2 hu⟩, ⟨Int.le_trans hz (part_in hs hl).1, Int.le_trans (part_in hs hl).2 hu⟩, rfl, rfl⟩
  (case sub => exact SubL.mem (by k_subL))
end Mine
namespace Mine
def rgbF (h s v : UInt64) : UInt64 × UInt64 × UInt64 :=
  if (Float64.cmp s 0 == some Ordering.eq) = true then (v, v, v) else
  let x := Float64.mul h 4618441417868443648
  let i := Flt.toInt Float64.truncOf x
  let f := Float64.sub x (Float64.ofInt i)
  let p := Float64.mul v (Float64.sub 4607182418800017408 s)
  let q := Float64.mul v (Float64.sub 4607182418800017408 (Float64.mul s f))
  let t := Float64.mul v (Float64.sub 4607182418800017408 (Float64.mul s (Float64.sub 4607182418800017408 f)))
  let j := i.fmod 6
  if j = 0 then (v, t, p) else if j = 1 then (q, v, p) else if j = 2 then (p, v, t) else if j = 3 then (p, q, v) else if j = 4 then (t, p, v) else (v, p, q)
structure RgbIs (x y z p q r : UInt64) : Prop where
  eq : rgbF x y z = (p, q, r)
def tup3 (a b c : UInt64) (t1 t2 t3 : Tok) : Obj := { cls := .type "tuple", data := .seq #[.float a t1, .float b t2, .float c t3] }
theorem fin_nan {x : UInt64} (h : Float64.isFinite x = true) (k : Float64.isNaN x = true) : False := by
  unfold Float64.isFinite at h; unfold Float64.isNaN at k
  cases e : Float64.decode x <;> rw [e] at h k <;> simp at h k
theorem fin_inf {x : UInt64} (h : Float64.isFinite x = true) (k : Float64.isInf x = true) : False := by
  unfold Float64.isFinite at h; unfold Float64.isInf at k
  cases e : Float64.decode x <;> rw [e] at h k <;> simp at h k



theorem c_rgb {w mean mg mb} (x y z : UInt64) (t1 t2 t3 : Tok) (ht3 : 0 < t3) (hf : Float64.isFinite (Float64.mul x 4618441417868443648) = true) (h0 : 0 ≤ Flt.toInt Float64.truncOf (Float64.mul x 4618441417868443648)) (h6 : Flt.toInt Float64.truncOf (Float64.mul x 4618441417868443648) < 6) :
    Ct w mean mg mb 74 1 20 [.float x t1, .float y t2, .float z t3] [] (fun _ _ => True)
      (fun v new => ∃ a p q r t1 t2 t3, RgbIs x y z p q r ∧ (0 < t1 ∧ 0 < t2 ∧ 0 < t3) ∧ v = .ref a ∧ new = [(a, tup3 p q r t1 t2 t3)]) := by
  w_top off
  unfold Ct
  k_fill
  intro dp un gd cn cs a ccd cl outer A₀ base h₀ L m s Q E news rest B F X N T hk hsub hrest hpre hdp hun hret
  refine wpAny_call ?_
  k_dflt (refine' callS _ _ hsub hrest ?k1 ?k2 ?k3 ?k4 ?k5 ?kA ?kF ?kK ?k6 ?k7 ?k8 ?k9 ?kB ?_ ?c2 ?c3 ?c4 ?c5; (case kA => exact rfl); (case kF => exact rfl); (case kK => assumption); (case k1 => k_asm); (case k2 => k_asm); (case k3 => k_asm); (case k4 => k_asm); (case k5 => k_asm); (case k6 => k_is); (case k7 => k_is); (case k8 => ktr_room); (case k9 => exact BindsTo.of_eq rfl); (case c5 => decide); (case kB => exact locs rfl); (case c2 => exact rfl); (case c3 => exact rfl); (case c4 => exact rfl); k_whole; intro g' L' h' FG' F' N' B' X' T' hg; (try dsimp only); (try k_lift B'); (try k_fold))
  clear hrest N
  refine gen_toks0 (Nat.add_pos_right _ (Nat.succ_pos _)) ?_
  intro tk0 htk0
  repeat' (first | (k_unfold; (try dsimp only)) | (k_end; wrow_close) | (k_here; (with_reducible refine gen_toks1 ?_); intro tk' htk') | walk1 | (dsimp only; first | (k_here; (with_reducible refine gen_toks1 ?_); intro tk' htk') | walk1) | (leave1; try dsimp only) | fail "no step")
  all_goals first
    | (exfalso; exact fin_nan hf (by assumption))
    | (exfalso; exact fin_inf hf (by assumption))
    | (exfalso; omega)
    | (exfalso; (rw [Int.fmod_eq_emod_of_nonneg _ (by decide)] at *); omega)
    | ((rename News _ _ _ _ => hR); (revert hR); (rename News _ _ _ _ => kN); (rename Fr _ _ _ _ => kF); (revert kN); (rename News _ _ _ _ => nN); (intro kN hR)
       refine' ct_ret hret kF kN hR nN hg ?sub ⟨_, _, _, _, _, _, _, ⟨?eq⟩, ?tok, rfl, rfl⟩
       (case sub => exact SubL.mem (by k_subL))
       (case tok => (refine ⟨?_, ?_, ?_⟩ <;> (first | assumption | exact Nat.succ_pos _)))
       (case eq => (unfold rgbF; (repeat first | rw [if_pos (by assumption)] | rw [if_neg (by assumption)] | rw [if_neg (by rw [show (Float64.cmp y 0 == some Ordering.eq) = false from by assumption]; exact Bool.false_ne_true)]))))
end Mine
namespace Mine
def runI (x y : Str) : Int := if Txt.find x y < 0 then 0 else ((Txt.slice x (some (Txt.find x y + 1)) none).length : Int) - ((Txt.lstripChars (Txt.slice x (some (Txt.find x y + 1)) none) (Str.ofString "\"")).length : Int)
structure RunIs (x y : Str) (n : Int) : Prop where
  eq : runI x y = n
theorem c_run {w mean mg mb} (x y : Str) (t1 t2 : Tok) (hx : x.length ≤ 1000) (_ : y.length = 1) :
    Ct w mean mg mb 95 1 40 [.str x t1, .str y t2] [] (fun _ _ => True)
      (fun v new => ∃ n t, RunIs x y n ∧ (0 ≤ n ∧ n ≤ x.length) ∧ v = .int n t ∧ new = []) := by
  w_top off
  unfold Ct
  k_fill
  intro dp un gd cn cs a ccd cl outer A₀ base h₀ L m s Q E news rest B F X N T hk hsub hrest hpre hdp hun hret
  refine wpAny_call ?_
  k_dflt (refine' callS _ _ hsub hrest ?k1 ?k2 ?k3 ?k4 ?k5 ?kA ?kF ?kK ?k6 ?k7 ?k8 ?k9 ?kB ?_ ?c2 ?c3 ?c4 ?c5; (case kA => exact rfl); (case kF => exact rfl); (case kK => assumption); (case k1 => k_asm); (case k2 => k_asm); (case k3 => k_asm); (case k4 => k_asm); (case k5 => k_asm); (case k6 => k_is); (case k7 => k_is); (case k8 => ktr_room); (case k9 => exact BindsTo.of_eq rfl); (case c5 => decide); (case kB => exact locs rfl); (case c2 => exact rfl); (case c3 => exact rfl); (case c4 => exact rfl); k_whole; intro g' L' h' FG' F' N' B' X' T' hg; (try dsimp only); (try k_lift B'); (try k_fold))
  clear hrest N
  k_steps
  all_goals (
    (rename News _ _ _ _ => hR); (revert hR); (rename News _ _ _ _ => kN); (rename Fr _ _ _ _ => kF); (revert kN); (rename News _ _ _ _ => nN); (intro kN hR)
    refine' ct_ret hret kF kN hR nN hg ?sub ⟨_, _, ⟨?eq⟩, ?bd, rfl, rfl⟩
    (case sub => exact SubL.mem (by k_subL))
    (case eq => first | exact if_pos (by assumption) | exact if_neg (by assumption))
    (case bd => omega))
end Mine
namespace Mine
def Stop (P : Prop) : Prop := P
theorem While_stop {prog : Program} {w : World} {A : Around} {E : Value → Shared → Prop} {Q : Flow → Shared → Prop} {s : Shared} {env : Env} {h₀ : Heap} {L : Addr} {test : PySem.Expr} {body : List Stmt} {pos : Pos} {m : Str → Option Value} {news : List (Addr × Obj)} (J : (Str → Option Value) → Nat → (Str → Option Value) → List (Addr × Obj) → Prop)
    (F : Fr h₀ L s.heap m) (N : News h₀ L s.heap news)
    (st : Stop ((∃ n₀, J m n₀ m news) ∧ ∀ n m₁ news₁ h₁ tk₁, Fr h₀ L h₁ m₁ → News h₀ L h₁ news₁ → J m n m₁ news₁ →
      wpAny (model prog w) A (isTrue test env (eval test env)) (fun b s₂ =>
        if b = true then wpAny (model prog w) A (execs body env) (WhileStep2 h₀ L s (J m) Q n) E s₂ else Q .next s₂) E { s with heap := h₁, toks := tk₁ }))
    (hE : PassesOwn (model prog w) A env E := by passes_own) :
    wpAny (model prog w) A (exec (.While test body [] pos) env) Q E s := by
  obtain ⟨⟨n₀, hj⟩, turn⟩ := st
  exact While_inv2 (J m) F N hj turn hE
noncomputable def go : List Nat → List Nat → List Nat
  | [], acc => acc
  | c :: r, acc => if c = 34 then (match r with | [] => acc | d :: r' => if d = 34 then go r' (acc ++ [34]) else acc) else go r (acc ++ [c])
theorem item_is (x : Str) (i : Nat) (h : i < x.length) : ∃ c, Txt.item x (i : Int) = ⟨#[c]⟩ ∧ x.cps.toList.drop i = c :: x.cps.toList.drop (i + 1) := by
  have h' : i < x.cps.toList.length := by rw [Array.length_toList]; exact h
  refine ⟨x.cps.toList[i], item_meets (Int.natCast_nonneg i) ?_, List.drop_eq_getElem_cons h'⟩
  rw [Int.toNat_natCast, ← Array.getElem?_toList, List.getElem?_eq_getElem h']
theorem q34 (c : Nat) : ((⟨#[c]⟩ : Str) == Str.ofString "\"") = decide (c = 34) := by
  have e : Str.ofString "\"" = ⟨#[34]⟩ := by decide +kernel
  rw [e, Bool.eq_iff_iff, beq_iff_eq, decide_eq_true_iff]
  constructor
  · intro h; injection h with h; simpa using h
  · rintro rfl; rfl
theorem go_nil (acc : List Nat) : go [] acc = acc := by unfold go; rfl
theorem go_one (acc : List Nat) : go [34] acc = acc := by unfold go; rfl
theorem go_two {d : Nat} (r acc : List Nat) (h : d ≠ 34) : go (34 :: d :: r) acc = acc := by unfold go; simp [h]
theorem go_q (r acc : List Nat) : go (34 :: 34 :: r) acc = go r (acc ++ [34]) := by rw [go.eq_def]; simp
theorem go_c {c : Nat} (r acc : List Nat) (h : c ≠ 34) : go (c :: r) acc = go r (acc ++ [c]) := by rw [go.eq_def]; simp [h]
theorem go_end {x : Str} {i : Nat} {acc : List Nat} (h : ¬ (i : Int) < x.length) : go (x.cps.toList.drop i) acc = acc := by
  have : x.cps.toList.drop i = [] := by rw [List.drop_eq_nil_iff, Array.length_toList]; show x.length ≤ i; omega
  rw [this, go_nil]
theorem go_brk1 {x : Str} {i : Nat} {acc : List Nat} (h : (i : Int) < x.length) (h1 : (Txt.item x (i : Int) == Str.ofString "\"") = true) (h2 : (x.length : Int) ≤ i + 1) : go (x.cps.toList.drop i) acc = acc := by
  obtain ⟨c, e1, e2⟩ := item_is x i (by omega)
  rw [e1, q34, decide_eq_true_iff] at h1
  have : x.cps.toList.drop (i + 1) = [] := by rw [List.drop_eq_nil_iff, Array.length_toList]; show x.length ≤ i + 1; omega
  rw [e2, this, h1, go_one]
theorem go_brk2 {x : Str} {i : Nat} {acc : List Nat} (h : (i : Int) < x.length) (h1 : (Txt.item x (i : Int) == Str.ofString "\"") = true) (h2 : ¬ (x.length : Int) ≤ i + 1) (h3 : (Txt.item x ((i : Int) + 1) != Str.ofString "\"") = true) : go (x.cps.toList.drop i) acc = acc := by
  obtain ⟨c, e1, e2⟩ := item_is x i (by omega)
  obtain ⟨d, e3, e4⟩ := item_is x (i + 1) (by omega)
  rw [e1, q34, decide_eq_true_iff] at h1
  have e3' : Txt.item x ((i : Int) + 1) = ⟨#[d]⟩ := e3
  rw [e3', bne, q34] at h3
  rw [e2, e4, h1, go_two _ _ (by simpa using h3)]
theorem go_qq {x dn : Str} {i : Nat} {T : List Nat} (h : (i : Int) < x.length) (h1 : (Txt.item x (i : Int) == Str.ofString "\"") = true) (h2 : ¬ (x.length : Int) ≤ i + 1) (h3 : (Txt.item x ((i : Int) + 1) != Str.ofString "\"") = false)
    (hg : go (x.cps.toList.drop i) dn.cps.toList = T) : go (x.cps.toList.drop (i + 2)) (dn ++ Txt.item x (i : Int)).cps.toList = T := by
  obtain ⟨c, e1, e2⟩ := item_is x i (by omega)
  obtain ⟨d, e3, e4⟩ := item_is x (i + 1) (by omega)
  rw [e1, q34, decide_eq_true_iff] at h1
  have e3' : Txt.item x ((i : Int) + 1) = ⟨#[d]⟩ := e3
  rw [e3', bne, q34] at h3
  have hd : d = 34 := by simpa using h3
  rw [e2, e4, h1, hd, go_q] at hg
  rw [e1, h1]
  rw [← hg]
  congr 1
  show (dn.cps ++ #[34]).toList = _
  simp
theorem go_cc {x dn : Str} {i : Nat} {T : List Nat} (h : (i : Int) < x.length) (h1 : (Txt.item x (i : Int) == Str.ofString "\"") = false)
    (hg : go (x.cps.toList.drop i) dn.cps.toList = T) : go (x.cps.toList.drop (i + 1)) (dn ++ Txt.item x (i : Int)).cps.toList = T := by
  obtain ⟨c, e1, e2⟩ := item_is x i (by omega)
  rw [e1, q34, decide_eq_false_iff_not] at h1
  rw [e2, go_c _ _ h1] at hg
  rw [e1, ← hg]
  congr 1
  show (dn.cps ++ #[c]).toList = _
  simp
def JW (m₀ : Str → Option Value) (n : Nat) (m₁ : Str → Option Value) (news₁ : List (Addr × Obj)) : Prop :=
  news₁ = [] ∧ ∃ (x : Str) (tx : Tok) (i : Nat) (ti : Tok) (dn : Str) (td tn : Tok), m₀ (Str.ofString "resp") = some (.str x tx) ∧ m₀ (Str.ofString "n") = some (.int x.length tn) ∧ m₁ (Str.ofString "i") = some (.int i ti) ∧ m₁ (Str.ofString "dirname") = some (.str dn td) ∧
    (∀ y, y ≠ Str.ofString "i" → y ≠ Str.ofString "dirname" → y ≠ Str.ofString "c" → m₁ y = m₀ y) ∧ i ≤ x.length ∧ dn.length ≤ i ∧ n = x.length - i ∧ go (x.cps.toList.drop i) dn.cps.toList = go (x.cps.toList.drop 5) []
theorem canonW {m₁ m₀ : Str → Option Value} {a b : Option Value} (h1 : m₁ (Str.ofString "i") = a) (h2 : m₁ (Str.ofString "dirname") = b) (h3 : ∀ y, y ≠ Str.ofString "i" → y ≠ Str.ofString "dirname" → y ≠ Str.ofString "c" → m₁ y = m₀ y) :
    m₁ = fun y => if y = Str.ofString "i" then a else if y = Str.ofString "dirname" then b else if y = Str.ofString "c" then m₁ (Str.ofString "c") else m₀ y := by
  funext y
  by_cases e1 : y = Str.ofString "i"
  · rw [if_pos e1, e1, h1]
  · rw [if_neg e1]
    by_cases e2 : y = Str.ofString "dirname"
    · rw [if_pos e2, e2, h2]
    · rw [if_neg e2]
      by_cases e3 : y = Str.ofString "c"
      · rw [if_pos e3, e3]
      · rw [if_neg e3, h3 y e1 e2 e3]

theorem c_parse {w mean mg mb} (x : Str) (t1 : Tok) (hx : x.length ≤ 1000) (h1 : Txt.slice x none (some 3) = Str.ofString "257") (h2 : Txt.slice x (some 3) (some 5) = Str.ofString " \"") (h5 : 5 ≤ x.length) :
    Ct w mean mg mb 46 1 40 [.str x t1] [] (fun _ _ => True)
      (fun v new => ∃ r t, r.cps.toList = go (x.cps.toList.drop 5) [] ∧ v = .str r t ∧ new = []) := by
  w_top off
  unfold Ct
  k_fill
  intro dp un gd cn cs a ccd cl outer A₀ base h₀ L m s Q E news rest B F X N T hk hsub hrest hpre hdp hun hret
  refine wpAny_call ?_
  k_dflt (refine' callS _ _ hsub hrest ?k1 ?k2 ?k3 ?k4 ?k5 ?kA ?kF ?kK ?k6 ?k7 ?k8 ?k9 ?kB ?_ ?c2 ?c3 ?c4 ?c5; (case kA => exact rfl); (case kF => exact rfl); (case kK => assumption); (case k1 => k_asm); (case k2 => k_asm); (case k3 => k_asm); (case k4 => k_asm); (case k5 => k_asm); (case k6 => k_is); (case k7 => k_is); (case k8 => ktr_room); (case k9 => exact BindsTo.of_eq rfl); (case c5 => decide); (case kB => exact locs rfl); (case c2 => exact rfl); (case c3 => exact rfl); (case c4 => exact rfl); k_whole; intro g' L' h' FG' F' N' B' X' T' hg; (try dsimp only); (try k_lift B'); (try k_fold))
  clear hrest N
  repeat' (first | (k_unfold; (try dsimp only)) | (k_end; wrow_close) | ((with_reducible show wpAny _ _ (exec (Stmt.While _ _ _ _) _) _ _ _); ((rename Fr _ _ _ _ => F'); (rename News _ _ _ _ => N'); refine While_stop JW F' N' ?_)) | walk1 | (dsimp only; first | ((with_reducible show wpAny _ _ (exec (Stmt.While _ _ _ _) _) _ _ _); ((rename Fr _ _ _ _ => F'); (rename News _ _ _ _ => N'); refine While_stop JW F' N' ?_)) | walk1) | (leave1; try dsimp only) | fail "no step")
  all_goals first
    | (exfalso
       have h : (Txt.slice x none (some 3) != Str.ofString "257") = true := by assumption
       rw [h1] at h
       exact absurd h (by decide))
    | (exfalso
       have h : (Txt.slice x (some 3) (some 5) != Str.ofString " \"") = true := by assumption
       rw [h2] at h
       exact absurd h (by decide))
    | skip
  unfold Stop
  refine ⟨⟨x.length - 5, rfl, x, _, 5, _, Str.ofString "", _, _, rfl, rfl, rfl, rfl, fun _ _ _ _ => rfl, h5, Nat.zero_le _, rfl, rfl⟩, ?_⟩
  intro n m₁ news₁ h₁ tk₁ F₁ N₁ hJ
  obtain ⟨rfl, x', tx, i, ti, dn, td, tn, e1, e2, e3, e4, e5, hi, hd, hn, hg5⟩ := hJ
  have e1' : some (Value.str x t1) = some (Value.str x' tx) := e1
  obtain ⟨rfl, rfl⟩ := Value.str.inj (Option.some.inj e1')
  have F₂ := F₁
  rw [canonW e3 e4 e5] at F₂
  generalize m₁ (Str.ofString "c") = oc at F₂
  clear e1 e1' e2 e3 e4 e5 F₁
  repeat' (first | (k_unfold; (try dsimp only)) | (k_end; wrow_close) | ((with_reducible show wpAny _ _ (exec (Stmt.While _ _ _ _) _) _ _ _); ((rename Fr _ _ _ _ => F'); (rename News _ _ _ _ => N'); refine While_stop JW F' N' ?_)) | walk1 | (dsimp only; first | ((with_reducible show wpAny _ _ (exec (Stmt.While _ _ _ _) _) _ _ _); ((rename Fr _ _ _ _ => F'); (rename News _ _ _ _ => N'); refine While_stop JW F' N' ?_)) | walk1) | (leave1; try dsimp only) | fail "no step")
  all_goals (try (dsimp only [WhileStep2]))
  all_goals first
    | (refine ⟨_, _, _, [], x.length - (i + 2), rfl, by assumption, by assumption, by omega, rfl, x, _, i + 2, _, _, _, _, rfl, rfl, rfl, rfl, ?_, ?_, ?_, rfl, go_qq (by assumption) (by assumption) (by assumption) (by assumption) hg5⟩
       · (intro y n1 n2 n3; simp only [if_neg n1, if_neg n2, if_neg n3])
       · omega
       · omega)
    | (refine ⟨_, _, _, [], x.length - (i + 1), rfl, by assumption, by assumption, by omega, rfl, x, _, i + 1, _, _, _, _, rfl, rfl, rfl, rfl, ?_, ?_, ?_, rfl, go_cc (by assumption) (by assumption) hg5⟩
       · (intro y n1 n2 n3; simp only [if_neg n1, if_neg n2, if_neg n3])
       · omega
       · omega)
    | repeat' (first | (k_unfold; (try dsimp only)) | (k_end; wrow_close) | ((with_reducible show wpAny _ _ (exec (Stmt.While _ _ _ _) _) _ _ _); ((rename Fr _ _ _ _ => F'); (rename News _ _ _ _ => N'); refine While_stop JW F' N' ?_)) | walk1 | (dsimp only; first | ((with_reducible show wpAny _ _ (exec (Stmt.While _ _ _ _) _) _ _ _); ((rename Fr _ _ _ _ => F'); (rename News _ _ _ _ => N'); refine While_stop JW F' N' ?_)) | walk1) | (leave1; try dsimp only) | fail "no step")
  all_goals first
    | ((rename News _ _ _ _ => hR); (revert hR); (rename News _ _ _ _ => kN); (rename Fr _ _ _ _ => kF); (revert kN); (rename News _ _ _ _ => nN); (intro kN hR)
       refine' ct_ret hret kF kN hR nN hg ?sub ⟨_, _, ?eq, rfl, rfl⟩
       (case sub => exact SubL.mem (by k_subL))
       (case eq => first
         | exact (go_brk1 (by assumption) (by assumption) (by assumption)).symm.trans hg5
         | exact (go_brk2 (by assumption) (by assumption) (by assumption) (by assumption)).symm.trans hg5
         | exact (go_end (by assumption)).symm.trans hg5))
end Mine
namespace Mine
open PySem.Flt
section
variable {prog : Program} {w : World} {A : Around} {E : Value → Shared → Prop} {s : Shared} {Q : Value → Shared → Prop}
theorem max3_num {a b c : Value} (hh : A.handled = none) (ha : NumV a) (hb : NumV b) (hc : NumV c)
    (h : ∀ h' tk, (∀ d o, s.heap.get? d = some o → h'.get? d = some o) → Q (if ltV a b then (if ltV b c then c else b) else (if ltV a c then c else a)) { s with heap := h', toks := tk }) :
    wpAny (model prog w) A (call (.builtin "max") [a, b, c]) Q E s := by
  have hT : (s.heap.push { cls := .type "tuple", data := .seq #[a, b, c] }).IsTuple s.heap.objs.size #[a, b, c] := ⟨_, Heap.get?_push_size _ rfl, rfl, 0, rfl⟩
  refine call_max_three (wpAny_pyIter_tuple hT ?_)
  have hsz : (s.heap.push { cls := .type "tuple", data := .seq #[a, b, c] }).objs.size = s.heap.objs.size + 1 := Heap.size_push ..
  refine ⟨_, [_, s.heap.objs.size], [_], _, _, _, _, rfl, Walks.tuple (A := A.in1) hh _ s.heap.objs.size (by rw [hsz]; exact Nat.ne_of_lt (Nat.lt_succ_self _)) #[a, b, c],
    ⟨⟨_, Heap.get?_push_size _ rfl, rfl, rfl⟩, hT.push _⟩, fun d hd => ?_, by simp, cmpOf_gt #[a, b, c] (by simp [ha, hb, hc]), fun v h' tk hP hk => ?_⟩
  · show d < ((s.heap.push _).push _).objs.size
    rw [Heap.size_push, hsz]
    rcases List.mem_cons.mp hd with rfl | hd
    · rw [hsz]; exact Nat.lt_succ_self _
    · rw [List.mem_singleton.mp hd]; exact Nat.lt_succ_of_lt (Nat.lt_succ_self _)
  · have hold : ∀ d o, s.heap.get? d = some o → h'.get? d = some o := fun d o e => by
      refine hk d o (fun hm => ?_) (Heap.get?_push_of_some _ (Heap.get?_push_of_some _ e))
      have e1 := List.mem_singleton.mp hm
      have := Heap.lt_size e
      rw [e1, hsz] at this
      exact Nat.lt_irrefl _ (Nat.lt_of_succ_lt this)
    have := h h' tk hold
    have hv : v = if ltV a b then (if ltV b c then c else b) else (if ltV a c then c else a) := by
      cases h1 : ltV a b <;> cases h2 : ltV b c <;> cases h3 : ltV a c <;> simp [argBest, h1, h2, h3] at hP <;> simp [hP]
    rw [hv]; exact this
theorem min3_num {a b c : Value} (hh : A.handled = none) (ha : NumV a) (hb : NumV b) (hc : NumV c)
    (h : ∀ h' tk, (∀ d o, s.heap.get? d = some o → h'.get? d = some o) → Q (if ltV b a then (if ltV c b then c else b) else (if ltV c a then c else a)) { s with heap := h', toks := tk }) :
    wpAny (model prog w) A (call (.builtin "min") [a, b, c]) Q E s := by
  have hT : (s.heap.push { cls := .type "tuple", data := .seq #[a, b, c] }).IsTuple s.heap.objs.size #[a, b, c] := ⟨_, Heap.get?_push_size _ rfl, rfl, 0, rfl⟩
  refine call_min_three (wpAny_pyIter_tuple hT ?_)
  have hsz : (s.heap.push { cls := .type "tuple", data := .seq #[a, b, c] }).objs.size = s.heap.objs.size + 1 := Heap.size_push ..
  refine ⟨_, [_, s.heap.objs.size], [_], _, _, _, _, rfl, Walks.tuple (A := A.in1) hh _ s.heap.objs.size (by rw [hsz]; exact Nat.ne_of_lt (Nat.lt_succ_self _)) #[a, b, c],
    ⟨⟨_, Heap.get?_push_size _ rfl, rfl, rfl⟩, hT.push _⟩, fun d hd => ?_, by simp, cmpOf_lt #[a, b, c] (by simp [ha, hb, hc]), fun v h' tk hP hk => ?_⟩
  · show d < ((s.heap.push _).push _).objs.size
    rw [Heap.size_push, hsz]
    rcases List.mem_cons.mp hd with rfl | hd
    · rw [hsz]; exact Nat.lt_succ_self _
    · rw [List.mem_singleton.mp hd]; exact Nat.lt_succ_of_lt (Nat.lt_succ_self _)
  · have hold : ∀ d o, s.heap.get? d = some o → h'.get? d = some o := fun d o e => by
      refine hk d o (fun hm => ?_) (Heap.get?_push_of_some _ (Heap.get?_push_of_some _ e))
      have e1 := List.mem_singleton.mp hm
      have := Heap.lt_size e
      rw [e1, hsz] at this
      exact Nat.lt_irrefl _ (Nat.lt_of_succ_lt this)
    have := h h' tk hold
    have hv : v = if ltV b a then (if ltV c b then c else b) else (if ltV c a then c else a) := by
      cases h1 : ltV b a <;> cases h2 : ltV c b <;> cases h3 : ltV c a <;> simp [argBest, h1, h2, h3] at hP <;> simp [hP]
    rw [hv]; exact this
def ltF (x y : UInt64) : Bool := Float64.cmp x y == some .lt
def max3 (x y z : UInt64) : UInt64 := if ltF x y then (if ltF y z then z else y) else (if ltF x z then z else x)
def min3 (x y z : UInt64) : UInt64 := if ltF y x then (if ltF z y then z else y) else (if ltF z x then z else x)
theorem max3_fff {x y z : UInt64} {t u v : Tok} {h₀ : Heap} {L : Addr} {m : Str → Option Value} {news : List (Addr × Obj)} (hh : A.handled = none) (F : Fr h₀ L s.heap m) (N : News h₀ L s.heap news)
    (h : ∀ h' tk r, Fr h₀ L h' m → News h₀ L h' news → Q (.float (max3 x y z) r) { s with heap := h', toks := tk }) : wpAny (model prog w) A (call (.builtin "max") [.float x t, .float y u, .float z v]) Q E s :=
  max3_num hh (.float x t) (.float y u) (.float z v) fun h' tk kp => by
    have e : ∃ r, (if ltV (.float x t) (.float y u) then (if ltV (.float y u) (.float z v) then (Value.float z v) else .float y u) else (if ltV (.float x t) (.float z v) then .float z v else .float x t)) = .float (max3 x y z) r := by
      show ∃ r, (if ltF x y then (if ltF y z then (Value.float z v) else .float y u) else (if ltF x z then .float z v else .float x t)) = .float (max3 x y z) r
      unfold max3
      (repeat' split) <;> exact ⟨_, rfl⟩
    obtain ⟨r, e⟩ := e
    rw [e]
    exact h h' tk r (F.grownK kp) (N.grown kp)
theorem min3_fff {x y z : UInt64} {t u v : Tok} {h₀ : Heap} {L : Addr} {m : Str → Option Value} {news : List (Addr × Obj)} (hh : A.handled = none) (F : Fr h₀ L s.heap m) (N : News h₀ L s.heap news)
    (h : ∀ h' tk r, Fr h₀ L h' m → News h₀ L h' news → Q (.float (min3 x y z) r) { s with heap := h', toks := tk }) : wpAny (model prog w) A (call (.builtin "min") [.float x t, .float y u, .float z v]) Q E s :=
  min3_num hh (.float x t) (.float y u) (.float z v) fun h' tk kp => by
    have e : ∃ r, (if ltV (.float y u) (.float x t) then (if ltV (.float z v) (.float y u) then (Value.float z v) else .float y u) else (if ltV (.float z v) (.float x t) then .float z v else .float x t)) = .float (min3 x y z) r := by
      show ∃ r, (if ltF y x then (if ltF z y then (Value.float z v) else .float y u) else (if ltF z x then .float z v else .float x t)) = .float (min3 x y z) r
      unfold min3
      (repeat' split) <;> exact ⟨_, rfl⟩
    obtain ⟨r, e⟩ := e
    rw [e]
    exact h h' tk r (F.grownK kp) (N.grown kp)
end



def yF (x y z : UInt64) : UInt64 := Float64.add (Float64.add (Float64.mul 4599075939470750515 x) (Float64.mul 4603489467105573601 y)) (Float64.mul 4592590756007337001 z)
def iF (x y z : UInt64) : UInt64 := Float64.sub (Float64.mul 4604840546993784750 (Float64.sub x (yF x y z))) (Float64.mul 4598535507515466056 (Float64.sub z (yF x y z)))
def qF (x y z : UInt64) : UInt64 := Float64.add (Float64.mul 4602318531202457272 (Float64.sub x (yF x y z))) (Float64.mul 4601057523306793533 (Float64.sub z (yF x y z)))
structure YiqIs (x y z p q r : UInt64) : Prop where
  cy : yF x y z = p
  ci : iF x y z = q
  cq : qF x y z = r
theorem c_yiq {w mean mg mb} (x y z : UInt64) (t1 t2 t3 : Tok) : Ct w mean mg mb 53 1 20 [.float x t1, .float y t2, .float z t3] [] (fun _ _ => True)
    (fun v new => ∃ a p q r t1 t2 t3, YiqIs x y z p q r ∧ v = .ref a ∧ new = [(a, tup3 p q r t1 t2 t3)]) := by
  w_top off
  unfold Ct
  k_fill
  intro dp un gd cn cs a ccd cl outer A₀ base h₀ L m s Q E news rest B F X N T hk hsub hrest hpre hdp hun hret
  refine wpAny_call ?_
  k_dflt (refine' callS _ _ hsub hrest ?k1 ?k2 ?k3 ?k4 ?k5 ?kA ?kF ?kK ?k6 ?k7 ?k8 ?k9 ?kB ?_ ?c2 ?c3 ?c4 ?c5; (case kA => exact rfl); (case kF => exact rfl); (case kK => assumption); (case k1 => k_asm); (case k2 => k_asm); (case k3 => k_asm); (case k4 => k_asm); (case k5 => k_asm); (case k6 => k_is); (case k7 => k_is); (case k8 => ktr_room); (case k9 => exact BindsTo.of_eq rfl); (case c5 => decide); (case kB => exact locs rfl); (case c2 => exact rfl); (case c3 => exact rfl); (case c4 => exact rfl); k_whole; intro g' L' h' FG' F' N' B' X' T' hg; (try dsimp only); (try k_lift B'); (try k_fold))
  clear hrest N
  repeat' (first | (k_unfold; (try dsimp only)) | (k_end; wrow_close) | ((with_reducible show wpAny _ _ (call (Value.builtin "min") [Value.float _ _, Value.float _ _, Value.float _ _]) _ _ _); ((with_reducible show wpAny _ _ (call _ [Value.float _ _, Value.float _ _, Value.float _ _]) _ _ _); (rename News _ _ _ _ => N'); (rename Fr _ _ _ _ => F'); refine min3_fff rfl F' N' ?_; clear N'; intro _ _ _ _ _)) | ((with_reducible show wpAny _ _ (call (Value.builtin "max") [Value.float _ _, Value.float _ _, Value.float _ _]) _ _ _); ((with_reducible show wpAny _ _ (call _ [Value.float _ _, Value.float _ _, Value.float _ _]) _ _ _); (rename News _ _ _ _ => N'); (rename Fr _ _ _ _ => F'); refine max3_fff rfl F' N' ?_; clear N'; intro _ _ _ _ _)) | walk1 | (dsimp only; first | ((with_reducible show wpAny _ _ (call (Value.builtin "min") [Value.float _ _, Value.float _ _, Value.float _ _]) _ _ _); ((with_reducible show wpAny _ _ (call _ [Value.float _ _, Value.float _ _, Value.float _ _]) _ _ _); (rename News _ _ _ _ => N'); (rename Fr _ _ _ _ => F'); refine min3_fff rfl F' N' ?_; clear N'; intro _ _ _ _ _)) | ((with_reducible show wpAny _ _ (call (Value.builtin "max") [Value.float _ _, Value.float _ _, Value.float _ _]) _ _ _); ((with_reducible show wpAny _ _ (call _ [Value.float _ _, Value.float _ _, Value.float _ _]) _ _ _); (rename News _ _ _ _ => N'); (rename Fr _ _ _ _ => F'); refine max3_fff rfl F' N' ?_; clear N'; intro _ _ _ _ _)) | walk1) | (leave1; try dsimp only) | fail "no step")
  (rename News _ _ _ _ => hR); (revert hR); (rename News _ _ _ _ => kN); (rename Fr _ _ _ _ => kF); (revert kN); (rename News _ _ _ _ => nN); (intro kN hR)
  refine' ct_ret hret kF kN hR nN hg ?sub ⟨_, _, _, _, _, _, _, ⟨rfl, rfl, rfl⟩, rfl, rfl⟩
  (case sub => exact SubL.mem (by k_subL))

def hueF (x y z : UInt64) : UInt64 :=
  (Float64.divmod (Float64.div (if (Float64.cmp x (max3 x y z) == some Ordering.eq) = true then
      Float64.sub (Float64.div (Float64.sub (max3 x y z) z) (Float64.sub (max3 x y z) (min3 x y z))) (Float64.div (Float64.sub (max3 x y z) y) (Float64.sub (max3 x y z) (min3 x y z)))
    else if (Float64.cmp y (max3 x y z) == some Ordering.eq) = true then
      Float64.sub (Float64.add 4611686018427387904 (Float64.div (Float64.sub (max3 x y z) x) (Float64.sub (max3 x y z) (min3 x y z)))) (Float64.div (Float64.sub (max3 x y z) z) (Float64.sub (max3 x y z) (min3 x y z)))
    else Float64.sub (Float64.add 4616189618054758400 (Float64.div (Float64.sub (max3 x y z) y) (Float64.sub (max3 x y z) (min3 x y z)))) (Float64.div (Float64.sub (max3 x y z) x) (Float64.sub (max3 x y z) (min3 x y z))))
    4618441417868443648) 4607182418800017408).snd
def hsvF (x y z : UInt64) : UInt64 × UInt64 × UInt64 := if (Float64.cmp (min3 x y z) (max3 x y z) == some Ordering.eq) = true then (0, 0, max3 x y z) else (hueF x y z, Float64.div (Float64.sub (max3 x y z) (min3 x y z)) (max3 x y z), max3 x y z)
structure HsvIs (x y z p q r : UInt64) : Prop where
  eq : hsvF x y z = (p, q, r)
theorem ff_ne {b : Bool} (h : b = false) : ¬ b = true := by rw [h]; exact Bool.false_ne_true
theorem c_hsv {w mean mg mb} (x y z : UInt64) (t1 t2 t3 : Tok)
    (hz : (Float64.cmp (min3 x y z) (max3 x y z) == some Ordering.eq) = false → ¬ Float64.isZero (max3 x y z) = true ∧ ¬ Float64.isZero (Float64.sub (max3 x y z) (min3 x y z)) = true) :
    Ct w mean mg mb 67 1 20 [.float x t1, .float y t2, .float z t3] [] (fun _ _ => True)
      (fun v new => ∃ a p q r t1 t2 t3, HsvIs x y z p q r ∧ v = .ref a ∧ new = [(a, tup3 p q r t1 t2 t3)]) := by
  w_top off
  unfold Ct
  k_fill
  intro dp un gd cn cs a ccd cl outer A₀ base h₀ L m s Q E news rest B F X N T hk hsub hrest hpre hdp hun hret
  refine wpAny_call ?_
  k_dflt (refine' callS _ _ hsub hrest ?k1 ?k2 ?k3 ?k4 ?k5 ?kA ?kF ?kK ?k6 ?k7 ?k8 ?k9 ?kB ?_ ?c2 ?c3 ?c4 ?c5; (case kA => exact rfl); (case kF => exact rfl); (case kK => assumption); (case k1 => k_asm); (case k2 => k_asm); (case k3 => k_asm); (case k4 => k_asm); (case k5 => k_asm); (case k6 => k_is); (case k7 => k_is); (case k8 => ktr_room); (case k9 => exact BindsTo.of_eq rfl); (case c5 => decide); (case kB => exact locs rfl); (case c2 => exact rfl); (case c3 => exact rfl); (case c4 => exact rfl); k_whole; intro g' L' h' FG' F' N' B' X' T' hg; (try dsimp only); (try k_lift B'); (try k_fold))
  clear hrest N
  repeat' (first | (k_unfold; (try dsimp only)) | (k_end; wrow_close) | ((with_reducible show wpAny _ _ (call (Value.builtin "min") [Value.float _ _, Value.float _ _, Value.float _ _]) _ _ _); ((with_reducible show wpAny _ _ (call _ [Value.float _ _, Value.float _ _, Value.float _ _]) _ _ _); (rename News _ _ _ _ => N'); (rename Fr _ _ _ _ => F'); refine min3_fff rfl F' N' ?_; clear N'; intro _ _ _ _ _)) | ((with_reducible show wpAny _ _ (call (Value.builtin "max") [Value.float _ _, Value.float _ _, Value.float _ _]) _ _ _); ((with_reducible show wpAny _ _ (call _ [Value.float _ _, Value.float _ _, Value.float _ _]) _ _ _); (rename News _ _ _ _ => N'); (rename Fr _ _ _ _ => F'); refine max3_fff rfl F' N' ?_; clear N'; intro _ _ _ _ _)) | walk1 | (dsimp only; first | ((with_reducible show wpAny _ _ (call (Value.builtin "min") [Value.float _ _, Value.float _ _, Value.float _ _]) _ _ _); ((with_reducible show wpAny _ _ (call _ [Value.float _ _, Value.float _ _, Value.float _ _]) _ _ _); (rename News _ _ _ _ => N'); (rename Fr _ _ _ _ => F'); refine min3_fff rfl F' N' ?_; clear N'; intro _ _ _ _ _)) | ((with_reducible show wpAny _ _ (call (Value.builtin "max") [Value.float _ _, Value.float _ _, Value.float _ _]) _ _ _); ((with_reducible show wpAny _ _ (call _ [Value.float _ _, Value.float _ _, Value.float _ _]) _ _ _); (rename News _ _ _ _ => N'); (rename Fr _ _ _ _ => F'); refine max3_fff rfl F' N' ?_; clear N'; intro _ _ _ _ _)) | walk1) | (leave1; try dsimp only) | fail "no step")
  all_goals first
    | (exact absurd (by assumption) (hz (by assumption)).1)
    | (exact absurd (by assumption) (hz (by assumption)).2)
    | ((rename News _ _ _ _ => hR); (revert hR); (rename News _ _ _ _ => kN); (rename Fr _ _ _ _ => kF); (revert kN); (rename News _ _ _ _ => nN); (intro kN hR)
       refine' ct_ret hret kF kN hR nN hg ?sub ⟨_, _, _, _, _, _, _, ⟨?eq⟩, rfl, rfl⟩
       (case sub => exact SubL.mem (by k_subL))
       (case eq => (unfold hsvF hueF; (repeat first | rw [if_pos (by assumption)] | rw [if_neg (ff_ne (by assumption))]))))
def lF (x y z : UInt64) : UInt64 := Float64.div (Float64.add (max3 x y z) (min3 x y z)) 4611686018427387904
def lowF (x y z : UInt64) : Bool := (Float64.cmp (lF x y z) 4602678819172646912 == some Ordering.lt || Float64.cmp (lF x y z) 4602678819172646912 == some Ordering.eq)
def hlsF (x y z : UInt64) : UInt64 × UInt64 × UInt64 := if (Float64.cmp (min3 x y z) (max3 x y z) == some Ordering.eq) = true then (0, lF x y z, 0) else
  (hueF x y z, lF x y z, if lowF x y z = true then Float64.div (Float64.sub (max3 x y z) (min3 x y z)) (Float64.add (max3 x y z) (min3 x y z)) else Float64.div (Float64.sub (max3 x y z) (min3 x y z)) (Float64.sub (Float64.sub 4611686018427387904 (max3 x y z)) (min3 x y z)))
structure HlsIs (x y z p q r : UInt64) : Prop where
  eq : hlsF x y z = (p, q, r)
theorem c_hls {w mean mg mb} (x y z : UInt64) (t1 t2 t3 : Tok)
    (hz : (Float64.cmp (min3 x y z) (max3 x y z) == some Ordering.eq) = false → ¬ Float64.isZero (Float64.add (max3 x y z) (min3 x y z)) = true ∧ ¬ Float64.isZero (Float64.sub (max3 x y z) (min3 x y z)) = true ∧ ¬ Float64.isZero (Float64.sub (Float64.sub 4611686018427387904 (max3 x y z)) (min3 x y z)) = true) :
    Ct w mean mg mb 60 1 20 [.float x t1, .float y t2, .float z t3] [] (fun _ _ => True)
      (fun v new => ∃ a p q r t1 t2 t3, HlsIs x y z p q r ∧ v = .ref a ∧ new = [(a, tup3 p q r t1 t2 t3)]) := by
  w_top off
  unfold Ct
  k_fill
  intro dp un gd cn cs a ccd cl outer A₀ base h₀ L m s Q E news rest B F X N T hk hsub hrest hpre hdp hun hret
  refine wpAny_call ?_
  k_dflt (refine' callS _ _ hsub hrest ?k1 ?k2 ?k3 ?k4 ?k5 ?kA ?kF ?kK ?k6 ?k7 ?k8 ?k9 ?kB ?_ ?c2 ?c3 ?c4 ?c5; (case kA => exact rfl); (case kF => exact rfl); (case kK => assumption); (case k1 => k_asm); (case k2 => k_asm); (case k3 => k_asm); (case k4 => k_asm); (case k5 => k_asm); (case k6 => k_is); (case k7 => k_is); (case k8 => ktr_room); (case k9 => exact BindsTo.of_eq rfl); (case c5 => decide); (case kB => exact locs rfl); (case c2 => exact rfl); (case c3 => exact rfl); (case c4 => exact rfl); k_whole; intro g' L' h' FG' F' N' B' X' T' hg; (try dsimp only); (try k_lift B'); (try k_fold))
  clear hrest N
  repeat' (first | (k_unfold; (try dsimp only)) | (k_end; wrow_close) | ((with_reducible show wpAny _ _ (call (Value.builtin "min") [Value.float _ _, Value.float _ _, Value.float _ _]) _ _ _); ((with_reducible show wpAny _ _ (call _ [Value.float _ _, Value.float _ _, Value.float _ _]) _ _ _); (rename News _ _ _ _ => N'); (rename Fr _ _ _ _ => F'); refine min3_fff rfl F' N' ?_; clear N'; intro _ _ _ _ _)) | ((with_reducible show wpAny _ _ (call (Value.builtin "max") [Value.float _ _, Value.float _ _, Value.float _ _]) _ _ _); ((with_reducible show wpAny _ _ (call _ [Value.float _ _, Value.float _ _, Value.float _ _]) _ _ _); (rename News _ _ _ _ => N'); (rename Fr _ _ _ _ => F'); refine max3_fff rfl F' N' ?_; clear N'; intro _ _ _ _ _)) | walk1 | (dsimp only; first | ((with_reducible show wpAny _ _ (call (Value.builtin "min") [Value.float _ _, Value.float _ _, Value.float _ _]) _ _ _); ((with_reducible show wpAny _ _ (call _ [Value.float _ _, Value.float _ _, Value.float _ _]) _ _ _); (rename News _ _ _ _ => N'); (rename Fr _ _ _ _ => F'); refine min3_fff rfl F' N' ?_; clear N'; intro _ _ _ _ _)) | ((with_reducible show wpAny _ _ (call (Value.builtin "max") [Value.float _ _, Value.float _ _, Value.float _ _]) _ _ _); ((with_reducible show wpAny _ _ (call _ [Value.float _ _, Value.float _ _, Value.float _ _]) _ _ _); (rename News _ _ _ _ => N'); (rename Fr _ _ _ _ => F'); refine max3_fff rfl F' N' ?_; clear N'; intro _ _ _ _ _)) | walk1) | (leave1; try dsimp only) | fail "no step")
  all_goals first
    | (exact absurd (by assumption) (hz (by assumption)).1)
    | (exact absurd (by assumption) (hz (by assumption)).2.1)
    | (exact absurd (by assumption) (hz (by assumption)).2.2)
    | ((rename News _ _ _ _ => hR); (revert hR); (rename News _ _ _ _ => kN); (rename Fr _ _ _ _ => kF); (revert kN); (rename News _ _ _ _ => nN); (intro kN hR)
       refine' ct_ret hret kF kN hR nN hg ?sub ⟨_, _, _, _, _, _, _, ⟨?eq⟩, rfl, rfl⟩
       (case sub => exact SubL.mem (by k_subL))
       (case eq => (unfold hlsF hueF lowF lF; (repeat first | rw [if_pos (by assumption)] | rw [if_neg (ff_ne (by assumption))]))))
end Mine
namespace Mine
theorem fmod_pos (x : Int) {k : Int} (h : 0 < k) : 0 ≤ x.fmod k ∧ x.fmod k < k := ⟨Int.fmod_nonneg_of_pos x h, Int.fmod_lt_of_pos x h⟩
theorem hue8_at : ∀ k : Nat, k < 8 → (Float64.isFinite (Float64.mul (divI k 8) 4618441417868443648) = true ∧ 0 ≤ Flt.toInt Float64.truncOf (Float64.mul (divI k 8) 4618441417868443648) ∧ Flt.toInt Float64.truncOf (Float64.mul (divI k 8) 4618441417868443648) < 6) := by decide +kernel
theorem hue8 (x : Int) : Float64.isFinite (Float64.mul (divI (x.fmod 8) 8) 4618441417868443648) = true ∧ 0 ≤ Flt.toInt Float64.truncOf (Float64.mul (divI (x.fmod 8) 8) 4618441417868443648) ∧ Flt.toInt Float64.truncOf (Float64.mul (divI (x.fmod 8) 8) 4618441417868443648) < 6 := by
  have h := fmod_pos x (k := 8) (by decide)
  obtain ⟨n, e⟩ := Int.eq_ofNat_of_zero_le h.1
  rw [e] at h ⊢
  exact hue8_at n (by omega)
theorem least_in {v s : Int} (hv : 0 ≤ v ∧ v < 3) (hs : 0 ≤ s ∧ s < 3) : 0 ≤ 4 * v * (2 - s) ∧ 4 * v * (2 - s) ≤ 16 ∧ 4 * v * (2 - s) ≤ 8 * v := by
  have h1 : v = 0 ∨ v = 1 ∨ v = 2 := by omega
  have h2 : s = 0 ∨ s = 1 ∨ s = 2 := by omega
  rcases h1 with rfl | rfl | rfl <;> rcases h2 with rfl | rfl | rfl <;> decide

theorem ne_tup3 {K : Frag} {prog : Program} {w : World} {A : Around} {E : Value → Shared → Prop} {s : Shared} {a b : Addr} {x y z x' y' z' : UInt64} {t1 t2 t3 t4 t5 t6 : Tok} {Q : Value → Shared → Prop}
    (ha : s.heap.get? a = some (tup3 x y z t1 t2 t3)) (hb : s.heap.get? b = some (tup3 x' y' z' t4 t5 t6)) (hu : A.units < cLine) (X : K.In s.heap) (hn : nsIn K cStatics sharingNotToldKey = some none) (ht : (0 < t1 ∧ 0 < t2 ∧ 0 < t3) ∧ 0 < t4 ∧ 0 < t5 ∧ 0 < t6)
    (he : (Float64.cmp x x' == some Ordering.eq) = true ∧ (Float64.cmp y y' == some Ordering.eq) = true ∧ (Float64.cmp z z' == some Ordering.eq) = true) (h : Q (.bool false) s) :
    wpAny (model prog w) A (compareOp .NotEq (.ref a) (.ref b)) Q E s := by
  have h1 := SeqAt.RcNeAt.tuples (A := A) (e := fun _ => true) (⟨_, ha, rfl, 0, rfl⟩ : s.heap.IsTuple a #[.float x t1, .float y t2, .float z t3]) (⟨_, hb, rfl, 0, rfl⟩ : s.heap.IsTuple b #[.float x' t4, .float y' t5, .float z' t6]) hu (by
    intro j h1 h2
    have hj : j = 0 ∨ j = 1 ∨ j = 2 := by simp at h1; omega
    rcases hj with rfl | rfl | rfl
    · exact eqAt_float X hn ht.1.1 ht.2.1 he.1
    · exact eqAt_float X hn ht.1.2.1 ht.2.2.1 he.2.1
    · exact eqAt_float X hn ht.1.2.2 ht.2.2.2 he.2.2)
  exact cmp_ofNotEq (h1 prog w E Q h)
def paintOk (k s v : Nat) : Bool :=
  let c := rgbF (divI k 8) (divI s 2) (divI v 2)
  let l : Int := 4 * (v : Int) * (2 - (s : Int))
  let m : Int := 8 * (v : Int)
  (Float64.cmp c.1 (divI (partI (3 * (k : Int)) 4 l m 0) 16) == some Ordering.eq) && (Float64.cmp c.2.1 (divI (partI (3 * (k : Int)) 4 l m (2 * 4)) 16) == some Ordering.eq) && (Float64.cmp c.2.2 (divI (partI (3 * (k : Int)) 4 l m (4 * 4)) 16) == some Ordering.eq)
theorem paint_all : ∀ k : Nat, k < 8 → ∀ s : Nat, s < 3 → ∀ v : Nat, v < 3 → paintOk k s v = true := by decide +kernel
theorem paint_eq {x : Int} {p q r : UInt64} {p' q' r' : Int} (hR : RgbIs (divI (x.fmod 8) 8) (divI ((x.fdiv 8).fmod 3) 2) (divI ((x.fdiv 24).fmod 3) 2) p q r)
    (hP : PartsAre (3 * x.fmod 8) 4 (4 * (x.fdiv 24).fmod 3 * (2 - (x.fdiv 8).fmod 3)) (8 * (x.fdiv 24).fmod 3) p' q' r') :
    (Float64.cmp p (divI p' 16) == some Ordering.eq) = true ∧ (Float64.cmp q (divI q' 16) == some Ordering.eq) = true ∧ (Float64.cmp r (divI r' 16) == some Ordering.eq) = true := by
  have b1 := fmod_pos x (k := 8) (by decide)
  have b2 := fmod_pos (x.fdiv 8) (k := 3) (by decide)
  have b3 := fmod_pos (x.fdiv 24) (k := 3) (by decide)
  obtain ⟨k, e1⟩ := Int.eq_ofNat_of_zero_le b1.1
  obtain ⟨s, e2⟩ := Int.eq_ofNat_of_zero_le b2.1
  obtain ⟨v, e3⟩ := Int.eq_ofNat_of_zero_le b3.1
  obtain ⟨hR⟩ := hR
  obtain ⟨h1, h2, h3⟩ := hP
  rw [e1] at b1 hR h1 h2 h3
  rw [e2] at b2 hR h1 h2 h3
  rw [e3] at b3 hR h1 h2 h3
  have := paint_all k (by omega) s (by omega) v (by omega)
  simp only [paintOk, hR, h1, h2, h3, Bool.and_eq_true] at this
  exact ⟨this.1.1, this.1.2, this.2⟩
structure PaintIs (x : Int) (p q r : Int) : Prop where
  is : PartsAre (3 * x.fmod 8) 4 (4 * (x.fdiv 24).fmod 3 * (2 - (x.fdiv 8).fmod 3)) (8 * (x.fdiv 24).fmod 3) p q r







theorem c_paint {w mean mg mb} (x : Int) (t1 : Tok) :
    Ct w mean mg mb 88 2 30 [.int x t1] [] (fun _ _ => True)
      (fun v new => ∃ a p q r t1 t2 t3 n, PaintIs x p q r ∧ (0 ≤ p ∧ p ≤ 16) ∧ (0 ≤ q ∧ q ≤ 16) ∧ (0 ≤ r ∧ r ≤ 16) ∧ v = .ref a ∧ new = [(a, list3 p q r t1 t2 t3 n)]) := by
  have b1 := fmod_pos x (k := 8) (by decide)
  have b2 := fmod_pos (x.fdiv 8) (k := 3) (by decide)
  have b3 := fmod_pos (x.fdiv 24) (k := 3) (by decide)
  have b4 := least_in b3 b2
  w_top off
  unfold Ct
  k_fill
  intro dp un gd cn cs a ccd cl outer A₀ base h₀ L m s Q E news rest B F X N T hk hsub hrest hpre hdp hun hret
  refine wpAny_call ?_
  k_dflt (refine' callS _ _ hsub hrest ?k1 ?k2 ?k3 ?k4 ?k5 ?kA ?kF ?kK ?k6 ?k7 ?k8 ?k9 ?kB ?_ ?c2 ?c3 ?c4 ?c5; (case kA => exact rfl); (case kF => exact rfl); (case kK => assumption); (case k1 => k_asm); (case k2 => k_asm); (case k3 => k_asm); (case k4 => k_asm); (case k5 => k_asm); (case k6 => k_is); (case k7 => k_is); (case k8 => ktr_room); (case k9 => exact BindsTo.of_eq rfl); (case c5 => decide); (case kB => exact locs rfl); (case c2 => exact rfl); (case c3 => exact rfl); (case c4 => exact rfl); k_whole; intro g' L' h' FG' F' N' B' X' T' hg; (try dsimp only); (try k_lift B'); (try k_fold))
  clear hrest N
  refine gen_toks0 (Nat.add_pos_right _ (Nat.succ_pos _)) ?_
  intro tk0 htk0
  repeat' (first | (k_unfold; (try dsimp only)) | (k_end; wrow_close) | ((with_reducible show wpAny _ _ (compareOp .NotEq (Value.ref _) (Value.ref _)) _ _ _); (k_here; k_dflt (refine' ne_tup3 ?ka ?kb ?ku ?kx ?kn ?kt ?ke ?_; (case ka => exact News.get (by k_asm) (by k_mem)); (case kb => exact News.get (by k_asm) (by k_mem)); (case ku => ktr_units); (case kx => exact Frag.In.keeps (by k_asm) (Fr.keep (by k_asm))); (case kn => exact no_book _); (case kt => (refine ⟨by assumption, ?_, ?_, ?_⟩ <;> (first | assumption | exact Nat.succ_pos _))); (case ke => exact paint_eq (by assumption) (by assumption))))) | (k_here; (with_reducible show wpAny _ _ (call (Value.ref 81) _) _ _ _); k_dflt (refine' Ct.use (c_parts _ _ _ _ _ _ _ _ ?p1 ?p2 ?p3 ?p4 ?p5 ?p6 ?p7 ?p8) ?k1 ?k2 ?k3 ?k4 ?k5 ?kK nil_sub all_rest trivial ?kd ?ku ?_; (case k1 => k_asm); (case k2 => k_asm); (case k3 => k_asm); (case k4 => k_asm); (case k5 => k_asm); (case kK => first | exact rfl | assumption); (case kd => ktr_room); (case ku => ktr_units); (case p1 => omega); (case p2 => omega); (case p3 => omega); (case p4 => omega); (case p5 => omega); (case p6 => omega); (case p7 => omega); (case p8 => omega)); intro v9 new9 h9 tk9 F9 N9 ap9 po9; obtain ⟨a9, p9, q9, r9, t91, t92, t93, n9, e9, b91, b92, b93, ev9, en9⟩ := po9; subst ev9; subst en9; (simp only [List.cons_append, List.nil_append] at N9)) | (k_here; (with_reducible show wpAny _ _ (call (Value.ref 74) _) _ _ _); k_dflt (refine' Ct.use (c_rgb _ _ _ _ _ _ ?p1 ?p2 ?p3 ?p4) ?k1 ?k2 ?k3 ?k4 ?k5 ?kK nil_sub all_rest trivial ?kd ?ku ?_; (case k1 => k_asm); (case k2 => k_asm); (case k3 => k_asm); (case k4 => k_asm); (case k5 => k_asm); (case kK => first | exact rfl | assumption); (case kd => ktr_room); (case ku => ktr_units); (case p1 => first | assumption | exact Nat.succ_pos _); (case p2 => exact (hue8 _).1); (case p3 => exact (hue8 _).2.1); (case p4 => exact (hue8 _).2.2)); intro v9 new9 h9 tk9 F9 N9 ap9 po9; obtain ⟨a9, p9, q9, r9, t91, t92, t93, e9, tp9, ev9, en9⟩ := po9; subst ev9; subst en9; (simp only [List.cons_append, List.nil_append] at N9)) | (k_here; (with_reducible refine gen_toks1 ?_); intro tk' htk') | (k_here; (with_reducible show wpAny _ _ (subscriptTail _ _ (Value.ref _) (Value.int _ _)) _ _ _); (with_unfolding_all refine' item_litK ?k1 ?k2 ?k3 ?k4 ?_ ?k6; (case k1 => is_list); (case k2 => decide); (case k3 => decide); (case k4 => rfl); (case k6 => with_unfolding_all rfl); k_whole)) | ((with_reducible show wpAny _ _ (binaryOp .Div (Value.int _ _) (Value.int _ _)) _ _ _); (refine div_ii_s ?ka ?kb ?_; (case ka => omega); (case kb => omega))) | walk1 | (dsimp only; first | ((with_reducible show wpAny _ _ (compareOp .NotEq (Value.ref _) (Value.ref _)) _ _ _); (k_here; k_dflt (refine' ne_tup3 ?ka ?kb ?ku ?kx ?kn ?kt ?ke ?_; (case ka => exact News.get (by k_asm) (by k_mem)); (case kb => exact News.get (by k_asm) (by k_mem)); (case ku => ktr_units); (case kx => exact Frag.In.keeps (by k_asm) (Fr.keep (by k_asm))); (case kn => exact no_book _); (case kt => (refine ⟨by assumption, ?_, ?_, ?_⟩ <;> (first | assumption | exact Nat.succ_pos _))); (case ke => exact paint_eq (by assumption) (by assumption))))) | (k_here; (with_reducible show wpAny _ _ (call (Value.ref 81) _) _ _ _); k_dflt (refine' Ct.use (c_parts _ _ _ _ _ _ _ _ ?p1 ?p2 ?p3 ?p4 ?p5 ?p6 ?p7 ?p8) ?k1 ?k2 ?k3 ?k4 ?k5 ?kK nil_sub all_rest trivial ?kd ?ku ?_; (case k1 => k_asm); (case k2 => k_asm); (case k3 => k_asm); (case k4 => k_asm); (case k5 => k_asm); (case kK => first | exact rfl | assumption); (case kd => ktr_room); (case ku => ktr_units); (case p1 => omega); (case p2 => omega); (case p3 => omega); (case p4 => omega); (case p5 => omega); (case p6 => omega); (case p7 => omega); (case p8 => omega)); intro v9 new9 h9 tk9 F9 N9 ap9 po9; obtain ⟨a9, p9, q9, r9, t91, t92, t93, n9, e9, b91, b92, b93, ev9, en9⟩ := po9; subst ev9; subst en9; (simp only [List.cons_append, List.nil_append] at N9)) | (k_here; (with_reducible show wpAny _ _ (call (Value.ref 74) _) _ _ _); k_dflt (refine' Ct.use (c_rgb _ _ _ _ _ _ ?p1 ?p2 ?p3 ?p4) ?k1 ?k2 ?k3 ?k4 ?k5 ?kK nil_sub all_rest trivial ?kd ?ku ?_; (case k1 => k_asm); (case k2 => k_asm); (case k3 => k_asm); (case k4 => k_asm); (case k5 => k_asm); (case kK => first | exact rfl | assumption); (case kd => ktr_room); (case ku => ktr_units); (case p1 => first | assumption | exact Nat.succ_pos _); (case p2 => exact (hue8 _).1); (case p3 => exact (hue8 _).2.1); (case p4 => exact (hue8 _).2.2)); intro v9 new9 h9 tk9 F9 N9 ap9 po9; obtain ⟨a9, p9, q9, r9, t91, t92, t93, e9, tp9, ev9, en9⟩ := po9; subst ev9; subst en9; (simp only [List.cons_append, List.nil_append] at N9)) | (k_here; (with_reducible refine gen_toks1 ?_); intro tk' htk') | (k_here; (with_reducible show wpAny _ _ (subscriptTail _ _ (Value.ref _) (Value.int _ _)) _ _ _); (with_unfolding_all refine' item_litK ?k1 ?k2 ?k3 ?k4 ?_ ?k6; (case k1 => is_list); (case k2 => decide); (case k3 => decide); (case k4 => rfl); (case k6 => with_unfolding_all rfl); k_whole)) | ((with_reducible show wpAny _ _ (binaryOp .Div (Value.int _ _) (Value.int _ _)) _ _ _); (refine div_ii_s ?ka ?kb ?_; (case ka => omega); (case kb => omega))) | walk1) | (leave1; try dsimp only) | fail "no step")
  (rename News _ _ _ _ => hR); (revert hR); (rename News _ _ _ _ => kN); (rename Fr _ _ _ _ => kF); (revert kN); (rename News _ _ _ _ => nN); (intro kN hR)
  refine' ct_ret hret kF kN hR nN hg ?sub ⟨_, _, _, _, _, _, _, _, ⟨by assumption⟩, by assumption, by assumption, by assumption, rfl, rfl⟩
  (case sub => exact SubL.mem (by k_subL))
end Mine
namespace Mine
open PySem.Builtin.Str
theorem toList_inj {a b : Str} (h : a.cps.toList = b.cps.toList) : a = b := Str.ext' (Array.toList_inj.mp h)
theorem lit_toList (x : Str) (l : List Nat) (h : x = ⟨l.toArray⟩) : x.cps.toList = l := by rw [h]
theorem app_toList (a b : Str) : (a ++ b).cps.toList = a.cps.toList ++ b.cps.toList := by
  show (a.cps ++ b.cps).toList = _
  simp
theorem len_toList (a : Str) : a.cps.toList.length = a.length := by simp [Str.length]
/-- slices with plain bounds -/
theorem slice_ss (x : Str) {a b : Nat} (hab : a ≤ b) (hb : b ≤ x.length) : (Txt.slice x (some (a : Int)) (some (b : Int))).cps.toList = (x.cps.toList.drop a).take (b - a) := by
  unfold Txt.slice
  split
  · rename_i h
    simp only [beq_self_eq_true, Bool.true_and, beq_iff_eq] at h
    rw [StrLaws.strSliceIndices_plain hab hb, List.length_map, List.length_range] at h
    have ha : a = 0 := by omega
    have hb' : b = x.length := by omega
    rw [ha, hb', List.drop_zero, Nat.sub_zero, ← len_toList, List.take_length]
  · show ((strSliceIndices _ _ 1 x.length).filterMap (x.cps[·]?)).toArray.toList = _
    rw [StrLaws.sliced_plain x hab hb]
theorem idx_n0 (u : Option Int) (n : Nat) : strSliceIndices none u 1 n = strSliceIndices (some ((0 : Nat) : Int)) u 1 n := by
  have e : max (0 : Int) (min 0 (n : Int)) = 0 := by omega
  cases u <;> simp [strSliceIndices, sliceRange, e]
theorem idx_sn (l : Int) (n : Nat) : strSliceIndices (some l) none 1 n = strSliceIndices (some l) (some (n : Int)) 1 n := by
  have e : max (0 : Int) (min (if (n : Int) < 0 then (n : Int) + n else n) n) = n := by split <;> omega
  simp only [strSliceIndices, sliceRange, e, show ((1 : Int) > 0) = True from by simp, if_true]
theorem slice_ns (x : Str) {b : Nat} (hb : b ≤ x.length) : (Txt.slice x none (some (b : Int))).cps.toList = x.cps.toList.take b := by
  have := slice_ss x (Nat.zero_le b) hb
  unfold Txt.slice at this ⊢
  rw [idx_n0]
  simpa using this
theorem slice_sn (x : Str) {a : Nat} (ha : a ≤ x.length) : (Txt.slice x (some (a : Int)) none).cps.toList = x.cps.toList.drop a := by
  have := slice_ss x ha (Nat.le_refl _)
  unfold Txt.slice at this ⊢
  rw [idx_sn]
  rw [this, ← len_toList, List.take_of_length_le (by simp)]
/-- a mark, n times -/
theorem foldl_app (c : Nat) : ∀ (n : Nat) (acc : Array Nat), ((List.replicate n #[c]).foldl (· ++ ·) acc).toList = acc.toList ++ List.replicate n c
  | 0, acc => by simp
  | n + 1, acc => by
    rw [List.replicate_succ, List.foldl_cons, foldl_app c n]
    simp [List.replicate_succ]
theorem quote_is : Str.ofString "\"" = ⟨#[34]⟩ := by decide +kernel
theorem mul_is {n : Int} (h : 0 ≤ n) : (Txt.mul (Str.ofString "\"") n).cps.toList = List.replicate n.toNat 34 := by
  rw [quote_is]
  unfold Txt.mul
  split
  · have : n = 0 := by omega
    subst this
    rfl
  · split
    · rename_i h1 h2
      have : n = 1 := by
        simp only [Bool.or_eq_true, beq_iff_eq] at h2
        rcases h2 with h2 | h2
        · exact h2
        · exact absurd h2 (by decide)
      subst this
      rfl
    · rw [foldl_app]
      simp

/-- the reply's head -/
theorem head_is (b c : Str) : (Str.ofString "257 \"" ++ b ++ c).cps.toList = [50, 53, 55, 32, 34] ++ (b.cps.toList ++ c.cps.toList) := by
  rw [app_toList, app_toList, List.append_assoc]
  congr 1
theorem head_len (b c : Str) : 5 ≤ (Str.ofString "257 \"" ++ b ++ c).length := by
  rw [← len_toList, head_is]
  simp
theorem head_3 (b c : Str) : Txt.slice (Str.ofString "257 \"" ++ b ++ c) none (some 3) = Str.ofString "257" := by
  apply toList_inj
  have := slice_ns (Str.ofString "257 \"" ++ b ++ c) (b := 3) (Nat.le_trans (by decide) (head_len b c))
  refine Eq.trans this ?_
  rw [head_is]
  rfl
theorem head_5 (b c : Str) : Txt.slice (Str.ofString "257 \"" ++ b ++ c) (some 3) (some 5) = Str.ofString " \"" := by
  apply toList_inj
  have := slice_ss (Str.ofString "257 \"" ++ b ++ c) (a := 3) (b := 5) (by decide) (head_len b c)
  refine Eq.trans this ?_
  rw [head_is]
  rfl
theorem body_is {a b c : Int} (ha : 0 ≤ a) (hb : 0 ≤ b) (hc : 0 ≤ c) : ((Str.ofString "" ++ (Str.ofString "r" ++ Txt.mul (Str.ofString "\"") a)) ++ (Str.ofString "g" ++ Txt.mul (Str.ofString "\"") b) ++ (Str.ofString "b" ++ Txt.mul (Str.ofString "\"") c)).cps.toList
    = 114 :: (List.replicate a.toNat 34 ++ 103 :: (List.replicate b.toNat 34 ++ 98 :: List.replicate c.toNat 34)) := by
  simp only [app_toList, mul_is ha, mul_is hb, mul_is hc]
  rw [show (Str.ofString "").cps.toList = [] from by decide +kernel, show (Str.ofString "r").cps.toList = [114] from by decide +kernel, show (Str.ofString "g").cps.toList = [103] from by decide +kernel, show (Str.ofString "b").cps.toList = [98] from by decide +kernel]
  simp
/-- what parse257 tells of a pot's writing -/
def toldL (a b c : Nat) : List Nat :=
  114 :: (List.replicate (a / 2) 34 ++ if a % 2 = 1 then [] else 103 :: (List.replicate (b / 2) 34 ++ if b % 2 = 1 then [] else 98 :: (List.replicate (c / 2) 34 ++ if c % 2 = 1 then [] else [107])))
theorem go_run (d : Nat) (hd : d ≠ 34) (r : List Nat) : ∀ (n : Nat) (acc : List Nat), go (List.replicate n 34 ++ d :: r) acc = if n % 2 = 1 then acc ++ List.replicate (n / 2) 34 else go (d :: r) (acc ++ List.replicate (n / 2) 34)
  | 0, acc => by simp
  | 1, acc => by
    show go (34 :: d :: r) acc = _
    rw [go_two r acc hd]
    simp
  | n + 2, acc => by
    rw [List.replicate_succ, List.replicate_succ, List.cons_append, List.cons_append, go_q, go_run d hd r n]
    have e1 : (n + 2) % 2 = n % 2 := by omega
    have e2 : (n + 2) / 2 = n / 2 + 1 := by omega
    rw [e1, e2, List.append_assoc]
    rfl
theorem go_told (a b c : Nat) (z : List Nat) : go (114 :: (List.replicate a 34 ++ 103 :: (List.replicate b 34 ++ 98 :: (List.replicate c 34 ++ 107 :: 34 :: 32 :: z)))) [] = toldL a b c := by
  unfold toldL
  rw [go_c _ _ (by decide), go_run 103 (by decide)]
  split
  · simp
  · rw [go_c _ _ (by decide), go_run 98 (by decide)]
    split
    · simp
    · rw [go_c _ _ (by decide), go_run 107 (by decide)]
      split
      · simp
      · rw [go_c _ _ (by decide), go_two _ _ (by decide)]
        simp
theorem told_is {a b c : Int} (ha : 0 ≤ a) (hb : 0 ≤ b) (hc : 0 ≤ c) :
    go ((Str.ofString "257 \"" ++ ((Str.ofString "" ++ (Str.ofString "r" ++ Txt.mul (Str.ofString "\"") a)) ++ (Str.ofString "g" ++ Txt.mul (Str.ofString "\"") b) ++ (Str.ofString "b" ++ Txt.mul (Str.ofString "\"") c)) ++ Str.ofString "k\" is the pot").cps.toList.drop 5) [] = toldL a.toNat b.toNat c.toNat := by
  rw [head_is, body_is ha hb hc, show (Str.ofString "k\" is the pot").cps.toList = 107 :: 34 :: 32 :: [105, 115, 32, 116, 104, 101, 32, 112, 111, 116] from by decide +kernel]
  simp only [List.cons_append, List.append_assoc, List.nil_append, List.drop_succ_cons, List.drop_zero]
  exact go_told _ _ _ _
end Mine
namespace Mine
structure ToldIs (x : Str) (p q r : Int) (y : Str) : Prop where
  eq : y.cps.toList = toldL (runI x (Str.ofString "r") + p).toNat (runI x (Str.ofString "g") + q).toNat (runI x (Str.ofString "b") + r).toNat
theorem told_mk {x y : Str} {p q r a b c : Int} (ha : RunIs x (Str.ofString "r") a) (hb : RunIs x (Str.ofString "g") b) (hc : RunIs x (Str.ofString "b") c) (h1 : 0 ≤ a + p) (h2 : 0 ≤ b + q) (h3 : 0 ≤ c + r)
    (h : y.cps.toList = go ((Str.ofString "257 \"" ++ ((Str.ofString "" ++ (Str.ofString "r" ++ Txt.mul (Str.ofString "\"") (a + p))) ++ (Str.ofString "g" ++ Txt.mul (Str.ofString "\"") (b + q)) ++ (Str.ofString "b" ++ Txt.mul (Str.ofString "\"") (c + r))) ++ Str.ofString "k\" is the pot").cps.toList.drop 5) []) : ToldIs x p q r y := by
  refine ⟨?_⟩
  rw [ha.eq, hb.eq, hc.eq, h]
  exact told_is h1 h2 h3


theorem c_told {w mean mg mb} (x : Str) (t1 : Tok) (pa : Addr) (p q r : Int) (u1 u2 u3 : Tok) (nn : Nat) (hx : x.length ≤ 100) (hp : 0 ≤ p ∧ p ≤ 16) (hq : 0 ≤ q ∧ q ≤ 16) (hr : 0 ≤ r ∧ r ≤ 16) :
    Ct w mean mg mb 102 2 60 [.str x t1, .ref pa] [(pa, list3 p q r u1 u2 u3 nn)] (fun _ _ => True)
      (fun v new => ∃ y t, ToldIs x p q r y ∧ v = .str y t ∧ new = [(pa, list3 p q r u1 u2 u3 nn)]) := by
  have l1 : (Str.ofString "257 \"").length ≤ 5 := by decide +kernel
  have l2 : (Str.ofString "k\" is the pot").length ≤ 13 := by decide +kernel
  have l3 : (Str.ofString "r").length ≤ 1 := by decide +kernel
  have l4 : (Str.ofString "g").length ≤ 1 := by decide +kernel
  have l5 : (Str.ofString "b").length ≤ 1 := by decide +kernel
  have l6 : (Str.ofString "").length ≤ 0 := by decide +kernel
  have l7 : (Str.ofString "\"").length ≤ 1 := by decide +kernel
  w_top off
  unfold Ct
  k_fill
  intro dp un gd cn cs a ccd cl outer A₀ base h₀ L m s Q E news rest B F X N T hk hsub hrest hpre hdp hun hret
  refine wpAny_call ?_
  k_dflt (refine' callS _ _ hsub hrest ?k1 ?k2 ?k3 ?k4 ?k5 ?kA ?kF ?kK ?k6 ?k7 ?k8 ?k9 ?kB ?_ ?c2 ?c3 ?c4 ?c5; (case kA => exact rfl); (case kF => exact rfl); (case kK => assumption); (case k1 => k_asm); (case k2 => k_asm); (case k3 => k_asm); (case k4 => k_asm); (case k5 => k_asm); (case k6 => k_is); (case k7 => k_is); (case k8 => ktr_room); (case k9 => exact BindsTo.of_eq rfl); (case c5 => decide); (case kB => exact locs rfl); (case c2 => exact rfl); (case c3 => exact rfl); (case c4 => exact rfl); k_whole; intro g' L' h' FG' F' N' B' X' T' hg; (try dsimp only); (try k_lift B'); (try k_fold))
  clear hrest N
  repeat' (first | (k_unfold; (try dsimp only)) | (k_end; wrow_close) | (k_here; (with_reducible show wpAny _ _ (call (Value.ref 95) _) _ _ _); k_dflt (refine' Ct.use (c_run _ _ _ _ ?p1 ?p2) ?k1 ?k2 ?k3 ?k4 ?k5 ?kK nil_sub all_rest trivial ?kd ?ku ?_; (case k1 => k_asm); (case k2 => k_asm); (case k3 => k_asm); (case k4 => k_asm); (case k5 => k_asm); (case kK => first | exact rfl | assumption); (case kd => ktr_room); (case ku => ktr_units); (case p1 => exact Nat.le_trans (by with_reducible assumption) (by decide)); (case p2 => rfl)); intro v9 new9 h9 tk9 F9 N9 ap9 po9; obtain ⟨n9, t91, e9, b9, ev9, en9⟩ := po9; subst ev9; subst en9; (simp only [List.cons_append, List.nil_append] at N9)) | (k_here; (with_reducible show wpAny _ _ (call (Value.ref 46) _) _ _ _); k_dflt (refine' Ct.use (c_parse _ _ ?p1 (head_3 _ _) (head_5 _ _) (head_len _ _)) ?k1 ?k2 ?k3 ?k4 ?k5 ?kK nil_sub all_rest trivial ?kd ?ku ?_; (case k1 => k_asm); (case k2 => k_asm); (case k3 => k_asm); (case k4 => k_asm); (case k5 => k_asm); (case kK => first | exact rfl | assumption); (case kd => ktr_room); (case ku => ktr_units); (case p1 => exact Nat.le_trans (by with_reducible assumption) (by decide))); intro v9 new9 h9 tk9 F9 N9 ap9 po9; obtain ⟨r9, t91, e9, ev9, en9⟩ := po9; subst ev9; subst en9; (simp only [List.cons_append, List.nil_append] at N9)) | ((with_reducible show wpAny _ _ (binaryOp .Mult (Value.str _ _) (Value.int _ _)) _ _ _); (refine mul_ub (by with_reducible assumption) (by first | with_reducible assumption | exact sum_ub (by with_reducible assumption) (by with_reducible assumption) (by with_reducible assumption)) (by decide) ?_; intro _ _ _)) | ((with_reducible show wpAny _ _ (inplaceOp .Add (Value.str _ _) (Value.str _ _)) _ _ _); (refine iadd_ub (by first | with_reducible assumption | exact item_le _ _ | assumption) (by first | with_reducible assumption | exact item_le _ _ | assumption) (by decide) ?_; intro _ _ _)) | ((with_reducible show wpAny _ _ (binaryOp .Add (Value.str _ _) (Value.str _ _)) _ _ _); (refine add_ub (by first | with_reducible assumption | exact item_le _ _ | assumption) (by first | with_reducible assumption | exact item_le _ _ | assumption) (by decide) ?_; intro _ _ _)) | (k_here; (with_reducible show wpAny _ _ (subscriptTail _ _ (Value.ref _) (Value.int _ _)) _ _ _); (with_unfolding_all refine' item_litK ?k1 ?k2 ?k3 ?k4 ?_ ?k6; (case k1 => is_list); (case k2 => decide); (case k3 => decide); (case k4 => rfl); (case k6 => with_unfolding_all rfl); k_whole)) | walk1 | (dsimp only; first | (k_here; (with_reducible show wpAny _ _ (call (Value.ref 95) _) _ _ _); k_dflt (refine' Ct.use (c_run _ _ _ _ ?p1 ?p2) ?k1 ?k2 ?k3 ?k4 ?k5 ?kK nil_sub all_rest trivial ?kd ?ku ?_; (case k1 => k_asm); (case k2 => k_asm); (case k3 => k_asm); (case k4 => k_asm); (case k5 => k_asm); (case kK => first | exact rfl | assumption); (case kd => ktr_room); (case ku => ktr_units); (case p1 => exact Nat.le_trans (by with_reducible assumption) (by decide)); (case p2 => rfl)); intro v9 new9 h9 tk9 F9 N9 ap9 po9; obtain ⟨n9, t91, e9, b9, ev9, en9⟩ := po9; subst ev9; subst en9; (simp only [List.cons_append, List.nil_append] at N9)) | (k_here; (with_reducible show wpAny _ _ (call (Value.ref 46) _) _ _ _); k_dflt (refine' Ct.use (c_parse _ _ ?p1 (head_3 _ _) (head_5 _ _) (head_len _ _)) ?k1 ?k2 ?k3 ?k4 ?k5 ?kK nil_sub all_rest trivial ?kd ?ku ?_; (case k1 => k_asm); (case k2 => k_asm); (case k3 => k_asm); (case k4 => k_asm); (case k5 => k_asm); (case kK => first | exact rfl | assumption); (case kd => ktr_room); (case ku => ktr_units); (case p1 => exact Nat.le_trans (by with_reducible assumption) (by decide))); intro v9 new9 h9 tk9 F9 N9 ap9 po9; obtain ⟨r9, t91, e9, ev9, en9⟩ := po9; subst ev9; subst en9; (simp only [List.cons_append, List.nil_append] at N9)) | ((with_reducible show wpAny _ _ (binaryOp .Mult (Value.str _ _) (Value.int _ _)) _ _ _); (refine mul_ub (by with_reducible assumption) (by first | with_reducible assumption | exact sum_ub (by with_reducible assumption) (by with_reducible assumption) (by with_reducible assumption)) (by decide) ?_; intro _ _ _)) | ((with_reducible show wpAny _ _ (inplaceOp .Add (Value.str _ _) (Value.str _ _)) _ _ _); (refine iadd_ub (by first | with_reducible assumption | exact item_le _ _ | assumption) (by first | with_reducible assumption | exact item_le _ _ | assumption) (by decide) ?_; intro _ _ _)) | ((with_reducible show wpAny _ _ (binaryOp .Add (Value.str _ _) (Value.str _ _)) _ _ _); (refine add_ub (by first | with_reducible assumption | exact item_le _ _ | assumption) (by first | with_reducible assumption | exact item_le _ _ | assumption) (by decide) ?_; intro _ _ _)) | (k_here; (with_reducible show wpAny _ _ (subscriptTail _ _ (Value.ref _) (Value.int _ _)) _ _ _); (with_unfolding_all refine' item_litK ?k1 ?k2 ?k3 ?k4 ?_ ?k6; (case k1 => is_list); (case k2 => decide); (case k3 => decide); (case k4 => rfl); (case k6 => with_unfolding_all rfl); k_whole)) | walk1) | (leave1; try dsimp only) | fail "no step")
  (rename News _ _ _ _ => hR); (revert hR); (rename News _ _ _ _ => kN); (rename Fr _ _ _ _ => kF); (revert kN); (rename News _ _ _ _ => nN); (intro kN hR)
  refine' ct_ret hret kF kN hR nN hg ?sub ⟨_, _, told_mk (by assumption) (by assumption) (by assumption) (by omega) (by omega) (by omega) (by assumption), rfl, rfl⟩
  (case sub => exact SubL.mem (by k_subL))
end Mine
namespace Mine
theorem range_stop {prog : Program} {w : World} {A : Around} {E : Value → Shared → Prop} {s : Shared} {env : Env} {h₀ : Heap} {x : Str} {body : List Stmt} {Q : Flow → Shared → Prop} {r : Addr} {a₀ b₀ : Int} {t₀ u₀ v₀ : Tok} {m₀ : Str → Option Value} {news : List (Addr × Obj)}
    (hh : A.handled = none) (hr : IsRange s.heap r a₀ b₀ 1 t₀ u₀ v₀) (F : Fr h₀ env.locals s.heap m₀) (N : News h₀ env.locals s.heap news)
    (st : Stop (∃ (n : Nat) (R : (Str → Option Value) → Int → (Str → Option Value) → List (Addr × Obj) → Prop) (g : Int → Int → Int) (c₀ : Int), Builtin.Range.small a₀ b₀ 1 = true ∧ Builtin.Range.rangeSize a₀ b₀ 1 = (n : Int) ∧ R m₀ c₀ m₀ news ∧
      (∀ k t a m₁ nx h tk own, k ∈ rangeKs a₀ n → OwnOff own (news.map (·.1)) → R m₀ a m₁ nx → Fr h₀ env.locals h (fun y => if y = x then some (.int k t) else m₁ y) → News h₀ env.locals h (nx ++ own) →
      wpAny (model prog w) A (execs body env) (InvPostN h₀ env.locals (R m₀ (g a k)) own (news.map (·.1)) { s with heap := h, toks := tk } Q) E { s with heap := h, toks := tk }) ∧
      (∀ m₁ nx h tk, R m₀ ((rangeKs a₀ n).foldl g c₀) m₁ nx → Fr h₀ env.locals h m₁ → News h₀ env.locals h nx → Q .next { s with heap := h, toks := tk }))) :
    wpAny (model prog w) A (pyIter (.ref r)) (fun it s₂ => LoopAtV prog w A h₀ env x body Q E it s₂) E s := by
  obtain ⟨n, R, g, c₀, hs, hn, hR, turn, done⟩ := st
  exact iter_rangeS (R m₀) g c₀ hh hr hs hn F N hR turn done
structure PObj where
  a : Addr
  p : Int
  q : Int
  r : Int
  t1 : Tok
  t2 : Tok
  t3 : Tok
  n : Nat
def PObj.ent (o : PObj) : Addr × Obj := (o.a, list3 o.p o.q o.r o.t1 o.t2 o.t3 o.n)
def PObj.val (o : PObj) (k : Int) : Int := if k = 0 then o.p else if k = 1 then o.q else o.r
def paintsObj (ps : List PObj) (n : Nat) : Obj := W.listOf (ps.map fun o => Value.ref o.a).toArray n
section
variable {prog : Program} {w : World} {A : Around} {E : Value → Shared → Prop} {s : Shared} {h₀ : Heap} {L : Addr} {m : Str → Option Value}
theorem len_refs {l : Addr} {ps : List PObj} {Q : Value → Shared → Prop} (F : Fr h₀ L s.heap m) (hl : h₀.IsList l (ps.map fun o => Value.ref o.a).toArray) (hb : ps.length ≤ 10) (h : Q (.int ps.length (s.toks + 1)) { s with toks := s.toks + 1 + 1 }) :
    wpAny (model prog w) A (call (.builtin "len") [.ref l]) Q E s := by
  have e : (((ps.map fun o => Value.ref o.a).toArray.size : Nat) : Int) = ps.length := by simp
  refine len_list (hl.at fun o e => F.keep l o e) (by rw [e]; omega) ?_
  rw [e]
  exact h
theorem item_base {value slice : PySem.Expr} {l : Addr} {vs : List Value} {k : Int} {u : Tok} {v : Value} {Q : Value → Shared → Prop} (F : Fr h₀ L s.heap m) (hl : h₀.IsList l vs.toArray) (h0 : 0 ≤ k) (hhi : k < 2 ^ 63) (hx : vs[k.toNat]? = some v) (h : Q v s)
    (hs : subscripted slice false (.ref l) (.int k u) = operate [.ref l, .int k u] (getItem (.ref l) (.int k u)) := by with_unfolding_all rfl) :
    wpAny (model prog w) A (subscriptTail value slice (.ref l) (.int k u)) Q E s := item_litK (hl.at fun o e => F.keep l o e) h0 hhi hx h hs
end



def valAt (ps : List PObj) (k i : Int) : Int := match ps[i.toNat]? with | some o => o.val k | none => 0
def pouredI (ps : List PObj) (k : Int) (f : Nat) : Int := (rangeKs (f : Int) (ps.length - f)).foldl (fun acc i => acc + valAt ps k i * 2 ^ i.toNat) 0
def levelI (ps : List PObj) (k : Int) (f : Nat) : Int := (pouredI ps k f).fdiv (2 ^ (ps.length - 1))
theorem canon1 {m₁ m₀ : Str → Option Value} {x y : Str} {a : Option Value} (h1 : m₁ y = a) (h2 : ∀ z, z ≠ x → z ≠ y → m₁ z = m₀ z) : m₁ = fun z => if z = y then a else if z = x then m₁ x else m₀ z := by
  funext z
  by_cases e1 : z = y
  · rw [if_pos e1, e1, h1]
  · rw [if_neg e1]
    by_cases e2 : z = x
    · rw [if_pos e2, e2]
    · rw [if_neg e2, h2 z e2 e1]
theorem range_small {a b : Int} (h1 : 0 ≤ a ∧ a ≤ 100) (h2 : 0 ≤ b ∧ b ≤ 100) : Builtin.Range.small a b 1 = true := by
  exact small_one (by omega) (by omega) (by omega) (by omega)
theorem range_size {f n : Nat} (h : f ≤ n) : Builtin.Range.rangeSize (f : Int) (n : Int) 1 = ((n - f : Nat) : Int) := by
  unfold Builtin.Range.rangeSize
  simp
  omega
theorem val_in {o : PObj} {k : Int} (h : (0 ≤ o.p ∧ o.p ≤ 16) ∧ (0 ≤ o.q ∧ o.q ≤ 16) ∧ (0 ≤ o.r ∧ o.r ≤ 16)) : 0 ≤ o.val k ∧ o.val k ≤ 16 := by
  unfold PObj.val
  split
  · exact h.1
  · split
    · exact h.2.1
    · exact h.2.2
theorem val_at {o : PObj} {k : Int} (hk : k = 0 ∨ k = 1 ∨ k = 2) : ∃ t, [Value.int o.p o.t1, Value.int o.q o.t2, Value.int o.r o.t3][k.toNat]? = some (.int (o.val k) t) := by
  rcases hk with rfl | rfl | rfl
  · exact ⟨o.t1, rfl⟩
  · exact ⟨o.t2, rfl⟩
  · exact ⟨o.t3, rfl⟩
def HeldIn (held rest : List (Addr × Obj)) (h : Heap) : Prop := ∀ q ∈ held, q ∈ rest ∨ h.get? q.1 = some q.2
theorem c_level {w mean mg mb} (pl : Addr) (ps : List PObj) (nn : Nat) (k : Int) (f : Nat) (t2 t3 : Tok) (lv : Int) (hlv : levelI ps k f = lv) (hk3 : k = 0 ∨ k = 1 ∨ k = 2) (hf : f ≤ ps.length) (hl : 1 ≤ ps.length ∧ ps.length ≤ 10) (hb : ∀ o ∈ ps, (0 ≤ o.p ∧ o.p ≤ 16) ∧ (0 ≤ o.q ∧ o.q ≤ 16) ∧ (0 ≤ o.r ∧ o.r ≤ 16)) :
    Ct w mean mg mb 109 1 40 [.ref pl, .int k t2, .int f t3] [] (HeldIn ((pl, paintsObj ps nn) :: ps.map PObj.ent))
      (fun v new => ∃ t, v = .int lv t ∧ new = []) := by
  w_top off
  unfold Ct
  k_fill
  intro dp un gd cn cs a ccd cl outer A₀ base h₀ L m s Q E news rest B F X N T hk hsub hrest hpre hdp hun hret
  refine wpAny_call ?_
  k_dflt (refine' callS _ _ hsub hrest ?k1 ?k2 ?k3 ?k4 ?k5 ?kA ?kF ?kK ?k6 ?k7 ?k8 ?k9 ?kB ?_ ?c2 ?c3 ?c4 ?c5; (case kA => exact rfl); (case kF => exact rfl); (case kK => assumption); (case k1 => k_asm); (case k2 => k_asm); (case k3 => k_asm); (case k4 => k_asm); (case k5 => k_asm); (case k6 => k_is); (case k7 => k_is); (case k8 => ktr_room); (case k9 => exact BindsTo.of_eq rfl); (case c5 => decide); (case kB => exact locs rfl); (case c2 => exact rfl); (case c3 => exact rfl); (case c4 => exact rfl); k_whole; intro g' L' h' FG' F' N' B' X' T' hg; (try dsimp only); (try k_lift B'); (try k_fold))
  clear hrest N
  have hH : ∀ q ∈ (pl, paintsObj ps nn) :: ps.map PObj.ent, g'.get? q.1 = some q.2 := fun q hq => (hpre q hq).elim (hg q) (FG'.keep _ _)
  have hL : g'.IsList pl (ps.map fun o => Value.ref o.a).toArray := ⟨_, hH _ (List.mem_cons_self ..), rfl, nn, rfl⟩
  repeat' (first | (k_unfold; (try dsimp only)) | (k_end; wrow_close) | ((with_reducible show wpAny _ _ (pyIter (Value.ref _)) _ _ _); ((rename Fr _ _ _ _ => F'); (rename News _ _ _ _ => N'); (rename IsRange _ _ _ _ _ _ _ _ => rgX); with_unfolding_all refine range_stop rfl rgX F' N' ?_)) | (k_here; (with_reducible show wpAny _ _ (subscriptTail _ _ (Value.ref _) (Value.int _ _)) _ _ _); (with_unfolding_all refine' item_base ?k0 ?k1 ?k2 ?k3 ?k4 ?_ ?k6; (case k0 => k_asm); (case k1 => assumption); (case k2 => omega); (case k3 => omega); (case k4 => assumption); (case k6 => with_unfolding_all rfl); k_whole)) | ((with_reducible show wpAny _ _ (call (Value.builtin "len") _) _ _ _); (k_here; k_dflt (refine' len_refs ?k1 ?k2 ?k3 ?_; (case k1 => k_asm); (case k2 => assumption); (case k3 => omega)))) | walk1 | (dsimp only; first | ((with_reducible show wpAny _ _ (pyIter (Value.ref _)) _ _ _); ((rename Fr _ _ _ _ => F'); (rename News _ _ _ _ => N'); (rename IsRange _ _ _ _ _ _ _ _ => rgX); with_unfolding_all refine range_stop rfl rgX F' N' ?_)) | (k_here; (with_reducible show wpAny _ _ (subscriptTail _ _ (Value.ref _) (Value.int _ _)) _ _ _); (with_unfolding_all refine' item_base ?k0 ?k1 ?k2 ?k3 ?k4 ?_ ?k6; (case k0 => k_asm); (case k1 => assumption); (case k2 => omega); (case k3 => omega); (case k4 => assumption); (case k6 => with_unfolding_all rfl); k_whole)) | ((with_reducible show wpAny _ _ (call (Value.builtin "len") _) _ _ _); (k_here; k_dflt (refine' len_refs ?k1 ?k2 ?k3 ?_; (case k1 => k_asm); (case k2 => assumption); (case k3 => omega)))) | walk1) | (leave1; try dsimp only) | fail "no step")
  unfold Stop
  rename Fr _ _ _ _ => F0
  refine ⟨ps.length - f, fun m₀ acc m₁ nx => nx = [] ∧ (∃ t, m₁ (Str.ofString "poured") = some (.int acc t)) ∧ ∀ y, y ≠ Str.ofString "i" → y ≠ Str.ofString "poured" → m₁ y = m₀ y, fun acc i => acc + valAt ps k i * 2 ^ i.toNat, 0, ?_, ?_, ⟨rfl, ⟨_, rfl⟩, fun y _ _ => rfl⟩, ?_, ?_⟩
  · exact range_small (by omega) (by omega)
  · exact range_size (by omega)
  · intro i t acc m₁ nx h tk own hi hoff hR F₁ N₁
    obtain ⟨rfl, ⟨t', e1⟩, e2⟩ := hR
    have hi' := mem_rangeKs hi
    have hlt : i.toNat < ps.length := by omega
    have hm := List.getElem_mem hlt
    have hx : (ps.map fun o => Value.ref o.a)[i.toNat]? = some (.ref ps[i.toNat].a) := by simp [hlt]
    have hv : valAt ps k i = ps[i.toNat].val k := by simp [valAt, hlt]
    generalize ps[i.toNat] = o at hm hx hv
    have hO : g'.IsList o.a [Value.int o.p o.t1, Value.int o.q o.t2, Value.int o.r o.t3].toArray := ⟨_, hH o.ent (List.mem_cons_of_mem _ (List.mem_map_of_mem hm)), rfl, o.n, rfl⟩
    obtain ⟨tv, hx2⟩ := val_at (o := o) (k := k) hk3
    have hbv := val_in (k := k) (hb o hm)
    rw [map_one e1 e2] at F₁
    generalize o.val k = ov at hx2 hbv hv
    clear hm hoff F0
    simp only [List.nil_append] at N₁
    repeat' (first | (k_unfold; (try dsimp only)) | (k_end; wrow_close) | ((with_reducible show wpAny _ _ (pyIter (Value.ref _)) _ _ _); ((rename Fr _ _ _ _ => F'); (rename News _ _ _ _ => N'); (rename IsRange _ _ _ _ _ _ _ _ => rgX); with_unfolding_all refine range_stop rfl rgX F' N' ?_)) | (k_here; (with_reducible show wpAny _ _ (subscriptTail _ _ (Value.ref _) (Value.int _ _)) _ _ _); (with_unfolding_all refine' item_base ?k0 ?k1 ?k2 ?k3 ?k4 ?_ ?k6; (case k0 => k_asm); (case k1 => assumption); (case k2 => omega); (case k3 => omega); (case k4 => assumption); (case k6 => with_unfolding_all rfl); k_whole)) | ((with_reducible show wpAny _ _ (call (Value.builtin "len") _) _ _ _); (k_here; k_dflt (refine' len_refs ?k1 ?k2 ?k3 ?_; (case k1 => k_asm); (case k2 => assumption); (case k3 => omega)))) | walk1 | (dsimp only; first | ((with_reducible show wpAny _ _ (pyIter (Value.ref _)) _ _ _); ((rename Fr _ _ _ _ => F'); (rename News _ _ _ _ => N'); (rename IsRange _ _ _ _ _ _ _ _ => rgX); with_unfolding_all refine range_stop rfl rgX F' N' ?_)) | (k_here; (with_reducible show wpAny _ _ (subscriptTail _ _ (Value.ref _) (Value.int _ _)) _ _ _); (with_unfolding_all refine' item_base ?k0 ?k1 ?k2 ?k3 ?k4 ?_ ?k6; (case k0 => k_asm); (case k1 => assumption); (case k2 => omega); (case k3 => omega); (case k4 => assumption); (case k6 => with_unfolding_all rfl); k_whole)) | ((with_reducible show wpAny _ _ (call (Value.builtin "len") _) _ _ _); (k_here; k_dflt (refine' len_refs ?k1 ?k2 ?k3 ?_; (case k1 => k_asm); (case k2 => assumption); (case k3 => omega)))) | walk1) | (leave1; try dsimp only) | fail "no step")
    rw [hv]
    refine ⟨_, _, _, _, [], rfl, by assumption, by assumption, fun _ hp => (nomatch hp), fun _ hp => hp, rfl, rfl, ⟨_, rfl⟩, ?_⟩
    intro y n1 n2; simp only [if_neg n1, if_neg n2]
  · intro m₁ nx h tk hR F₁ N₁
    obtain ⟨rfl, ⟨t', e1⟩, e2⟩ := hR
    rw [canon1 e1 e2] at F₁
    generalize m₁ (Str.ofString "i") = oi at F₁
    clear e1 e2 F0
    repeat' (first | (k_unfold; (try dsimp only)) | (k_end; wrow_close) | ((with_reducible show wpAny _ _ (pyIter (Value.ref _)) _ _ _); ((rename Fr _ _ _ _ => F'); (rename News _ _ _ _ => N'); (rename IsRange _ _ _ _ _ _ _ _ => rgX); with_unfolding_all refine range_stop rfl rgX F' N' ?_)) | (k_here; (with_reducible show wpAny _ _ (subscriptTail _ _ (Value.ref _) (Value.int _ _)) _ _ _); (with_unfolding_all refine' item_base ?k0 ?k1 ?k2 ?k3 ?k4 ?_ ?k6; (case k0 => k_asm); (case k1 => assumption); (case k2 => omega); (case k3 => omega); (case k4 => assumption); (case k6 => with_unfolding_all rfl); k_whole)) | ((with_reducible show wpAny _ _ (call (Value.builtin "len") _) _ _ _); (k_here; k_dflt (refine' len_refs ?k1 ?k2 ?k3 ?_; (case k1 => k_asm); (case k2 => assumption); (case k3 => omega)))) | walk1 | (dsimp only; first | ((with_reducible show wpAny _ _ (pyIter (Value.ref _)) _ _ _); ((rename Fr _ _ _ _ => F'); (rename News _ _ _ _ => N'); (rename IsRange _ _ _ _ _ _ _ _ => rgX); with_unfolding_all refine range_stop rfl rgX F' N' ?_)) | (k_here; (with_reducible show wpAny _ _ (subscriptTail _ _ (Value.ref _) (Value.int _ _)) _ _ _); (with_unfolding_all refine' item_base ?k0 ?k1 ?k2 ?k3 ?k4 ?_ ?k6; (case k0 => k_asm); (case k1 => assumption); (case k2 => omega); (case k3 => omega); (case k4 => assumption); (case k6 => with_unfolding_all rfl); k_whole)) | ((with_reducible show wpAny _ _ (call (Value.builtin "len") _) _ _ _); (k_here; k_dflt (refine' len_refs ?k1 ?k2 ?k3 ?_; (case k1 => k_asm); (case k2 => assumption); (case k3 => omega)))) | walk1) | (leave1; try dsimp only) | fail "no step")
    have e : ((ps.length : Int) - 1).toNat = ps.length - 1 := by omega
    rw [e]
    (rename News _ _ _ _ => hR); (revert hR); (rename Fr _ _ _ _ => kF); intro hR
    show Q (Value.int (levelI ps k f) _) _
    rw [hlv]
    exact hret _ [] _ _ (by assumption) (by rw [List.nil_append]; exact hR) (fun _ hp => (nomatch hp)) ⟨_, rfl, rfl⟩
end Mine
namespace Mine
theorem lt_tab : ∀ a : Nat, a < 16 → ∀ b : Nat, b < 16 → ltF (divI a 16) (divI b 16) = decide (a < b) := by decide +kernel
theorem nat_of {p : Int} (h : 0 ≤ p ∧ p ≤ 15) : ∃ n : Nat, n < 16 ∧ p = n := by
  obtain ⟨n, rfl⟩ := Int.eq_ofNat_of_zero_le h.1
  exact ⟨n, by omega, rfl⟩
theorem ltF_is {p q : Int} (hp : 0 ≤ p ∧ p ≤ 15) (hq : 0 ≤ q ∧ q ≤ 15) : ltF (divI p 16) (divI q 16) = decide (p < q) := by
  obtain ⟨a, ha, rfl⟩ := nat_of hp
  obtain ⟨b, hb, rfl⟩ := nat_of hq
  rw [lt_tab a ha b hb]
  simp
section
variable {p q r : Int} (hp : 0 ≤ p ∧ p ≤ 15) (hq : 0 ≤ q ∧ q ≤ 15) (hr : 0 ≤ r ∧ r ≤ 15)
include hp hq hr
theorem max3_is {M : Int} (h1 : M = p ∨ M = q ∨ M = r) (h2 : p ≤ M ∧ q ≤ M ∧ r ≤ M) : max3 (divI p 16) (divI q 16) (divI r 16) = divI M 16 := by
  unfold max3
  simp only [ltF_is hp hq, ltF_is hq hr, ltF_is hp hr, decide_eq_true_eq]
  have e : M = if p < q then (if q < r then r else q) else (if p < r then r else p) := by
    split <;> split <;> omega
  rw [e]
  split <;> split <;> rfl
theorem min3_is {m : Int} (h1 : m = p ∨ m = q ∨ m = r) (h2 : m ≤ p ∧ m ≤ q ∧ m ≤ r) : min3 (divI p 16) (divI q 16) (divI r 16) = divI m 16 := by
  unfold min3
  simp only [ltF_is hq hp, ltF_is hr hq, ltF_is hr hp, decide_eq_true_eq]
  have e : m = if q < p then (if r < q then r else q) else (if r < p then r else p) := by
    split <;> split <;> omega
  rw [e]
  split <;> split <;> rfl
omit hp hq hr in
theorem mx_ex (p q r : Int) : ∃ M : Int, (M = p ∨ M = q ∨ M = r) ∧ (p ≤ M ∧ q ≤ M ∧ r ≤ M) := by
  by_cases h1 : p ≤ q
  · by_cases h2 : q ≤ r
    · exact ⟨r, by omega, by omega⟩
    · exact ⟨q, by omega, by omega⟩
  · by_cases h2 : p ≤ r
    · exact ⟨r, by omega, by omega⟩
    · exact ⟨p, by omega, by omega⟩
omit hp hq hr in
theorem mn_ex (p q r : Int) : ∃ m : Int, (m = p ∨ m = q ∨ m = r) ∧ (m ≤ p ∧ m ≤ q ∧ m ≤ r) := by
  by_cases h1 : p ≤ q
  · by_cases h2 : p ≤ r
    · exact ⟨p, by omega, by omega⟩
    · exact ⟨r, by omega, by omega⟩
  · by_cases h2 : q ≤ r
    · exact ⟨q, by omega, by omega⟩
    · exact ⟨r, by omega, by omega⟩
end
/-- pairs -/
def pairOk (M m : Nat) : Bool :=
  let X := divI M 16
  let Y := divI m 16
  (Float64.cmp Y X == some Ordering.eq) == (m == M) && (Float64.cmp X X == some Ordering.eq) &&
  (Float64.cmp (Float64.div (Float64.add X Y) 4611686018427387904) (divI (M + m) 32) == some Ordering.eq)
def pairOk2 (M m : Nat) : Bool :=
  let X := divI M 16
  let Y := divI m 16
  !Float64.isZero X && !Float64.isZero (Float64.sub X Y) && !Float64.isZero (Float64.add X Y) && !Float64.isZero (Float64.sub (Float64.sub 4611686018427387904 X) Y) &&
  (Float64.cmp (Float64.div (Float64.sub X Y) X) (divI ((M : Int) - m) M) == some Ordering.eq)
def lowB (X Y : UInt64) : Bool := (Float64.cmp (Float64.div (Float64.add X Y) 4611686018427387904) 4602678819172646912 == some Ordering.lt || Float64.cmp (Float64.div (Float64.add X Y) 4611686018427387904) 4602678819172646912 == some Ordering.eq)
def pairOk3 (M m : Nat) : Bool :=
  let X := divI M 16
  let Y := divI m 16
  let s := if lowB X Y = true then Float64.div (Float64.sub X Y) (Float64.add X Y) else Float64.div (Float64.sub X Y) (Float64.sub (Float64.sub 4611686018427387904 X) Y)
  (Float64.cmp s (divI ((M : Int) - m) (if 32 - (M : Int) - m < (M : Int) + m then 32 - (M : Int) - m else (M : Int) + m)) == some Ordering.eq)
theorem pair_tab : ∀ M : Nat, M < 16 → ∀ m : Nat, m ≤ M → pairOk M m = true := by decide +kernel
theorem pair_tab2 : ∀ M : Nat, M < 16 → ∀ m : Nat, m < M → pairOk2 M m = true := by decide +kernel
theorem pair_tab3 : ∀ M : Nat, M < 16 → ∀ m : Nat, m < M → pairOk3 M m = true := by decide +kernel
end Mine
namespace Mine
def nearI (x : UInt64) : Int := Flt.toInt Float64.nearestOf x
structure RoundIs (x : UInt64) (n : Int) : Prop where
  fin : Float64.isFinite x = true
  eq : nearI x = n
structure HsvOk (p q r : Int) (h s v : UInt64) : Prop where
  val : ∀ {M : Int}, (M = p ∨ M = q ∨ M = r) → (p ≤ M ∧ q ≤ M ∧ r ≤ M) → (Float64.cmp v (divI M 16) == some Ordering.eq) = true
  greyh : ∀ {M m : Int}, M - m = 0 → (M = p ∨ M = q ∨ M = r) → (p ≤ M ∧ q ≤ M ∧ r ≤ M) → (m = p ∨ m = q ∨ m = r) → (m ≤ p ∧ m ≤ q ∧ m ≤ r) → (Float64.cmp h 0 == some Ordering.eq) = true
  greys : ∀ {M m : Int}, M - m = 0 → (M = p ∨ M = q ∨ M = r) → (p ≤ M ∧ q ≤ M ∧ r ≤ M) → (m = p ∨ m = q ∨ m = r) → (m ≤ p ∧ m ≤ q ∧ m ≤ r) → (Float64.cmp s 0 == some Ordering.eq) = true
  share : ∀ {M m : Int}, (M = p ∨ M = q ∨ M = r) → (p ≤ M ∧ q ≤ M ∧ r ≤ M) → (m = p ∨ m = q ∨ m = r) → (m ≤ p ∧ m ≤ q ∧ m ≤ r) → M - m ≠ 0 → (Float64.cmp s (divI (M - m) M) == some Ordering.eq) = true
structure HlsOk (p q r : Int) (h l s : UInt64) : Prop where
  light : ∀ {M m : Int}, (M = p ∨ M = q ∨ M = r) → (p ≤ M ∧ q ≤ M ∧ r ≤ M) → (m = p ∨ m = q ∨ m = r) → (m ≤ p ∧ m ≤ q ∧ m ≤ r) → (Float64.cmp l (divI (M + m) 32) == some Ordering.eq) = true
  greys : ∀ {M m : Int}, M - m = 0 → (M = p ∨ M = q ∨ M = r) → (p ≤ M ∧ q ≤ M ∧ r ≤ M) → (m = p ∨ m = q ∨ m = r) → (m ≤ p ∧ m ≤ q ∧ m ≤ r) → (Float64.cmp s 0 == some Ordering.eq) = true
  str : ∀ {M m : Int}, (M = p ∨ M = q ∨ M = r) → (p ≤ M ∧ q ≤ M ∧ r ≤ M) → (m = p ∨ m = q ∨ m = r) → (m ≤ p ∧ m ≤ q ∧ m ≤ r) → M - m ≠ 0 → (Float64.cmp s (divI (M - m) (if 32 - M - m < M + m then 32 - M - m else M + m)) == some Ordering.eq) = true
def hx (h : UInt64) (k : Int) : UInt64 := Float64.mul (Float64.mul h (Float64.ofInt 6)) (Float64.ofInt k)
structure HueOk (p q r M m : Int) (h : UInt64) : Prop where
  lo : (Float64.cmp 0 h == some Ordering.lt || Float64.cmp 0 h == some Ordering.eq) = true
  hi : (Float64.cmp h 4607182418800017408 == some Ordering.lt) = true
  rnd : RoundIs (Float64.mul (Float64.mul h (Float64.ofInt 6)) (Float64.ofInt (M - m))) (nearI (hx h (M - m)))
  bd : 0 ≤ nearI (hx h (M - m)) ∧ nearI (hx h (M - m)) ≤ 100
  fb : 0 ≤ (nearI (hx h (M - m))).fmod (6 * (M - m)) ∧ (nearI (hx h (M - m))).fmod (6 * (M - m)) ≤ 100
  near : (Float64.cmp (Float64.abs (Float64.sub (Float64.mul (Float64.mul h (Float64.ofInt 6)) (Float64.ofInt (M - m))) (Float64.ofInt (nearI (hx h (M - m)))))) 4517329193108106637 == some Ordering.gt) = false
  parts : PartsAre ((nearI (hx h (M - m))).fmod (6 * (M - m))) (M - m) m M p q r
structure YiqOk (p q r : Int) (y i z : UInt64) : Prop where
  ry : RoundIs (Float64.mul y (Float64.ofInt 1600)) (30 * p + 59 * q + 11 * r)
  ri : RoundIs (Float64.mul i (Float64.ofInt 160000)) (5990 * p - 2773 * q - 3217 * r)
  rz : RoundIs (Float64.mul z (Float64.ofInt 160000)) (2130 * p - 5251 * q + 3121 * r)

theorem pairF {M m : Int} (h : 0 ≤ m ∧ m ≤ M ∧ M ≤ 15) : ∃ a b : Nat, a < 16 ∧ b ≤ a ∧ M = a ∧ m = b := by
  obtain ⟨a, rfl⟩ := Int.eq_ofNat_of_zero_le (show 0 ≤ M by omega)
  obtain ⟨b, rfl⟩ := Int.eq_ofNat_of_zero_le h.1
  exact ⟨a, b, by omega, by omega, rfl, rfl⟩
theorem pair1 {M m : Int} (h : 0 ≤ m ∧ m ≤ M ∧ M ≤ 15) : (Float64.cmp (divI m 16) (divI M 16) == some Ordering.eq) = decide (m = M) ∧ (Float64.cmp (divI M 16) (divI M 16) == some Ordering.eq) = true ∧
    (Float64.cmp (Float64.div (Float64.add (divI M 16) (divI m 16)) 4611686018427387904) (divI (M + m) 32) == some Ordering.eq) = true := by
  obtain ⟨a, b, ha, hb, rfl, rfl⟩ := pairF h
  have := pair_tab a ha b hb
  simp only [pairOk, Bool.and_eq_true, beq_iff_eq] at this
  refine ⟨?_, by simpa using this.1.2, by simpa using this.2⟩
  rw [Bool.eq_iff_iff]
  have h1 := this.1.1
  rw [Bool.eq_iff_iff] at h1
  simp only [beq_iff_eq, decide_eq_true_iff] at h1 ⊢
  rw [h1]
  omega
theorem pair2 {M m : Int} (h : 0 ≤ m ∧ m < M ∧ M ≤ 15) : (¬ Float64.isZero (divI M 16) = true ∧ ¬ Float64.isZero (Float64.sub (divI M 16) (divI m 16)) = true ∧ ¬ Float64.isZero (Float64.add (divI M 16) (divI m 16)) = true ∧ ¬ Float64.isZero (Float64.sub (Float64.sub 4611686018427387904 (divI M 16)) (divI m 16)) = true) ∧
    (Float64.cmp (Float64.div (Float64.sub (divI M 16) (divI m 16)) (divI M 16)) (divI (M - m) M) == some Ordering.eq) = true := by
  obtain ⟨a, b, ha, hb, rfl, rfl⟩ := pairF (M := M) (m := m) (by omega)
  have := pair_tab2 a ha b (by omega)
  simp only [pairOk2, Bool.and_eq_true, Bool.not_eq_true'] at this
  obtain ⟨⟨⟨⟨h1, h2⟩, h3⟩, h4⟩, h5⟩ := this
  exact ⟨⟨ff_ne h1, ff_ne h2, ff_ne h3, ff_ne h4⟩, h5⟩
theorem pair3 {M m : Int} (h : 0 ≤ m ∧ m < M ∧ M ≤ 15) : (Float64.cmp (if lowB (divI M 16) (divI m 16) = true then Float64.div (Float64.sub (divI M 16) (divI m 16)) (Float64.add (divI M 16) (divI m 16)) else Float64.div (Float64.sub (divI M 16) (divI m 16)) (Float64.sub (Float64.sub 4611686018427387904 (divI M 16)) (divI m 16)))
    (divI (M - m) (if 32 - M - m < M + m then 32 - M - m else M + m)) == some Ordering.eq) = true := by
  obtain ⟨a, b, ha, hb, rfl, rfl⟩ := pairF (M := M) (m := m) (by omega)
  exact pair_tab3 a ha b (by omega)
theorem mx_bd {p q r M : Int} (hp : 0 ≤ p ∧ p ≤ 15) (hq : 0 ≤ q ∧ q ≤ 15) (hr : 0 ≤ r ∧ r ≤ 15) (h : M = p ∨ M = q ∨ M = r) : 0 ≤ M ∧ M ≤ 15 := by
  rcases h with rfl | rfl | rfl <;> assumption
theorem pair_bd {p q r M m : Int} (hp : 0 ≤ p ∧ p ≤ 15) (hq : 0 ≤ q ∧ q ≤ 15) (hr : 0 ≤ r ∧ r ≤ 15) (h1 : M = p ∨ M = q ∨ M = r) (h2 : p ≤ M ∧ q ≤ M ∧ r ≤ M) (h3 : m = p ∨ m = q ∨ m = r) (h4 : m ≤ p ∧ m ≤ q ∧ m ≤ r) : 0 ≤ m ∧ m ≤ M ∧ M ≤ 15 :=
  ⟨(mx_bd hp hq hr h3).1, Int.le_trans h4.1 h2.1, (mx_bd hp hq hr h1).2⟩
theorem eq_of_sub {M m : Int} (h : M - m = 0) : m = M := by omega
theorem pair_lt {M m : Int} (h : 0 ≤ m ∧ m ≤ M ∧ M ≤ 15) (hne : m ≠ M) : 0 ≤ m ∧ m < M ∧ M ≤ 15 := ⟨h.1, Int.lt_iff_le_and_ne.mpr ⟨h.2.1, hne⟩, h.2.2⟩
theorem ne_of_sub {M m : Int} (h : M - m ≠ 0) : m ≠ M := fun e => h (by rw [e]; exact Int.sub_self M)
end Mine
namespace Mine
def hueD (dr dg db s : Int) : UInt64 :=
  (Float64.divmod (Float64.div (if dr = 0 then Float64.sub (divI db s) (divI dg s) else if dg = 0 then Float64.sub (Float64.add 4611686018427387904 (divI dr s)) (divI db s) else Float64.sub (Float64.add 4616189618054758400 (divI dg s)) (divI dr s)) 4618441417868443648) 4607182418800017408).snd
def hueChk (h : UInt64) (x : UInt64) (pl : Int) (dr dg db s : Nat) : Bool :=
  (Float64.cmp 0 h == some Ordering.lt || Float64.cmp 0 h == some Ordering.eq) && (Float64.cmp h 4607182418800017408 == some Ordering.lt) && Float64.isFinite x && decide (0 ≤ pl) && decide (pl ≤ 100) &&
  !(Float64.cmp (Float64.abs (Float64.sub x (Float64.ofInt pl))) 4517329193108106637 == some Ordering.gt) &&
  decide (fallI (pl.fmod (6 * s)) s 0 = dr) && decide (fallI (pl.fmod (6 * s)) s (2 * s) = dg) && decide (fallI (pl.fmod (6 * s)) s (4 * s) = db)
def hueT (dr dg db s : Nat) : Bool :=
  let h := hueD dr dg db s
  let x := Float64.mul (Float64.mul h (Float64.ofInt 6)) (Float64.ofInt s)
  hueChk h x (nearI x) dr dg db s
def six (s d : Nat) : Bool := hueT 0 s d s && hueT 0 d s s && hueT s 0 d s && hueT d 0 s s && hueT s d 0 s && hueT d s 0 s
theorem six_1 : ∀ d : Nat, d ≤ 1 → six 1 d = true := by decide +kernel
theorem six_2 : ∀ d : Nat, d ≤ 2 → six 2 d = true := by decide +kernel
theorem six_3 : ∀ d : Nat, d ≤ 3 → six 3 d = true := by decide +kernel
theorem six_4 : ∀ d : Nat, d ≤ 4 → six 4 d = true := by decide +kernel
theorem six_5 : ∀ d : Nat, d ≤ 5 → six 5 d = true := by decide +kernel
theorem six_6 : ∀ d : Nat, d ≤ 6 → six 6 d = true := by decide +kernel
theorem six_7 : ∀ d : Nat, d ≤ 7 → six 7 d = true := by decide +kernel
theorem six_8 : ∀ d : Nat, d ≤ 8 → six 8 d = true := by decide +kernel
theorem six_9 : ∀ d : Nat, d ≤ 9 → six 9 d = true := by decide +kernel
theorem six_10 : ∀ d : Nat, d ≤ 10 → six 10 d = true := by decide +kernel
theorem six_11 : ∀ d : Nat, d ≤ 11 → six 11 d = true := by decide +kernel
theorem six_12 : ∀ d : Nat, d ≤ 12 → six 12 d = true := by decide +kernel
theorem six_13 : ∀ d : Nat, d ≤ 13 → six 13 d = true := by decide +kernel
theorem six_14 : ∀ d : Nat, d ≤ 14 → six 14 d = true := by decide +kernel
theorem six_15 : ∀ d : Nat, d ≤ 15 → six 15 d = true := by decide +kernel
theorem le_cases {s n : Nat} (h : s ≤ n + 1) : s = n + 1 ∨ s ≤ n := (Nat.lt_or_eq_of_le h).elim (fun h => .inr (Nat.le_of_lt_succ h)) .inl
theorem six_all {s d : Nat} (h1 : 1 ≤ s) (h2 : s ≤ 15) (h3 : d ≤ s) : six s d = true := by
  rcases le_cases h2 with rfl | h2
  · exact six_15 d h3
  rcases le_cases h2 with rfl | h2
  · exact six_14 d h3
  rcases le_cases h2 with rfl | h2
  · exact six_13 d h3
  rcases le_cases h2 with rfl | h2
  · exact six_12 d h3
  rcases le_cases h2 with rfl | h2
  · exact six_11 d h3
  rcases le_cases h2 with rfl | h2
  · exact six_10 d h3
  rcases le_cases h2 with rfl | h2
  · exact six_9 d h3
  rcases le_cases h2 with rfl | h2
  · exact six_8 d h3
  rcases le_cases h2 with rfl | h2
  · exact six_7 d h3
  rcases le_cases h2 with rfl | h2
  · exact six_6 d h3
  rcases le_cases h2 with rfl | h2
  · exact six_5 d h3
  rcases le_cases h2 with rfl | h2
  · exact six_4 d h3
  rcases le_cases h2 with rfl | h2
  · exact six_3 d h3
  rcases le_cases h2 with rfl | h2
  · exact six_2 d h3
  rcases le_cases h2 with rfl | h2
  · exact six_1 d h3
  exact absurd (Nat.le_trans h1 h2) (by decide)
theorem hueT_all {dr dg db s : Nat} (h1 : 1 ≤ s) (h2 : s ≤ 15) (hr : dr ≤ s) (hg : dg ≤ s) (hb : db ≤ s) (z : dr = 0 ∨ dg = 0 ∨ db = 0) (t : dr = s ∨ dg = s ∨ db = s) : hueT dr dg db s = true := by
  have six' := fun {d : Nat} (h : d ≤ s) => by
    have := six_all h1 h2 h
    simp only [six, Bool.and_eq_true] at this
    exact this
  rcases z with rfl | rfl | rfl
  · rcases t with t | t | t
    · omega
    · subst t; exact (six' hb).1.1.1.1.1
    · subst t; exact (six' hg).1.1.1.1.2
  · rcases t with t | t | t
    · subst t; exact (six' hb).1.1.1.2
    · omega
    · subst t; exact (six' hr).1.1.2
  · rcases t with t | t | t
    · subst t; exact (six' hg).1.2
    · subst t; exact (six' hr).2
    · omega
theorem fmod_pos2 (x : Int) {k : Int} (h : 0 < k) : 0 ≤ x.fmod k ∧ x.fmod k < k := ⟨Int.fmod_nonneg_of_pos x h, Int.fmod_lt_of_pos x h⟩
theorem sub_tab : ∀ M : Nat, M < 16 → ∀ x : Nat, x ≤ M → Float64.sub (divI M 16) (divI x 16) = divI ((M : Int) - x) 16 := by decide +kernel
theorem div_tab : ∀ s : Nat, s < 16 → ∀ d : Nat, d ≤ s → 1 ≤ s → Float64.div (divI d 16) (divI s 16) = divI d s := by decide +kernel
theorem quot_is {M m p : Int} (h : 0 ≤ m ∧ m < M ∧ M ≤ 15) (hp : m ≤ p ∧ p ≤ M) : Float64.div (Float64.sub (divI M 16) (divI p 16)) (Float64.sub (divI M 16) (divI m 16)) = divI (M - p) (M - m) := by
  obtain ⟨a, rfl⟩ := Int.eq_ofNat_of_zero_le (show 0 ≤ M by omega)
  obtain ⟨b, rfl⟩ := Int.eq_ofNat_of_zero_le h.1
  obtain ⟨c, rfl⟩ := Int.eq_ofNat_of_zero_le (show 0 ≤ p by omega)
  rw [sub_tab a (by omega) c (by omega), sub_tab a (by omega) b (by omega)]
  have e1 : (a : Int) - c = ((a - c : Nat) : Int) := by omega
  have e2 : (a : Int) - b = ((a - b : Nat) : Int) := by omega
  rw [e1, e2, div_tab (a - b) (by omega) (a - c) (by omega) (by omega)]
theorem dec_sub (p M : Int) : (decide (p = M) = true) = (M - p = 0) := by
  rw [decide_eq_true_iff]
  exact propext ⟨fun e => by rw [e]; exact Int.sub_self M, eq_of_sub⟩
theorem hueF_is {p q r M m : Int} (hp : 0 ≤ p ∧ p ≤ 15) (hq : 0 ≤ q ∧ q ≤ 15) (hr : 0 ≤ r ∧ r ≤ 15) (hne : M - m ≠ 0)
    (h1 : M = p ∨ M = q ∨ M = r) (h2 : p ≤ M ∧ q ≤ M ∧ r ≤ M) (h3 : m = p ∨ m = q ∨ m = r) (h4 : m ≤ p ∧ m ≤ q ∧ m ≤ r) : hueF (divI p 16) (divI q 16) (divI r 16) = hueD (M - p) (M - q) (M - r) (M - m) := by
  have hM := (mx_bd hp hq hr h1).2
  have hb := pair_lt (pair_bd hp hq hr h1 h2 h3 h4) (ne_of_sub hne)
  unfold hueF hueD
  rw [max3_is hp hq hr h1 h2, min3_is hp hq hr h3 h4, (pair1 ⟨hp.1, h2.1, hM⟩).1, (pair1 ⟨hq.1, h2.2.1, hM⟩).1]
  rw [quot_is hb ⟨h4.1, h2.1⟩, quot_is hb ⟨h4.2.1, h2.2.1⟩, quot_is hb ⟨h4.2.2, h2.2.2⟩]
  simp only [dec_sub]
theorem part_of {pl s m M c : Int} {d : Int} (hs : 0 < s) (e : s = M - m) (hf : fallI pl s c = d) : partI pl s m M c = M - d := by
  unfold partI
  rw [hf, ← e, Int.fdiv_eq_ediv_of_nonneg _ (Int.le_of_lt hs), Int.mul_ediv_cancel_left _ (Int.ne_of_gt hs)]
theorem nat_sub {M p : Int} (h : p ≤ M) : ∃ n : Nat, M - p = n := Int.eq_ofNat_of_zero_le (Int.sub_nonneg_of_le h)
theorem d_le {M m p : Int} {a b : Nat} (e : M - p = a) (e' : M - m = b) (h : m ≤ p) : a ≤ b := by omega
theorem d_zero {M p : Int} {a : Nat} (e : M - p = a) (h : M = p) : a = 0 := by omega
theorem d_same {M m p : Int} {a b : Nat} (e : M - p = a) (e' : M - m = b) (h : m = p) : a = b := by omega
theorem d_bd {M m : Int} {b : Nat} (e : M - m = b) (h : 0 ≤ m ∧ m < M ∧ M ≤ 15) : 1 ≤ b ∧ b ≤ 15 ∧ 0 < M - m ∧ 6 * (M - m) ≤ 100 := by omega
theorem back {M p : Int} {a : Nat} (e : M - p = a) : M - a = p := by rw [← e]; exact Int.sub_sub_self M p
theorem hue_ok {p q r M m : Int} {h s v : UInt64} (hne : M - m ≠ 0) (e : HsvIs (divI p 16) (divI q 16) (divI r 16) h s v) (hp : 0 ≤ p ∧ p ≤ 15) (hq : 0 ≤ q ∧ q ≤ 15) (hr : 0 ≤ r ∧ r ≤ 15)
    (h1 : M = p ∨ M = q ∨ M = r) (h2 : p ≤ M ∧ q ≤ M ∧ r ≤ M) (h3 : m = p ∨ m = q ∨ m = r) (h4 : m ≤ p ∧ m ≤ q ∧ m ≤ r) : HueOk p q r M m h := by
  have e := e.eq
  have hb := pair_bd hp hq hr h1 h2 h3 h4
  have hl := pair_lt hb (ne_of_sub hne)
  unfold hsvF at e
  rw [max3_is hp hq hr h1 h2, min3_is hp hq hr h3 h4, (pair1 hb).1, if_neg (by rw [decide_eq_true_iff]; exact ne_of_sub hne)] at e
  have eh : hueF (divI p 16) (divI q 16) (divI r 16) = h := by cases e; rfl
  rw [hueF_is hp hq hr hne h1 h2 h3 h4] at eh
  obtain ⟨dr, er⟩ := nat_sub h2.1
  obtain ⟨dg, eg⟩ := nat_sub h2.2.1
  obtain ⟨db, eb⟩ := nat_sub h2.2.2
  obtain ⟨sp, es⟩ := nat_sub hb.2.1
  obtain ⟨b1, b2, hs, b4⟩ := d_bd es hl
  have hT := hueT_all b1 b2 (d_le er es h4.1) (d_le eg es h4.2.1) (d_le eb es h4.2.2) (h1.imp (d_zero er) (Or.imp (d_zero eg) (d_zero eb))) (h3.imp (d_same er es) (Or.imp (d_same eg es) (d_same eb es)))
  rw [er, eg, eb, es] at eh
  unfold hueT at hT
  simp only [eh] at hT
  unfold hueChk at hT
  simp only [Bool.and_eq_true, Bool.not_eq_true', decide_eq_true_eq] at hT
  obtain ⟨⟨⟨⟨⟨⟨⟨⟨k1, k2⟩, k3⟩, k4⟩, k5⟩, k6⟩, k7⟩, k8⟩, k9⟩ := hT
  have fm := fmod_pos2 (nearI (hx h (M - m))) (k := 6 * (M - m)) (Int.mul_pos (by decide) hs)
  refine ⟨k1, k2, ⟨?_, ?_⟩, ?_, ⟨fm.1, Int.le_trans (Int.le_of_lt fm.2) b4⟩, ?_, ⟨?_, ?_, ?_⟩⟩
  · rw [es]; exact k3
  · rfl
  · unfold hx; rw [es]; exact ⟨k4, k5⟩
  · unfold hx; rw [es]; exact k6
  · refine (part_of hs rfl (d := dr) ?_).trans (back er)
    unfold hx; rw [es]; exact k7
  · refine (part_of hs rfl (d := dg) ?_).trans (back eg)
    unfold hx; rw [es]; exact k8
  · refine (part_of hs rfl (d := db) ?_).trans (back eb)
    unfold hx; rw [es]; exact k9
end Mine
namespace Mine
open Float64
/-- every q·2^j with q ≤ 2^53 is a double's magnitude -/
theorem repr_V : ∀ (j q : Nat), q ≤ 2 ^ 53 → ∃ t, V t = q * 2 ^ j := by
  intro j
  induction j with
  | zero => intro q hq; exact ⟨q, by have := V_at (k := 0) (q := q) hq (.inr rfl); simpa using this⟩
  | succ j ih =>
    intro q hq
    by_cases h : 2 ^ 52 ≤ q
    · exact ⟨(j + 1) * 2 ^ 52 + q, V_at hq (.inl h)⟩
    · obtain ⟨t, ht⟩ := ih (2 * q) (by omega)
      exact ⟨t, by rw [ht, Nat.pow_succ]; ac_rfl⟩
theorem abs_two {x : Int} {n : Nat} (h : x.natAbs < n) : -(n : Int) < x ∧ x < n := by omega
theorem two_abs {x : Int} {n : Nat} (h1 : -(n : Int) < x) (h2 : x < n) : x.natAbs < n := by omega
theorem dist_ge (a b : Nat) : (a : Int) - b ≤ dist a b ∧ (b : Int) - a ≤ dist a b := by unfold dist; omega
theorem two_dist {a b n : Nat} (h1 : (a : Int) - b < n) (h2 : (b : Int) - a < n) : dist a b < n := by unfold dist; omega
theorem sgn_dist (b : Bool) {X W Y : Nat} (h : dist W X < Y) : (sgn b X - sgn b W).natAbs < Y := by
  obtain ⟨h1, h2⟩ := dist_ge W X
  cases b
  · have e : ((X : Int) - W).natAbs < Y := two_abs (by omega) (by omega)
    exact e
  · have e : (-(X : Int) - -W).natAbs < Y := two_abs (by omega) (by omega)
    exact e
theorem sgn_abs (z : Int) : sgn (decide (z < 0)) z.natAbs = z := by
  unfold sgn
  split <;> rename_i h <;> simp only [decide_eq_true_eq] at h <;> omega
theorem dist_le {a b c : Nat} (h1 : c ≤ a) (h2 : a < c + b) : dist a c < b := by unfold dist; omega
/-- the error of a rounded result -/
theorem right_err {r : UInt64} {neg : Bool} {W D j : Nat} (h : Right r neg W D) (hD : 0 < D) (hj : j + 53 ≤ 2000) (hW : W < D * 2 ^ (j + 53)) :
    ∃ t, t < infMag ∧ r = pack neg t ∧ dist W (D * V t) < D * 2 ^ j := by
  obtain ⟨t, e, hle, hov, hn⟩ := h
  have hlt : t < infMag := by
    rcases Nat.lt_or_ge t infMag with h | h
    · exact h
    · have h0 := hov.mp (Nat.le_antisymm hle h)
      have h1 : (2 : Nat) ^ (j + 53) ≤ 2 ^ 2000 := Nat.pow_le_pow_right (by decide) hj
      have h2 : D * 2 ^ (j + 53) ≤ D * 2 ^ 2000 := Nat.mul_le_mul_left _ h1
      have h3 : D * (2 ^ 2000 * 2) ≤ D * ((2 ^ 54 - 1) * 2 ^ 2045) := Nat.mul_le_mul_left _ (by decide +kernel)
      rw [← Nat.mul_assoc] at h3
      generalize D * 2 ^ (j + 53) = X at *
      generalize D * 2 ^ 2000 = Y at *
      generalize D * ((2 ^ 54 - 1) * 2 ^ 2045) = Z at *
      omega
  have hE : 0 < D * 2 ^ j := Nat.mul_pos hD (Nat.two_pow_pos _)
  have hq : W / (D * 2 ^ j) ≤ 2 ^ 53 := by
    refine Nat.le_of_lt ((Nat.div_lt_iff_lt_mul hE).mpr ?_)
    rw [Nat.pow_add] at hW
    calc W < D * (2 ^ j * 2 ^ 53) := hW
      _ = 2 ^ 53 * (D * 2 ^ j) := by ac_rfl
  obtain ⟨t', ht'⟩ := repr_V j (W / (D * 2 ^ j)) hq
  refine ⟨t, hlt, e, Nat.lt_of_le_of_lt (hn hlt t').1 ?_⟩
  rw [ht']
  have e2 : D * (W / (D * 2 ^ j) * 2 ^ j) = D * 2 ^ j * (W / (D * 2 ^ j)) := by ac_rfl
  rw [e2]
  have h1 := Nat.div_add_mod W (D * 2 ^ j)
  have h2 := Nat.mod_lt W hE
  generalize D * 2 ^ j * (W / (D * 2 ^ j)) = X at *
  exact dist_le (by omega) (by omega)
/-- a finite double and its value in units of 2^-1074 -/
structure Fin (x : UInt64) (z : Int) : Prop where
  dec : ∃ s m e, decode x = .fin s m e
  val : val x = z
theorem Fin.isFinite {x : UInt64} {z : Int} (h : Fin x z) : Float64.isFinite x = true := by
  obtain ⟨s, m, e, hd⟩ := h.dec
  unfold Float64.isFinite
  rw [hd]
theorem fin_pack (neg : Bool) {t : Nat} (h : t < infMag) : Fin (pack neg t) (sgn neg (V t)) := by
  obtain ⟨m, e, hd, _⟩ := decode_pack neg h
  exact ⟨⟨_, _, _, hd⟩, val_pack neg h⟩
/-- a sum, up to 2^j units -/
theorem add_err {x y : UInt64} {a b : Int} (hx : Fin x a) (hy : Fin y b) (j : Nat) (hj : j + 53 ≤ 2000) (hW : (a + b).natAbs < 2 ^ (j + 53)) : ∃ c, Fin (add x y) c ∧ (c - (a + b)).natAbs < 2 ^ j := by
  obtain ⟨s, m, e, hdx⟩ := hx.dec
  obtain ⟨s', m', e', hdy⟩ := hy.dec
  have hr := add_right hdx hdy
  rw [hx.val, hy.val] at hr
  by_cases h0 : a + b = 0
  · rw [hr.1 h0, h0]
    refine ⟨0, ?_, by simpa using Nat.two_pow_pos j⟩
    have := fin_pack (s && s') (t := 0) (by decide)
    rw [V_zero] at this
    have z : sgn (s && s') 0 = 0 := by cases (s && s') <;> rfl
    rw [z] at this
    exact this
  · obtain ⟨t, ht, er, hd⟩ := right_err (hr.2 h0) (by decide) hj (by simpa using hW)
    rw [er]
    refine ⟨_, fin_pack _ ht, ?_⟩
    simp only [Nat.one_mul] at hd
    have := sgn_dist (decide (a + b < 0)) hd
    rwa [sgn_abs] at this
theorem sub_err {x y : UInt64} {a b : Int} (hx : Fin x a) (hy : Fin y b) (j : Nat) (hj : j + 53 ≤ 2000) (hW : (a - b).natAbs < 2 ^ (j + 53)) : ∃ c, Fin (sub x y) c ∧ (c - (a - b)).natAbs < 2 ^ j := by
  obtain ⟨s', m', e', hdy⟩ := hy.dec
  have hn : Fin (neg y) (-b) := ⟨⟨_, _, _, neg_decode hdy⟩, by rw [neg_val hdy, hy.val]⟩
  have := add_err hx hn j hj (by rwa [← Int.sub_eq_add_neg])
  rw [← Int.sub_eq_add_neg] at this
  unfold Float64.sub
  exact this
theorem sgn_val {x : UInt64} {s : Bool} {m : Nat} {e : Int} (h : decode x = .fin s m e) : val x = sgn s (val x).natAbs := by
  rw [val_natAbs h, val_eq h]
theorem sgn_prod (s s' : Bool) (a b : Nat) : sgn s a * sgn s' b = sgn (s != s') (a * b) := by
  unfold sgn
  cases s <;> cases s' <;> simp [Int.natCast_mul, Int.neg_mul, Int.mul_neg]
theorem mul_err {x y : UInt64} {a b : Int} (hx : Fin x a) (hy : Fin y b) (j : Nat) (hj : j + 53 ≤ 2000) (hW : (a * b).natAbs < 2 ^ 1074 * 2 ^ (j + 53)) : ∃ c, Fin (mul x y) c ∧ ((2 ^ 1074 : Nat) * c - a * b).natAbs < 2 ^ 1074 * 2 ^ j := by
  obtain ⟨s, m, e, hdx⟩ := hx.dec
  obtain ⟨s', m', e', hdy⟩ := hy.dec
  have hr := mul_right hdx hdy
  rw [hx.val, hy.val] at hr
  obtain ⟨t, ht, er, hd⟩ := right_err hr (Nat.two_pow_pos _) hj (by rwa [← Int.natAbs_mul])
  rw [er]
  refine ⟨_, fin_pack _ ht, ?_⟩
  have ha : a = sgn s a.natAbs := by have := sgn_val hdx; rwa [hx.val] at this
  have hb : b = sgn s' b.natAbs := by have := sgn_val hdy; rwa [hy.val] at this
  have hab : a * b = sgn (s != s') (a.natAbs * b.natAbs) := by rw [← sgn_prod, ← ha, ← hb]
  have hc : ((2 ^ 1074 : Nat) : Int) * sgn (s != s') (V t) = sgn (s != s') (2 ^ 1074 * V t) := by
    unfold sgn
    split
    · rw [Int.mul_neg, Int.natCast_mul]
    · rw [Int.natCast_mul]
  rw [hab, hc]
  generalize a.natAbs * b.natAbs = W at *
  generalize 2 ^ 1074 * V t = X at *
  generalize (2 : Nat) ^ 1074 * 2 ^ j = Y at *
  exact sgn_dist _ hd
/-- the nearest int -/
theorem half_is {n d k : Nat} (hd : 0 < d) (h : 2 * dist n (d * k) < d) : halfEven n d = k := by
  have h1 := halfEven_nearest n d hd k
  have g1 := dist_ge n (d * halfEven n d)
  have g2 := dist_ge n (d * k)
  generalize dist n (d * halfEven n d) = A at *
  generalize dist n (d * k) = B at *
  rcases Nat.lt_trichotomy (halfEven n d) k with h2 | h2 | h2
  · have h3 : d * (halfEven n d + 1) ≤ d * k := Nat.mul_le_mul_left _ h2
    rw [Nat.mul_add, Nat.mul_one] at h3
    generalize d * halfEven n d = P at *
    generalize d * k = R at *
    clear h2
    omega
  · exact h2
  · have h3 : d * (k + 1) ≤ d * halfEven n d := Nat.mul_le_mul_left _ h2
    rw [Nat.mul_add, Nat.mul_one] at h3
    generalize d * halfEven n d = P at *
    generalize d * k = R at *
    clear h2
    omega
theorem sgn_mulU (k : Int) (U : Nat) : k * (U : Int) = sgn (decide (k < 0)) (k.natAbs * U) := by
  have e := sgn_abs k
  unfold sgn at e ⊢
  split <;> rename_i h
  · rw [if_pos h] at e
    rw [Int.natCast_mul, ← Int.neg_mul, e]
  · rw [if_neg h] at e
    rw [Int.natCast_mul, e]
theorem sgn_nn {k : Int} {Y : Nat} (h : 0 ≤ k) : sgn (decide (k < 0)) Y = Y := by
  rw [decide_eq_false (by omega)]; rfl
theorem sgn_ng {k : Int} {Y : Nat} (h : k < 0) : sgn (decide (k < 0)) Y = -(Y : Int) := by
  rw [decide_eq_true h]; rfl
theorem near_fin {s : Bool} {Z U r : Nat} {k : Int} (Y : Nat) (hU : 0 < U) (hY : k = 0 ∨ U ≤ Y) (h0 : k = 0 → Y = 0) (h : 2 * (sgn s Z - sgn (decide (k < 0)) Y).natAbs < U) (hK : 2 * dist Z Y < U → r = k.natAbs) : sgn s r = k := by
  rcases Int.lt_or_le k 0 with hk | hk
  · rw [sgn_ng hk] at h
    have hY' : U ≤ Y := hY.resolve_left (by omega)
    cases s
    · exact absurd (show 2 * ((Z : Int) - -(Y : Int)).natAbs < U from h) (by clear hK h h0 hY; omega)
    · have h : 2 * (-(Z : Int) - -(Y : Int)).natAbs < U := h
      have h2 : 2 * dist Z Y < U := by clear hK hY h0; unfold dist; omega
      rw [hK h2]
      show -((k.natAbs : Nat) : Int) = k
      clear h h2 hK hY hY' h0
      omega
  · rw [sgn_nn hk] at h
    cases s
    · have h : 2 * ((Z : Int) - (Y : Int)).natAbs < U := h
      have h2 : 2 * dist Z Y < U := by clear hK hY h0; unfold dist; omega
      rw [hK h2]
      show ((k.natAbs : Nat) : Int) = k
      clear h h2 hK hY h0
      omega
    · have h : 2 * (-(Z : Int) - (Y : Int)).natAbs < U := h
      rcases hY with e | e
      · have e2 := h0 e
        have h2 : 2 * dist Z Y < U := by clear hK h0; unfold dist; omega
        rw [hK h2, e]
        rfl
      · exact absurd h (by clear hK h h0; omega)
theorem near_is {x : UInt64} {z k : Int} (hx : Fin x z) (h : 2 * (z - k * (2 ^ 1074 : Nat)).natAbs < 2 ^ 1074) : nearI x = k := by
  obtain ⟨s, m, e, hd⟩ := hx.dec
  have he := decode_ge hd
  have hz : z = sgn s (m * 2 ^ (e + 1074).toNat) := by rw [← hx.val, val_eq hd]
  unfold nearI
  rw [Flt.toInt_fin hd]
  unfold nearestOf
  have hs := shift_one m e 1074 (by omega)
  have hp := shift_pos m 1 e (by decide)
  have hshow : (match shift m 1 e with | (n, d) => sgn s (halfEven n d)) = sgn s (halfEven (shift m 1 e).1 (shift m 1 e).2) := rfl
  show (match shift m 1 e with | (n, d) => sgn s (halfEven n d)) = k
  rw [hshow]
  generalize (shift m 1 e).1 = n at *
  generalize (shift m 1 e).2 = d at *
  generalize m * 2 ^ (e + ((1074 : Nat) : Int)).toNat = Z at *
  have hU : 0 < (2 : Nat) ^ 1074 := Nat.two_pow_pos _
  generalize (2 : Nat) ^ 1074 = U at *
  -- n * U = Z * d, |±Z - k U| < U / 2
  have key : ∀ K : Nat, 2 * dist Z (K * U) < U → halfEven n d = K := by
    intro K hK
    refine half_is hp ?_
    have h1 : dist (n * U) (d * K * U) = U * dist n (d * K) := by rw [Nat.mul_comm n U, Nat.mul_comm (d * K) U, dist_mul]
    have h2 : dist (Z * d) (d * K * U) = d * dist Z (K * U) := by
      rw [Nat.mul_comm Z d, Nat.mul_assoc d K U, dist_mul]
    rw [hs, h2] at h1
    have h3 : d * (2 * dist Z (K * U)) < d * U := Nat.mul_lt_mul_of_pos_left hK hp
    have h4 : U * (2 * dist n (d * K)) < U * d := by
      calc U * (2 * dist n (d * K)) = 2 * (U * dist n (d * K)) := by ac_rfl
        _ = 2 * (d * dist Z (K * U)) := by rw [← h1]
        _ = d * (2 * dist Z (K * U)) := by ac_rfl
        _ < d * U := h3
        _ = U * d := Nat.mul_comm _ _
    exact Nat.lt_of_mul_lt_mul_left h4
  subst hz
  have hY : k = 0 ∨ U ≤ k.natAbs * U := by
    rcases Nat.eq_zero_or_pos k.natAbs with h0 | h0
    · exact .inl (Int.natAbs_eq_zero.mp h0)
    · exact .inr (Nat.le_mul_of_pos_left U h0)
  have hK := key k.natAbs
  clear key hs hd he hp hx
  exact near_fin _ hU hY (fun e => by rw [e]; exact Nat.zero_mul U) (by rw [← sgn_mulU]; exact h) hK
end Mine
namespace Mine
open Float64
set_option exponentiation.threshold 5000
theorem fin_lit {x : UInt64} {z : Int} (h1 : Float64.isFinite x = true) (h2 : val x = z) : Fin x z := by
  refine ⟨?_, h2⟩
  unfold Float64.isFinite at h1
  cases e : decode x with
  | nan => rw [e] at h1; simp at h1
  | inf s => rw [e] at h1; simp at h1
  | fin s m e' => exact ⟨s, m, e', rfl⟩
theorem part_tab : ∀ p : Nat, p < 16 → Float64.isFinite (divI p 16) = true ∧ val (divI p 16) = (p : Int) * 2 ^ 1070 := by decide +kernel
theorem fin_part {p : Int} (h : 0 ≤ p ∧ p ≤ 15) : Fin (divI p 16) (p * 2 ^ 1070) := by
  obtain ⟨n, hn, rfl⟩ := nat_of h
  have := part_tab n hn
  exact fin_lit this.1 this.2
theorem f1 : Fin 4599075939470750515 (21617278211378380 * 2 ^ 1018) := fin_lit (by decide +kernel) (by decide +kernel)
theorem f2 : Fin 4603489467105573601 (42513980482377480 * 2 ^ 1018) := fin_lit (by decide +kernel) (by decide +kernel)
theorem f3 : Fin 4592590756007337001 (7926335344172073 * 2 ^ 1018) := fin_lit (by decide +kernel) (by decide +kernel)
theorem f1600 : Fin (ofInt 1600) (1600 * 2 ^ 1074) := fin_lit (by decide +kernel) (by decide +kernel)
theorem f160000 : Fin (ofInt 160000) (160000 * 2 ^ 1074) := fin_lit (by decide +kernel) (by decide +kernel)
theorem f4 : Fin 4604840546993784750 (13330654897016668 * 2 ^ 1020) := fin_lit (by decide +kernel) (by decide +kernel)
theorem f5 : Fin 4598535507515466056 (4863887597560136 * 2 ^ 1020) := fin_lit (by decide +kernel) (by decide +kernel)
theorem f6 : Fin 4602318531202457272 (8646911284551352 * 2 ^ 1020) := fin_lit (by decide +kernel) (by decide +kernel)
theorem f7 : Fin 4601057523306793533 (7385903388887613 * 2 ^ 1020) := fin_lit (by decide +kernel) (by decide +kernel)
def EE : Nat := 2 ^ 1023
theorem EE_pos : (0 : Int) < (EE : Int) := by
  have : 0 < EE := Nat.two_pow_pos _
  omega
theorem pow53 : (2 : Nat) ^ (1023 + 53) = 2 ^ 53 * EE := by unfold EE; rw [← Nat.pow_add]
theorem pow51 : (2 : Nat) ^ 1074 = 2 ^ 51 * EE := by unfold EE; rw [← Nat.pow_add]
/-- x is A * 2^1023 by D units, up to n * 2^1023 by D -/
structure App (x : UInt64) (D A n : Int) : Prop where
  ex : ∃ z, Fin x z ∧ -(n * EE) < D * z - A * EE ∧ D * z - A * EE < n * EE
theorem lt_of_mul {D a b : Int} (hD : 0 < D) (h : D * a < D * b) : a < b := Int.lt_of_mul_lt_mul_left h (Int.le_of_lt hD)
theorem App.scale {x : UInt64} {D A n : Int} (h : App x D A n) (t : Int) (ht : 0 < t) : App x (t * D) (t * A) (t * n) := by
  obtain ⟨z, g, h1, h2⟩ := h
  have k1 := Int.mul_lt_mul_of_pos_left h1 ht
  have k2 := Int.mul_lt_mul_of_pos_left h2 ht
  refine ⟨z, g, ?_, ?_⟩
  · rw [Int.mul_assoc t n, Int.mul_assoc t D, Int.mul_assoc t A, ← Int.mul_sub, ← Int.mul_neg]; exact k1
  · rw [Int.mul_assoc t n, Int.mul_assoc t D, Int.mul_assoc t A, ← Int.mul_sub]; exact k2
theorem App.add {x y : UInt64} {D A n B m : Int} (hx : App x D A n) (hy : App y D B m) (hD : 0 < D) (b1 : -(D * 2 ^ 53) ≤ A + B - (n + m)) (b2 : A + B + (n + m) ≤ D * 2 ^ 53) : App (Float64.add x y) D (A + B) (n + m + D) := by
  obtain ⟨z1, g1, k1, k2⟩ := hx
  obtain ⟨z2, g2, k3, k4⟩ := hy
  have c1 := Int.mul_le_mul_of_nonneg_right b1 (Int.le_of_lt EE_pos)
  have c2 := Int.mul_le_mul_of_nonneg_right b2 (Int.le_of_lt EE_pos)
  simp only [Int.add_mul, Int.sub_mul, Int.neg_mul] at c1 c2
  have w1 : D * (z1 + z2) < D * ((2 ^ 53 : Nat) * (EE : Int)) := by
    rw [Int.mul_add, ← Int.mul_assoc]
    exact Int.lt_of_lt_of_le (b := A * EE + B * EE + (n * EE + m * EE)) (by clear c1 c2 b1 b2; omega) c2
  have w2 : D * -((2 ^ 53 : Nat) * (EE : Int)) < D * (z1 + z2) := by
    rw [Int.mul_add, Int.mul_neg, ← Int.mul_assoc]
    exact Int.lt_of_le_of_lt (b := A * EE + B * EE - (n * EE + m * EE)) c1 (by clear c1 c2 b1 b2; omega)
  obtain ⟨c, g, e⟩ := add_err g1 g2 1023 (by decide) (by rw [pow53]; exact two_abs (by rw [Int.natCast_mul]; exact lt_of_mul hD w2) (by rw [Int.natCast_mul]; exact lt_of_mul hD w1))
  obtain ⟨e1, e2⟩ := abs_two e
  have d1 := Int.mul_lt_mul_of_pos_left e1 hD
  have d2 := Int.mul_lt_mul_of_pos_left e2 hD
  rw [Int.mul_sub, Int.mul_add] at d1 d2
  rw [Int.mul_neg] at d1
  clear b1 b2 c1 c2 w1 w2 e e1 e2
  refine ⟨c, g, ?_, ?_⟩
  · simp only [Int.add_mul]
    have d1 : -(D * (EE : Int)) < D * c - (D * z1 + D * z2) := d1
    omega
  · simp only [Int.add_mul]
    have d2 : D * c - (D * z1 + D * z2) < D * (EE : Int) := d2
    omega
theorem App.neg {x : UInt64} {D A n : Int} (h : App x D A n) : App (Float64.neg x) D (-A) n := by
  obtain ⟨z, g, h1, h2⟩ := h
  obtain ⟨s', m', e', hdy⟩ := g.dec
  refine ⟨-z, ⟨⟨_, _, _, neg_decode hdy⟩, by rw [neg_val hdy, g.val]⟩, ?_, ?_⟩
  · rw [Int.mul_neg, Int.neg_mul]; omega
  · rw [Int.mul_neg, Int.neg_mul]; omega
theorem App.sub {x y : UInt64} {D A n B m : Int} (hx : App x D A n) (hy : App y D B m) (hD : 0 < D) (b1 : -(D * 2 ^ 53) ≤ A - B - (n + m)) (b2 : A - B + (n + m) ≤ D * 2 ^ 53) : App (Float64.sub x y) D (A - B) (n + m + D) := by
  have := hx.add hy.neg hD (by omega) (by omega)
  rw [← Int.sub_eq_add_neg] at this
  unfold Float64.sub
  exact this
/-- a product with a written number c * P, P * L = 2^1074 -/
theorem mul_fin {x f : UInt64} {z c P L : Int} {F j : Nat} (hF : 2 ^ j = F) (hj : j + 53 ≤ 2000) (g : Fin x z) (hf : Fin f (c * P)) (hP : 0 < P) (hPL : P * L = (2 ^ 1074 : Nat)) (h1 : L * -((2 ^ 53 : Nat) * (F : Int)) < c * z) (h2 : c * z < L * ((2 ^ 53 : Nat) * (F : Int))) :
    (∃ m, Fin (Float64.mul f x) m ∧ L * -(F : Int) < L * m - c * z ∧ L * m - c * z < L * (F : Int)) ∧ (∃ m, Fin (Float64.mul x f) m ∧ L * -(F : Int) < L * m - c * z ∧ L * m - c * z < L * (F : Int)) := by
  have q1 := Int.mul_lt_mul_of_pos_left h1 hP
  have q2 := Int.mul_lt_mul_of_pos_left h2 hP
  rw [← Int.mul_assoc P L, hPL] at q1 q2
  have ez : P * (c * z) = c * P * z := by rw [← Int.mul_assoc, Int.mul_comm P c]
  have ez' : c * P * z = z * (c * P) := Int.mul_comm _ _
  have fin : ∀ m : Int, ((2 ^ 1074 : Nat) * m - c * P * z).natAbs < 2 ^ 1074 * 2 ^ j → L * -(F : Int) < L * m - c * z ∧ L * m - c * z < L * (F : Int) := by
    intro m e
    obtain ⟨e1, e2⟩ := abs_two e
    rw [← ez, ← hPL, Int.mul_assoc, ← Int.mul_sub] at e1 e2
    have eE : ((2 ^ 1074 * 2 ^ j : Nat) : Int) = P * (L * F) := by rw [← Int.mul_assoc, hPL, Int.natCast_mul, hF]
    rw [eE] at e1 e2
    rw [← Int.mul_neg, ← Int.mul_neg] at e1
    exact ⟨lt_of_mul hP e1, lt_of_mul hP e2⟩
  have bd : (c * P * z).natAbs < 2 ^ 1074 * 2 ^ (j + 53) := by
    rw [Nat.pow_add 2 j 53, hF, Nat.mul_comm F, ← ez]
    refine two_abs ?_ ?_
    · rw [Int.natCast_mul, Int.natCast_mul, ← Int.mul_neg]; exact q1
    · rw [Int.natCast_mul, Int.natCast_mul]; exact q2
  constructor
  · obtain ⟨m, g', e⟩ := mul_err hf g j hj bd
    exact ⟨m, g', fin m e⟩
  · obtain ⟨m, g', e⟩ := mul_err g hf j hj (by rwa [← ez'])
    exact ⟨m, g', fin m (by rwa [ez'])⟩
theorem App.mul {x f : UInt64} {D A n c P L : Int} (s : Nat) (hs : s ≤ 100) (hx : App x D A n) (hf : Fin f (c * P)) (hP : 0 < P) (hPL : P * L = (2 ^ 1074 : Nat)) (hD : 0 < D) (hc : 0 < c) (b1 : -(L * D * (2 ^ 53 * (2 ^ s : Nat))) ≤ c * A - c * n) (b2 : c * A + c * n ≤ L * D * (2 ^ 53 * (2 ^ s : Nat))) :
    App (Float64.mul f x) (L * D) (c * A) (c * n + L * D * (2 ^ s : Nat)) ∧ App (Float64.mul x f) (L * D) (c * A) (c * n + L * D * (2 ^ s : Nat)) := by
  obtain ⟨z, g, k1, k2⟩ := hx
  have c1 := Int.mul_le_mul_of_nonneg_right b1 (Int.le_of_lt EE_pos)
  have c2 := Int.mul_le_mul_of_nonneg_right b2 (Int.le_of_lt EE_pos)
  have j1 := Int.mul_lt_mul_of_pos_left k1 hc
  have j2 := Int.mul_lt_mul_of_pos_left k2 hc
  have hF : 2 ^ (1023 + s) = 2 ^ s * EE := by unfold EE; rw [← Nat.pow_add, Nat.add_comm]
  generalize (2 : Nat) ^ s = S at *
  have eD : c * (D * z) = D * (c * z) := by rw [← Int.mul_assoc, Int.mul_comm c D, Int.mul_assoc]
  rw [Int.mul_sub, eD, ← Int.mul_assoc c A] at j1 j2
  rw [Int.mul_neg, ← Int.mul_assoc c n] at j1
  rw [← Int.mul_assoc c n] at j2
  have e53 : L * D * (2 ^ 53 * (S : Int)) * (EE : Int) = D * (L * ((2 ^ 53 : Nat) * ((S * EE : Nat) : Int))) := by
    rw [Int.mul_comm L D, Int.mul_assoc D, Int.mul_assoc D, Int.mul_assoc L, Int.mul_assoc, Int.natCast_mul, show ((2 ^ 53 : Nat) : Int) = 2 ^ 53 from by decide]
  simp only [Int.add_mul, Int.sub_mul, Int.neg_mul] at c1 c2
  rw [e53] at c1 c2
  have w1 : D * (c * z) < D * (L * ((2 ^ 53 : Nat) * ((S * EE : Nat) : Int))) := by
    refine Int.lt_of_lt_of_le ?_ c2
    clear c1 c2 b1 b2
    omega
  have w2 : D * (L * -((2 ^ 53 : Nat) * ((S * EE : Nat) : Int))) < D * (c * z) := by
    rw [Int.mul_neg, Int.mul_neg]
    refine Int.lt_of_le_of_lt c1 ?_
    clear c1 c2 b1 b2
    omega
  have key : ∀ m : Int, L * -((S * EE : Nat) : Int) < L * m - c * z ∧ L * m - c * z < L * ((S * EE : Nat) : Int) → -((c * n + L * D * S) * EE) < L * D * m - c * A * EE ∧ L * D * m - c * A * EE < (c * n + L * D * S) * EE := by
    intro m ⟨e1, e2⟩
    have d1 := Int.mul_lt_mul_of_pos_left e1 hD
    have d2 := Int.mul_lt_mul_of_pos_left e2 hD
    rw [Int.mul_sub, ← Int.mul_assoc D L, ← Int.mul_assoc D L, Int.mul_comm D L] at d1 d2
    rw [Int.mul_neg] at d1
    rw [Int.natCast_mul, ← Int.mul_assoc (L * D)] at d1 d2
    clear b1 b2 c1 c2 w1 w2 e1 e2 e53 eD k1 k2
    rw [Int.add_mul]
    constructor <;> omega
  obtain ⟨⟨m, g', e⟩, ⟨m', g'', e'⟩⟩ := mul_fin hF (by omega) g hf hP hPL (lt_of_mul hD w2) (lt_of_mul hD w1)
  exact ⟨⟨m, g', key m e⟩, ⟨m', g'', key m' e'⟩⟩
theorem App.round {x : UInt64} {D A n K : Int} (hx : App x D A n) (hD : 0 < D) (b1 : -(D * 2 ^ 50) ≤ A - K * 2 ^ 51 * D - n) (b2 : A - K * 2 ^ 51 * D + n ≤ D * 2 ^ 50) : RoundIs x K := by
  obtain ⟨z, g, k1, k2⟩ := hx
  refine ⟨g.isFinite, near_is g ?_⟩
  have c1 := Int.mul_le_mul_of_nonneg_right b1 (Int.le_of_lt EE_pos)
  have c2 := Int.mul_le_mul_of_nonneg_right b2 (Int.le_of_lt EE_pos)
  simp only [Int.add_mul, Int.sub_mul, Int.neg_mul] at c1 c2
  have e50 : D * 2 ^ 50 * (EE : Int) = D * (2 ^ 50 * (EE : Int)) := Int.mul_assoc _ _ _
  have e51 : K * 2 ^ 51 * D * (EE : Int) = D * (K * (2 ^ 51 * (EE : Int))) := by
    rw [Int.mul_comm _ D, Int.mul_assoc, Int.mul_assoc]
  rw [e50, e51] at c1 c2
  have w1 : D * (z - K * (2 ^ 51 * (EE : Int))) < D * (2 ^ 50 * (EE : Int)) := by
    rw [Int.mul_sub]
    clear b1 b2 e50 e51
    generalize D * (K * (2 ^ 51 * (EE : Int))) = u at *
    generalize D * (2 ^ 50 * (EE : Int)) = v at *
    omega
  have w2 : D * -(2 ^ 50 * (EE : Int)) < D * (z - K * (2 ^ 51 * (EE : Int))) := by
    rw [Int.mul_sub, Int.mul_neg]
    clear b1 b2 e50 e51
    generalize D * (K * (2 ^ 51 * (EE : Int))) = u at *
    generalize D * (2 ^ 50 * (EE : Int)) = v at *
    omega
  have v1 := lt_of_mul hD w1
  have v2 := lt_of_mul hD w2
  rw [pow51]
  clear b1 b2 e50 e51 c1 c2 w1 w2 k1 k2
  have e : (((2 ^ 51 * EE : Nat) : Nat) : Int) = 2 ^ 51 * (EE : Int) := by rw [Int.natCast_mul]; rfl
  rw [e]
  generalize K * (2 ^ 51 * (EE : Int)) = u at *
  have t : (z - u).natAbs < 2 ^ 50 * EE := two_abs (by rw [Int.natCast_mul]; exact v2) (by rw [Int.natCast_mul]; exact v1)
  clear v1 v2
  omega
theorem app_part {p : Int} (h : 0 ≤ p ∧ p ≤ 15) : App (divI p 16) 1 (p * 2 ^ 47) 1 := by
  have hE := EE_pos
  have e : p * 2 ^ 1070 = p * 2 ^ 47 * (EE : Int) := by rw [Int.mul_assoc]; rfl
  refine ⟨_, fin_part h, ?_, ?_⟩
  · rw [e]
    generalize p * 2 ^ 47 * (EE : Int) = u
    omega
  · rw [e]
    generalize p * 2 ^ 47 * (EE : Int) = u
    omega
theorem App.cast {x : UInt64} {D A n D' A' n' : Int} (h : App x D A n) (e1 : D = D') (e2 : A = A') (e3 : n = n') : App x D' A' n' := by
  subst e1; subst e2; subst e3; exact h
theorem p18 : (0 : Int) < 2 ^ 1018 := by decide +kernel
theorem p20 : (0 : Int) < 2 ^ 1020 := by decide +kernel
theorem p74 : (0 : Int) < 2 ^ 1074 := by decide +kernel
theorem l18 : (2 ^ 1018 : Int) * 2 ^ 56 = (2 ^ 1074 : Nat) := by decide +kernel
theorem l20 : (2 ^ 1020 : Int) * 2 ^ 54 = (2 ^ 1074 : Nat) := by decide +kernel
theorem l74 : (2 ^ 1074 : Int) * 1 = (2 ^ 1074 : Nat) := by decide +kernel
theorem a_r {p : Int} (h : 0 ≤ p ∧ p ≤ 15) : App (Float64.mul 4599075939470750515 (divI p 16)) (2 ^ 56) (3042361440547750451002097008640 * p) 93674872249306316 :=
  ((app_part h).mul 0 (by decide) f1 p18 l18 (by decide) (by decide) (by omega) (by omega)).1.cast (by decide) (by omega) (by decide)
theorem a_g {p : Int} (h : 0 ≤ p ∧ p ≤ 15) : App (Float64.mul 4603489467105573601 (divI p 16)) (2 ^ 56) (5983310833077242459812465213440 * p) 114571574520305416 :=
  ((app_part h).mul 0 (by decide) f2 p18 l18 (by decide) (by decide) (by omega) (by omega)).1.cast (by decide) (by omega) (by decide)
theorem a_b {p : Int} (h : 0 ≤ p ∧ p ≤ 15) : App (Float64.mul 4592590756007337001 (divI p 16)) (2 ^ 56) (1115532528200841878946598354944 * p) 79983929382100009 :=
  ((app_part h).mul 0 (by decide) f3 p18 l18 (by decide) (by decide) (by omega) (by omega)).1.cast (by decide) (by omega) (by decide)
theorem a_y {p q r : Int} (hp : 0 ≤ p ∧ p ≤ 15) (hq : 0 ≤ q ∧ q ≤ 15) (hr : 0 ≤ r ∧ r ≤ 15) : App (yF (divI p 16) (divI q 16) (divI r 16)) (2 ^ 56) (3042361440547750451002097008640 * p + 5983310833077242459812465213440 * q + 1115532528200841878946598354944 * r) 432345564227567613 :=
  (((a_r hp).add (a_g hq) (by decide) (by omega) (by omega)).add (a_b hr) (by decide) (by omega) (by omega)).cast rfl rfl (by decide)
theorem a_d {x : Int} {y : UInt64} {Y : Int} (hx : 0 ≤ x ∧ x ≤ 15) (h : App y (2 ^ 56) Y 432345564227567613) (h1 : 0 ≤ Y) (h2 : Y ≤ 162259276829213363391578010288128) : App (Float64.sub (divI x 16) y) (2 ^ 56) (10141204801825835211973625643008 * x - Y) 576460752303423485 :=
  ((((app_part hx).scale (2 ^ 56) (by decide)).cast (D' := 2 ^ 56) (A' := 10141204801825835211973625643008 * x) (n' := 2 ^ 56) (by decide) (by omega) (by decide)).sub h (by decide) (by omega) (by omega)).cast rfl rfl (by decide)
theorem a_4 {w : UInt64} {A : Int} (h : App w (2 ^ 56) A 576460752303423485) (h1 : -162259276829213363391578010288128 ≤ A) (h2 : A ≤ 162259276829213363391578010288128) : App (Float64.mul 4604840546993784750 w) (2 ^ 110) (13330654897016668 * A) 8982673565265251665132073589953004 :=
  (h.mul 0 (by decide) f4 p20 l20 (by decide) (by decide) (by omega) (by omega)).1.cast (by decide) rfl (by decide)
theorem a_5 {w : UInt64} {A : Int} (h : App w (2 ^ 56) A 576460752303423485) (h1 : -162259276829213363391578010288128 ≤ A) (h2 : A ≤ 162259276829213363391578010288128) : App (Float64.mul 4598535507515466056 w) (2 ^ 110) (4863887597560136 * A) 4101914518242513996414870044498984 :=
  (h.mul 0 (by decide) f5 p20 l20 (by decide) (by decide) (by omega) (by omega)).1.cast (by decide) rfl (by decide)
theorem a_6 {w : UInt64} {A : Int} (h : App w (2 ^ 56) A 576460752303423485) (h1 : -162259276829213363391578010288128 ≤ A) (h2 : A ≤ 162259276829213363391578010288128) : App (Float64.mul 4602318531202457272 w) (2 ^ 110) (8646911284551352 * A) 6282679198827141220113725967606744 :=
  (h.mul 0 (by decide) f6 p20 l20 (by decide) (by decide) (by omega) (by omega)).1.cast (by decide) rfl (by decide)
theorem a_7 {w : UInt64} {A : Int} (h : App w (2 ^ 56) A 576460752303423485) (h1 : -162259276829213363391578010288128 ≤ A) (h2 : A ≤ 162259276829213363391578010288128) : App (Float64.mul 4601057523306793533 w) (2 ^ 110) (7385903388887613 * A) 5555757638632265286727189892096329 :=
  (h.mul 0 (by decide) f7 p20 l20 (by decide) (by decide) (by omega) (by omega)).1.cast (by decide) rfl (by decide)
theorem a_last {w : UInt64} {A n K : Int} (h : App w (2 ^ 110) A n) (h0 : 0 ≤ n) (h3 : n ≤ 2787593149816327892691964784081045188247552) (h1 : -11692013098647223345629478661730264157247460343808 ≤ A) (h2 : A ≤ 11692013098647223345629478661730264157247460343808) (h4 : -730750818665451459101842416358141509827966271488 ≤ 160000 * A - 2923003274661805836407369665432566039311865085952 * K) (h5 : 160000 * A - 2923003274661805836407369665432566039311865085952 * K ≤ 730750818665451459101842416358141509827966271488) : RoundIs (Float64.mul w (Float64.ofInt 160000)) K :=
  (h.mul 18 (by decide) f160000 p74 l74 (by decide) (by decide) (by omega) (by omega)).2.round (by decide) (by omega) (by omega)
theorem yiq_ok {p q r : Int} {h s v : UInt64} (e : YiqIs (divI p 16) (divI q 16) (divI r 16) h s v) (hp : 0 ≤ p ∧ p ≤ 15) (hq : 0 ≤ q ∧ q ≤ 15) (hr : 0 ≤ r ∧ r ≤ 15) : YiqOk p q r h s v := by
  obtain ⟨c1, c2, c3⟩ := e
  have hy := a_y hp hq hr
  have d1 := a_d hp hy (by omega) (by omega)
  have d2 := a_d hr hy (by omega) (by omega)
  refine ⟨?_, ?_, ?_⟩
  · rw [← c1]
    exact (hy.mul 18 (by decide) f1600 p74 l74 (by decide) (by decide) (by omega) (by omega)).2.round (by decide) (by omega) (by omega)
  · rw [← c2]
    exact a_last ((a_4 d1 (by omega) (by omega)).sub (a_5 d2 (by omega) (by omega)) (by decide) (by omega) (by omega)) (by decide) (by decide) (by omega) (by omega) (by omega) (by omega)
  · rw [← c3]
    exact a_last ((a_6 d1 (by omega) (by omega)).add (a_7 d2 (by omega) (by omega)) (by decide) (by omega) (by omega)) (by decide) (by decide) (by omega) (by omega) (by omega) (by omega)
end Mine
namespace Mine
theorem hz_hsv {p q r : Int} (hp : 0 ≤ p ∧ p ≤ 15) (hq : 0 ≤ q ∧ q ≤ 15) (hr : 0 ≤ r ∧ r ≤ 15) : (Float64.cmp (min3 (divI p 16) (divI q 16) (divI r 16)) (max3 (divI p 16) (divI q 16) (divI r 16)) == some Ordering.eq) = false → ¬ Float64.isZero (max3 (divI p 16) (divI q 16) (divI r 16)) = true ∧ ¬ Float64.isZero (Float64.sub (max3 (divI p 16) (divI q 16) (divI r 16)) (min3 (divI p 16) (divI q 16) (divI r 16))) = true := by
  obtain ⟨M, h1, h2⟩ := mx_ex p q r
  obtain ⟨m, h3, h4⟩ := mn_ex p q r
  rw [max3_is hp hq hr h1 h2, min3_is hp hq hr h3 h4, (pair1 (pair_bd hp hq hr h1 h2 h3 h4)).1]
  intro h
  have hne : m ≠ M := by simpa using h
  have := pair2 (pair_lt (pair_bd hp hq hr h1 h2 h3 h4) hne)
  exact ⟨this.1.1, this.1.2.1⟩
theorem hz_hls {p q r : Int} (hp : 0 ≤ p ∧ p ≤ 15) (hq : 0 ≤ q ∧ q ≤ 15) (hr : 0 ≤ r ∧ r ≤ 15) : (Float64.cmp (min3 (divI p 16) (divI q 16) (divI r 16)) (max3 (divI p 16) (divI q 16) (divI r 16)) == some Ordering.eq) = false → ¬ Float64.isZero (Float64.add (max3 (divI p 16) (divI q 16) (divI r 16)) (min3 (divI p 16) (divI q 16) (divI r 16))) = true ∧ ¬ Float64.isZero (Float64.sub (max3 (divI p 16) (divI q 16) (divI r 16)) (min3 (divI p 16) (divI q 16) (divI r 16))) = true ∧ ¬ Float64.isZero (Float64.sub (Float64.sub 4611686018427387904 (max3 (divI p 16) (divI q 16) (divI r 16))) (min3 (divI p 16) (divI q 16) (divI r 16))) = true := by
  obtain ⟨M, h1, h2⟩ := mx_ex p q r
  obtain ⟨m, h3, h4⟩ := mn_ex p q r
  rw [max3_is hp hq hr h1 h2, min3_is hp hq hr h3 h4, (pair1 (pair_bd hp hq hr h1 h2 h3 h4)).1]
  intro h
  have hne : m ≠ M := by simpa using h
  have := pair2 (pair_lt (pair_bd hp hq hr h1 h2 h3 h4) hne)
  exact ⟨this.1.2.2.1, this.1.2.1, this.1.2.2.2⟩
theorem cmp00 : (Float64.cmp 0 0 == some Ordering.eq) = true := by decide +kernel
theorem hsv_ok {p q r : Int} {h s v : UInt64} (e : HsvIs (divI p 16) (divI q 16) (divI r 16) h s v) (hp : 0 ≤ p ∧ p ≤ 15) (hq : 0 ≤ q ∧ q ≤ 15) (hr : 0 ≤ r ∧ r ≤ 15) : HsvOk p q r h s v := by
  have e := e.eq
  refine ⟨?_, ?_, ?_, ?_⟩
  · intro M h1 h2
    obtain ⟨m, h3, h4⟩ := mn_ex p q r
    unfold hsvF at e
    rw [max3_is hp hq hr h1 h2] at e
    split at e
    · cases e; exact (pair1 (pair_bd hp hq hr h1 h2 h3 h4)).2.1
    · cases e; exact (pair1 (pair_bd hp hq hr h1 h2 h3 h4)).2.1
  · intro M m hz h1 h2 h3 h4
    unfold hsvF at e
    rw [max3_is hp hq hr h1 h2, min3_is hp hq hr h3 h4, (pair1 (pair_bd hp hq hr h1 h2 h3 h4)).1, if_pos (decide_eq_true (eq_of_sub hz))] at e
    cases e; exact cmp00
  · intro M m hz h1 h2 h3 h4
    unfold hsvF at e
    rw [max3_is hp hq hr h1 h2, min3_is hp hq hr h3 h4, (pair1 (pair_bd hp hq hr h1 h2 h3 h4)).1, if_pos (decide_eq_true (eq_of_sub hz))] at e
    cases e; exact cmp00
  · intro M m h1 h2 h3 h4 hz
    unfold hsvF at e
    rw [max3_is hp hq hr h1 h2, min3_is hp hq hr h3 h4, (pair1 (pair_bd hp hq hr h1 h2 h3 h4)).1, if_neg (by rw [decide_eq_true_iff]; exact ne_of_sub hz)] at e
    cases e; exact (pair2 (pair_lt (pair_bd hp hq hr h1 h2 h3 h4) (ne_of_sub hz))).2
theorem hls_ok {p q r : Int} {h s v : UInt64} (e : HlsIs (divI p 16) (divI q 16) (divI r 16) h s v) (hp : 0 ≤ p ∧ p ≤ 15) (hq : 0 ≤ q ∧ q ≤ 15) (hr : 0 ≤ r ∧ r ≤ 15) : HlsOk p q r h s v := by
  have e := e.eq
  refine ⟨?_, ?_, ?_⟩
  · intro M m h1 h2 h3 h4
    unfold hlsF lF at e
    rw [max3_is hp hq hr h1 h2, min3_is hp hq hr h3 h4] at e
    split at e
    · cases e; exact (pair1 (pair_bd hp hq hr h1 h2 h3 h4)).2.2
    · cases e; exact (pair1 (pair_bd hp hq hr h1 h2 h3 h4)).2.2
  · intro M m hz h1 h2 h3 h4
    unfold hlsF at e
    rw [max3_is hp hq hr h1 h2, min3_is hp hq hr h3 h4, (pair1 (pair_bd hp hq hr h1 h2 h3 h4)).1, if_pos (decide_eq_true (eq_of_sub hz))] at e
    cases e; exact cmp00
  · intro M m h1 h2 h3 h4 hz
    unfold hlsF lowF lF at e
    rw [max3_is hp hq hr h1 h2, min3_is hp hq hr h3 h4, (pair1 (pair_bd hp hq hr h1 h2 h3 h4)).1, if_neg (by rw [decide_eq_true_iff]; exact ne_of_sub hz)] at e
    cases e; exact pair3 (pair_lt (pair_bd hp hq hr h1 h2 h3 h4) (ne_of_sub hz))
theorem cmp_self {x y : UInt64} {o : Ordering} (h : (Float64.cmp y x == some o) = true) : (Float64.cmp x x == some Ordering.eq) = true := by
  have h := beq_iff_eq.mp h
  unfold Float64.cmp at h ⊢
  cases e : Float64.decode x with
  | nan => rw [e] at h; cases e' : Float64.decode y <;> rw [e'] at h <;> simp at h
  | inf s => cases s <;> simp [Float64.sgn] <;> decide
  | fin s m e => simp [Float64.align]
theorem second_ok {p q r : Int} {h s v h' l s' : UInt64} (e : HsvIs (divI p 16) (divI q 16) (divI r 16) h s v) (e' : HlsIs (divI p 16) (divI q 16) (divI r 16) h' l s') (hp : 0 ≤ p ∧ p ≤ 15) (hq : 0 ≤ q ∧ q ≤ 15) (hr : 0 ≤ r ∧ r ≤ 15) : (Float64.cmp h' h == some Ordering.eq) = true := by
  have e1 := e.eq
  have e2 := e'.eq
  obtain ⟨M, h1, h2⟩ := mx_ex p q r
  obtain ⟨m, h3, h4⟩ := mn_ex p q r
  have hm3 := max3_is hp hq hr h1 h2
  have hn3 := min3_is hp hq hr h3 h4
  have hc := (pair1 (pair_bd hp hq hr h1 h2 h3 h4)).1
  unfold hsvF at e1
  unfold hlsF at e2
  rw [hm3, hn3, hc] at e1 e2
  by_cases hz : m = M
  · rw [if_pos (by simpa using hz)] at e1 e2
    cases e1; cases e2; exact cmp00
  · rw [if_neg (by simpa using hz)] at e1 e2
    have hu := hue_ok (M := M) (m := m) (fun h => hz (eq_of_sub h)) e hp hq hr h1 h2 h3 h4
    cases e1; cases e2
    rcases Bool.or_eq_true_iff.mp hu.lo with k | k
    · exact cmp_self k
    · exact cmp_self k
end Mine
namespace Mine
theorem half_nat {v : Int} (h : 0 ≤ v) : (v.fdiv 2).toNat = v.toNat / 2 := by
  rw [Int.fdiv_eq_ediv_of_nonneg _ (by decide)]
  omega
theorem odd_nat {v : Int} (h : 0 ≤ v) (o : v.fmod 2 = 1) : v.toNat % 2 = 1 := by
  rw [Int.fmod_eq_emod_of_nonneg _ (by decide)] at o
  omega
theorem even_nat {v : Int} (h : 0 ≤ v) (o : v.fmod 2 ≠ 1) : ¬ v.toNat % 2 = 1 := by
  rw [Int.fmod_eq_emod_of_nonneg _ (by decide)] at o
  omega
theorem half_pos {v : Int} (h : 0 ≤ v) : 0 ≤ v.fdiv 2 := by
  rw [Int.fdiv_eq_ediv_of_nonneg _ (by decide)]
  omega
theorem lit_e : (Str.ofString "").cps.toList = [] := by decide +kernel
theorem lit_r : (Str.ofString "r").cps.toList = [114] := by decide +kernel
theorem lit_g : (Str.ofString "g").cps.toList = [103] := by decide +kernel
theorem lit_b : (Str.ofString "b").cps.toList = [98] := by decide +kernel
theorem lit_k : (Str.ofString "k").cps.toList = [107] := by decide +kernel
section
variable {v0 v1 v2 : Int} (b0 : 0 ≤ v0) (b1 : 0 ≤ v1) (b2 : 0 ≤ v2)
include b0 in
theorem due_t1 (o : v0.fmod 2 = 1) : (Str.ofString "" ++ (Str.ofString "r" ++ Txt.mul (Str.ofString "\"") (v0.fdiv 2))).cps.toList = toldL v0.toNat v1.toNat v2.toNat := by
  simp only [app_toList, mul_is (half_pos b0), lit_e, lit_r, half_nat b0, toldL, if_pos (odd_nat b0 o)]
  simp
include b0 b1 in
theorem due_t2 (e : v0.fmod 2 ≠ 1) (o : v1.fmod 2 = 1) : (Str.ofString "" ++ (Str.ofString "r" ++ Txt.mul (Str.ofString "\"") (v0.fdiv 2)) ++ (Str.ofString "g" ++ Txt.mul (Str.ofString "\"") (v1.fdiv 2))).cps.toList = toldL v0.toNat v1.toNat v2.toNat := by
  simp only [app_toList, mul_is (half_pos b0), mul_is (half_pos b1), lit_e, lit_r, lit_g, half_nat b0, half_nat b1, toldL, if_neg (even_nat b0 e), if_pos (odd_nat b1 o)]
  simp
include b0 b1 b2 in
theorem due_t3 (e : v0.fmod 2 ≠ 1) (e' : v1.fmod 2 ≠ 1) (o : v2.fmod 2 = 1) : (Str.ofString "" ++ (Str.ofString "r" ++ Txt.mul (Str.ofString "\"") (v0.fdiv 2)) ++ (Str.ofString "g" ++ Txt.mul (Str.ofString "\"") (v1.fdiv 2)) ++ (Str.ofString "b" ++ Txt.mul (Str.ofString "\"") (v2.fdiv 2))).cps.toList = toldL v0.toNat v1.toNat v2.toNat := by
  simp only [app_toList, mul_is (half_pos b0), mul_is (half_pos b1), mul_is (half_pos b2), lit_e, lit_r, lit_g, lit_b, half_nat b0, half_nat b1, half_nat b2, toldL, if_neg (even_nat b0 e), if_neg (even_nat b1 e'), if_pos (odd_nat b2 o)]
  simp
include b0 b1 b2 in
theorem due_t4 (e : v0.fmod 2 ≠ 1) (e' : v1.fmod 2 ≠ 1) (o : v2.fmod 2 ≠ 1) : (Str.ofString "" ++ (Str.ofString "r" ++ Txt.mul (Str.ofString "\"") (v0.fdiv 2)) ++ (Str.ofString "g" ++ Txt.mul (Str.ofString "\"") (v1.fdiv 2)) ++ (Str.ofString "b" ++ Txt.mul (Str.ofString "\"") (v2.fdiv 2)) ++ Str.ofString "k").cps.toList = toldL v0.toNat v1.toNat v2.toNat := by
  simp only [app_toList, mul_is (half_pos b0), mul_is (half_pos b1), mul_is (half_pos b2), lit_e, lit_r, lit_g, lit_b, lit_k, half_nat b0, half_nat b1, half_nat b2, toldL, if_neg (even_nat b0 e), if_neg (even_nat b1 e'), if_neg (even_nat b2 o)]
  simp
end
def halfs (v0 v1 v2 : Int) : Int × Int × Int := if v0.fmod 2 = 1 then (v0.fdiv 2, 0, 0) else if v1.fmod 2 = 1 then (v0.fdiv 2, v1.fdiv 2, 0) else (v0.fdiv 2, v1.fdiv 2, v2.fdiv 2)
def nextF (v0 v1 : Int) (f1 f2 n : Nat) : Nat × Nat := if v0.fmod 2 = 1 then (n, n) else if v1.fmod 2 = 1 then (f1, n) else (f1, f2)
structure DueIs (v0 v1 v2 : Int) (f1 f2 n : Nat) (y : Str) (p0 p1 p2 : Int) (g1 g2 : Nat) : Prop where
  txt : y.cps.toList = toldL v0.toNat v1.toNat v2.toNat
  hs : halfs v0 v1 v2 = (p0, p1, p2)
  fs : nextF v0 v1 f1 f2 n = (g1, g2)
theorem held_base {held rest : List (Addr × Obj)} {h : Heap} (hH : ∀ q ∈ held, h.get? q.1 = some q.2) : HeldIn held rest h := fun q hq => Or.inr (hH q hq)
theorem half_in {v : Int} (h : 0 ≤ v ∧ v ≤ 40) : 0 ≤ v.fdiv 2 ∧ v.fdiv 2 ≤ 20 := by
  rw [Int.fdiv_eq_ediv_of_nonneg _ (by decide)]
  omega







theorem c_due {w mean mg mb} (pl fl : Addr) (ps : List PObj) (nn fn : Nat) (f0 f1 f2 : Nat) (s0 s1 s2 : Tok) (v0 v1 v2 : Int) (hv0 : levelI ps 0 f0 = v0) (hv1 : levelI ps 1 f1 = v1) (hv2 : levelI ps 2 f2 = v2)
    (b0 : 0 ≤ v0 ∧ v0 ≤ 40) (b1 : 0 ≤ v1 ∧ v1 ≤ 40) (b2 : 0 ≤ v2 ∧ v2 ≤ 40) (hf0 : f0 ≤ ps.length) (hf1 : f1 ≤ ps.length) (hf2 : f2 ≤ ps.length) (hl : 1 ≤ ps.length ∧ ps.length ≤ 10) (hb : ∀ o ∈ ps, (0 ≤ o.p ∧ o.p ≤ 16) ∧ (0 ≤ o.q ∧ o.q ≤ 16) ∧ (0 ≤ o.r ∧ o.r ≤ 16)) :
    Ct w mean mg mb 116 2 60 [.ref pl, .ref fl] [(fl, list3 f0 f1 f2 s0 s1 s2 fn)] (HeldIn ((pl, paintsObj ps nn) :: ps.map PObj.ent))
      (fun v new => ∃ D lp y ty p0 p1 p2 u0 u1 u2 un g1 g2 w1 w2, DueIs v0 v1 v2 f1 f2 ps.length y p0 p1 p2 g1 g2 ∧ lp ≠ fl ∧ v = .ref D ∧
        new = [(D, { cls := .type "tuple", data := .seq #[.str y ty, .ref lp] }), (lp, list3 p0 p1 p2 u0 u1 u2 un), (fl, list3 f0 g1 g2 s0 w1 w2 fn)]) := by
  have d0 := half_in b0
  have d1 := half_in b1
  have d2 := half_in b2
  have l6 : (Str.ofString "").length ≤ 0 := by decide +kernel
  have l7 : (Str.ofString "\"").length ≤ 1 := by decide +kernel
  have l5 : (Str.ofString "k").length ≤ 1 := by decide +kernel
  w_top off
  unfold Ct
  k_fill
  intro dp un gd cn cs a ccd cl outer A₀ base h₀ L m s Q E news rest B F X N T hk hsub hrest hpre hdp hun hret
  refine wpAny_call ?_
  k_dflt (refine' callS _ _ hsub hrest ?k1 ?k2 ?k3 ?k4 ?k5 ?kA ?kF ?kK ?k6 ?k7 ?k8 ?k9 ?kB ?_ ?c2 ?c3 ?c4 ?c5; (case kA => exact rfl); (case kF => exact rfl); (case kK => assumption); (case k1 => k_asm); (case k2 => k_asm); (case k3 => k_asm); (case k4 => k_asm); (case k5 => k_asm); (case k6 => k_is); (case k7 => k_is); (case k8 => ktr_room); (case k9 => exact BindsTo.of_eq rfl); (case c5 => decide); (case kB => exact locs rfl); (case c2 => exact rfl); (case c3 => exact rfl); (case c4 => exact rfl); k_whole; intro g' L' h' FG' F' N' B' X' T' hg; (try dsimp only); (try k_lift B'); (try k_fold))
  clear hrest N
  have hH : ∀ q ∈ (pl, paintsObj ps nn) :: ps.map PObj.ent, g'.get? q.1 = some q.2 := fun q hq => (hpre q hq).elim (hg q) (FG'.keep _ _)
  have hL : g'.IsList pl (ps.map fun o => Value.ref o.a).toArray := ⟨_, hH _ (List.mem_cons_self ..), rfl, nn, rfl⟩
  repeat' (first | (k_unfold; (try dsimp only)) | (k_end; wrow_close) | (k_here; (with_reducible show wpAny _ _ (call (Value.ref 109) _) _ _ _); k_dflt (refine' Ct.use (c_level _ _ _ _ _ _ _ _ ?p1 ?p2 ?p3 ?p4 ?p5) ?k1 ?k2 ?k3 ?k4 ?k5 ?kK nil_sub all_rest ?kp ?kd ?ku ?_; (case k1 => k_asm); (case k2 => k_asm); (case k3 => k_asm); (case k4 => k_asm); (case k5 => k_asm); (case kK => first | exact rfl | assumption); (case kd => ktr_room); (case ku => ktr_units); (case kp => exact held_base (by assumption)); (case p1 => assumption); (case p2 => decide); (case p3 => assumption); (case p4 => assumption); (case p5 => assumption)); intro v9 new9 h9 tk9 F9 N9 ap9 po9; obtain ⟨t91, ev9, en9⟩ := po9; subst ev9; subst en9; (simp only [List.cons_append, List.nil_append] at N9)) | ((with_reducible show wpAny _ _ (call (Value.builtin "len") _) _ _ _); (k_here; k_dflt (refine' len_refs ?k1 ?k2 ?k3 ?_; (case k1 => k_asm); (case k2 => assumption); (case k3 => omega)))) | ((with_reducible show wpAny _ _ (binaryOp .Mult (Value.str _ _) (Value.int _ _)) _ _ _); (refine mul_ub (by with_reducible assumption) (by first | with_reducible assumption | exact sum_ub (by with_reducible assumption) (by with_reducible assumption) (by with_reducible assumption)) (by decide) ?_; intro _ _ _)) | ((with_reducible show wpAny _ _ (inplaceOp .Add (Value.str _ _) (Value.str _ _)) _ _ _); (refine iadd_ub (by first | with_reducible assumption | exact item_le _ _ | assumption) (by first | with_reducible assumption | exact item_le _ _ | assumption) (by decide) ?_; intro _ _ _)) | ((with_reducible show wpAny _ _ (binaryOp .Add (Value.str _ _) (Value.str _ _)) _ _ _); (refine add_ub (by first | with_reducible assumption | exact item_le _ _ | assumption) (by first | with_reducible assumption | exact item_le _ _ | assumption) (by decide) ?_; intro _ _ _)) | (k_here; (with_reducible show wpAny _ _ (subscriptTail _ _ (Value.ref _) (Value.int _ _)) _ _ _); (with_unfolding_all refine' item_litK ?k1 ?k2 ?k3 ?k4 ?_ ?k6; (case k1 => is_list); (case k2 => decide); (case k3 => decide); (case k4 => rfl); (case k6 => with_unfolding_all rfl); k_whole)) | walk1 | (dsimp only; first | (k_here; (with_reducible show wpAny _ _ (call (Value.ref 109) _) _ _ _); k_dflt (refine' Ct.use (c_level _ _ _ _ _ _ _ _ ?p1 ?p2 ?p3 ?p4 ?p5) ?k1 ?k2 ?k3 ?k4 ?k5 ?kK nil_sub all_rest ?kp ?kd ?ku ?_; (case k1 => k_asm); (case k2 => k_asm); (case k3 => k_asm); (case k4 => k_asm); (case k5 => k_asm); (case kK => first | exact rfl | assumption); (case kd => ktr_room); (case ku => ktr_units); (case kp => exact held_base (by assumption)); (case p1 => assumption); (case p2 => decide); (case p3 => assumption); (case p4 => assumption); (case p5 => assumption)); intro v9 new9 h9 tk9 F9 N9 ap9 po9; obtain ⟨t91, ev9, en9⟩ := po9; subst ev9; subst en9; (simp only [List.cons_append, List.nil_append] at N9)) | ((with_reducible show wpAny _ _ (call (Value.builtin "len") _) _ _ _); (k_here; k_dflt (refine' len_refs ?k1 ?k2 ?k3 ?_; (case k1 => k_asm); (case k2 => assumption); (case k3 => omega)))) | ((with_reducible show wpAny _ _ (binaryOp .Mult (Value.str _ _) (Value.int _ _)) _ _ _); (refine mul_ub (by with_reducible assumption) (by first | with_reducible assumption | exact sum_ub (by with_reducible assumption) (by with_reducible assumption) (by with_reducible assumption)) (by decide) ?_; intro _ _ _)) | ((with_reducible show wpAny _ _ (inplaceOp .Add (Value.str _ _) (Value.str _ _)) _ _ _); (refine iadd_ub (by first | with_reducible assumption | exact item_le _ _ | assumption) (by first | with_reducible assumption | exact item_le _ _ | assumption) (by decide) ?_; intro _ _ _)) | ((with_reducible show wpAny _ _ (binaryOp .Add (Value.str _ _) (Value.str _ _)) _ _ _); (refine add_ub (by first | with_reducible assumption | exact item_le _ _ | assumption) (by first | with_reducible assumption | exact item_le _ _ | assumption) (by decide) ?_; intro _ _ _)) | (k_here; (with_reducible show wpAny _ _ (subscriptTail _ _ (Value.ref _) (Value.int _ _)) _ _ _); (with_unfolding_all refine' item_litK ?k1 ?k2 ?k3 ?k4 ?_ ?k6; (case k1 => is_list); (case k2 => decide); (case k3 => decide); (case k4 => rfl); (case k6 => with_unfolding_all rfl); k_whole)) | walk1) | (leave1; try dsimp only) | fail "no step")
  all_goals (
    (rename News _ _ _ _ => hR); (revert hR); (rename News _ _ _ _ => kN); (rename Fr _ _ _ _ => kF); (revert kN); (rename News _ _ _ _ => nN); (intro kN hR)
    refine' ct_ret hret kF kN hR nN hg ?sub ⟨_, _, _, _, _, _, _, _, _, _, _, _, _, _, _, ⟨?txt, ?hs, ?fs⟩, ?ne, rfl, rfl⟩
    (case sub => exact SubL.mem (by k_subL))
    (case ne => k_ne)
    (case txt => first
      | (have o : v0.fmod 2 = 1 := by assumption
         exact due_t1 b0.1 o)
      | (have e : v0.fmod 2 ≠ 1 := by assumption
         have o : v1.fmod 2 = 1 := by assumption
         exact due_t2 b0.1 b1.1 e o)
      | (have e : v0.fmod 2 ≠ 1 := by assumption
         have e' : v1.fmod 2 ≠ 1 := by assumption
         have o : v2.fmod 2 = 1 := by assumption
         exact due_t3 b0.1 b1.1 b2.1 e e' o)
      | (have e : v0.fmod 2 ≠ 1 := by assumption
         have e' : v1.fmod 2 ≠ 1 := by assumption
         have o : v2.fmod 2 ≠ 1 := by assumption
         exact due_t4 b0.1 b1.1 b2.1 e e' o))
    (case hs => (unfold halfs; (repeat first | rw [if_pos (by assumption)] | rw [if_neg (by assumption)])))
    (case fs => (unfold nextF; (repeat first | rw [if_pos (by assumption)] | rw [if_neg (by assumption)]))))
end Mine
namespace Mine
section
variable {prog : Program} {w : World} {A : Around} {E : Value → Shared → Prop} {s : Shared} {Q : Value → Shared → Prop}
theorem ne_ff {a b : UInt64} {t u : Tok} (h : (Float64.cmp a b == some Ordering.eq) = true) (hq : Q (.bool false) s) : wpAny (model prog w) A (compareOp .NotEq (.float a t) (.float b u)) Q E s := by
  refine AutoFloatOps.ne_0 ?_
  rw [show (Float64.cmp a b != some Ordering.eq) = false from by rw [bne, h]; rfl]
  exact hq
theorem eq_ff {a b : UInt64} {t u : Tok} (h : (Float64.cmp a b == some Ordering.eq) = true) (hq : Q (.bool true) s) : wpAny (model prog w) A (compareOp .Eq (.float a t) (.float b u)) Q E s := by
  refine AutoFloatOps.eq_0 ?_
  rw [h]
  exact hq
theorem le_ff {a b : UInt64} {t u : Tok} (h : (Float64.cmp a b == some Ordering.lt || Float64.cmp a b == some Ordering.eq) = true) (hq : Q (.bool true) s) : wpAny (model prog w) A (compareOp .LtE (.float a t) (.float b u)) Q E s := by
  refine AutoFloatOps.le_0 ?_
  rw [h]
  exact hq
theorem lt_ff {a b : UInt64} {t u : Tok} (h : (Float64.cmp a b == some Ordering.lt) = true) (hq : Q (.bool true) s) : wpAny (model prog w) A (compareOp .Lt (.float a t) (.float b u)) Q E s := by
  refine AutoFloatOps.lt_0 ?_
  rw [h]
  exact hq
theorem gt_ff {a b : UInt64} {t u : Tok} (h : (Float64.cmp a b == some Ordering.gt) = false) (hq : Q (.bool false) s) : wpAny (model prog w) A (compareOp .Gt (.float a t) (.float b u)) Q E s := by
  refine AutoFloatOps.gt_0 ?_
  rw [h]
  exact hq
theorem eq_split {a b : Int} {t u : Tok} (h1 : a = b → Q (.bool true) s) (h2 : a - b ≠ 0 → Q (.bool false) s) : wpAny (model prog w) A (compareOp .Eq (.int a t) (.int b u)) Q E s := by
  refine eq_int ?_
  by_cases h : a = b
  · rw [show (a == b) = true from by simpa using h]; exact h1 h
  · rw [show (a == b) = false from by simpa using h]; exact h2 (by omega)
theorem eq_zero {a : Int} {t u : Tok} (h1 : a = 0 → Q (.bool true) s) (h2 : a ≠ 0 → Q (.bool false) s) : wpAny (model prog w) A (compareOp .Eq (.int a t) (.int 0 u)) Q E s := eq_split h1 fun h => h2 (by omega)
theorem sub_fi_s {a : UInt64} {n : Int} {t u : Tok} (hn : n.natAbs ≤ 100000) (hq : Q (.float (Float64.sub a (Float64.ofInt n)) s.toks) { s with toks := s.toks + 1 }) : wpAny (model prog w) A (binaryOp .Sub (.float a t) (.int n u)) Q E s := by
  refine AutoFloatOps.sub_fi_1 (Flt.fin_of_fits ?_) hq
  unfold Flt.Over
  exact Nat.not_le.mpr (Nat.lt_of_le_of_lt hn (by decide +kernel))
theorem eq_list3 {a b : Addr} {p q r p' q' r' : Int} {t1 t2 t3 t4 t5 t6 : Tok} {n n' : Nat} (ha : s.heap.get? a = some (list3 p q r t1 t2 t3 n)) (hb : s.heap.get? b = some (list3 p' q' r' t4 t5 t6 n')) (hu : A.units + 64 < cLine) (e : p = p' ∧ q = q' ∧ r = r') (hq : Q (.bool true) s) :
    wpAny (model prog w) A (compareOp .Eq (.ref a) (.ref b)) Q E s := by
  refine ke_eq_ints (xs := [.int p t1, .int q t2, .int r t3]) (ys := [.int p' t4, .int q' t5, .int r' t6]) ⟨_, ha, rfl, n, rfl⟩ ⟨_, hb, rfl, n', rfl⟩ (.cons _ _ (.cons _ _ (.cons _ _ .nil))) (.cons _ _ (.cons _ _ (.cons _ _ .nil))) hu ?_
  rw [show (decide ([p, q, r] = [p', q', r'])) = true from by simp [e.1, e.2.1, e.2.2]]
  exact hq
theorem ne_ii {a b : Int} {t u : Tok} (h : a = b) (hq : Q (.bool false) s) : wpAny (model prog w) A (compareOp .NotEq (.int a t) (.int b u)) Q E s := by
  refine ne_int ?_
  subst h
  simpa using hq
theorem round_is {x : UInt64} {t : Tok} {n : Int} (hA : A.handled = none) (h : RoundIs x n) (hq : Q (.int n s.toks) { s with toks := s.toks + 1 }) : wpAny (model prog w) A (call (.builtin "round") [.float x t]) Q E s := by
  refine Flt.call_round_float hA (fun k => (fin_nan h.fin k).elim) (fun k => (fin_inf h.fin k).elim) (fun _ => ?_)
  rw [show Flt.toInt Float64.nearestOf x = n from h.eq]
  exact hq
end
theorem ite_F {P R : Prop} (h : P) : (if false = true then R else P) := by rw [if_neg Bool.false_ne_true]; exact h
theorem ite_T {P R : Prop} (h : R) : (if true = true then R else P) := by rw [if_pos rfl]; exact h


















theorem parts_same {a b c d p q r p' q' r' : Int} (h : PartsAre a b c d p' q' r') (h' : PartsAre a b c d p q r) : p' = p ∧ q' = q ∧ r' = r := by
  obtain ⟨a1, a2, a3⟩ := h
  obtain ⟨b1, b2, b3⟩ := h'
  exact ⟨a1.symm.trans b1, a2.symm.trans b2, a3.symm.trans b3⟩


theorem c_seen {w mean mg mb} (pa : Addr) (p q r : Int) (u1 u2 u3 : Tok) (nn : Nat) (hp : 0 ≤ p ∧ p ≤ 15) (hq : 0 ≤ q ∧ q ≤ 15) (hr : 0 ≤ r ∧ r ≤ 15) :
    Ct w mean mg mb 123 2 120 [.ref pa] [(pa, list3 p q r u1 u2 u3 nn)] (fun _ _ => True)
      (fun v new => v = .bool true ∧ new = [(pa, list3 p q r u1 u2 u3 nn)]) := by
  w_top off
  unfold Ct
  k_fill
  intro dp un gd cn cs a ccd cl outer A₀ base h₀ L m s Q E news rest B F X N T hk hsub hrest hpre hdp hun hret
  refine wpAny_call ?_
  k_dflt (refine' callS _ _ hsub hrest ?k1 ?k2 ?k3 ?k4 ?k5 ?kA ?kF ?kK ?k6 ?k7 ?k8 ?k9 ?kB ?_ ?c2 ?c3 ?c4 ?c5; (case kA => exact rfl); (case kF => exact rfl); (case kK => assumption); (case k1 => k_asm); (case k2 => k_asm); (case k3 => k_asm); (case k4 => k_asm); (case k5 => k_asm); (case k6 => k_is); (case k7 => k_is); (case k8 => ktr_room); (case k9 => exact BindsTo.of_eq rfl); (case c5 => decide); (case kB => exact locs rfl); (case c2 => exact rfl); (case c3 => exact rfl); (case c4 => exact rfl); k_whole; intro g' L' h' FG' F' N' B' X' T' hg; (try dsimp only); (try k_lift B'); (try k_fold))
  clear hrest N
  repeat' (first | (k_unfold; (try dsimp only)) | ((with_reducible show wpAny _ _ (compareOp .Eq (Value.ref _) (Value.ref _)) _ _ _); (k_here; k_dflt (refine' eq_list3 ?ka ?kb ?ku ?ke ?_; (case ka => exact News.get (by k_asm) (by k_mem)); (case kb => exact News.get (by k_asm) (by k_mem)); (case ku => ktr_units); (case ke => exact parts_same (by assumption) (by assumption))))) | (k_here; (with_reducible show wpAny _ _ (call (Value.ref 81) _) _ _ _); k_dflt (refine' Ct.use (c_parts _ _ _ _ _ _ _ _ ?p1 ?p2 ?p3 ?p4 ?p5 ?p6 ?p7 ?p8) ?k1 ?k2 ?k3 ?k4 ?k5 ?kK nil_sub all_rest trivial ?kd ?ku ?_; (case k1 => k_asm); (case k2 => k_asm); (case k3 => k_asm); (case k4 => k_asm); (case k5 => k_asm); (case kK => first | exact rfl | assumption); (case kd => ktr_room); (case ku => ktr_units); (case p1 => omega); (case p2 => omega); (case p3 => omega); (case p4 => omega); (case p5 => omega); (case p6 => omega); (case p7 => omega); (case p8 => omega)); intro v9 new9 h9 tk9 F9 N9 ap9 po9; obtain ⟨a9, p9, q9, r9, t91, t92, t93, n9, e9, b91, b92, b93, ev9, en9⟩ := po9; subst ev9; subst en9; (simp only [List.cons_append, List.nil_append] at N9)) | ((with_reducible show wpAny _ _ (call (Value.builtin "round") _) _ _ _); (refine' round_is rfl ?h ?_; (case h => first | assumption | exact YiqOk.ry (yiq_ok (by assumption) (by assumption) (by assumption) (by assumption)) | exact YiqOk.ri (yiq_ok (by assumption) (by assumption) (by assumption) (by assumption)) | exact YiqOk.rz (yiq_ok (by assumption) (by assumption) (by assumption) (by assumption))))) | ((with_reducible show wpAny _ _ (compareOp .NotEq (Value.int _ _) (Value.int _ _)) _ _ _); (refine ne_ii ?h ?_; (case h => omega))) | ((with_reducible show wpAny _ _ (binaryOp .Sub (Value.float _ _) (Value.int _ _)) _ _ _); (refine sub_fi_s ?h ?_; (case h => omega))) | ((with_reducible show wpAny _ _ (compareOp .Gt (Value.float _ _) (Value.float _ _)) _ _ _); (refine gt_ff ?h ?_; (case h => assumption))) | ((with_reducible show wpAny _ _ (compareOp .Lt (Value.float _ _) (Value.float _ _)) _ _ _); (refine lt_ff ?h ?_; (case h => assumption))) | ((with_reducible show wpAny _ _ (compareOp .LtE (Value.float _ _) (Value.float _ _)) _ _ _); (refine le_ff ?h ?_; (case h => assumption))) | ((with_reducible show wpAny _ _ (compareOp .Eq (Value.int _ _) (Value.int _ _)) _ _ _); (refine eq_zero ?h1 ?h2; (case' h1 => intro hz9); (case' h2 => (intro hne9; obtain ⟨lo9, hi9, rn9, bd9, fb9, nr9, pa9⟩ := hue_ok hne9 (by assumption) (by assumption) (by assumption) (by assumption) (by assumption) (by assumption) (by assumption) (by assumption))))) | ((with_reducible show wpAny _ _ (compareOp .Eq (Value.float _ _) (Value.float _ _)) _ _ _); (refine eq_ff ?h ?_; (case h => first | exact HsvOk.greyh (hsv_ok (by assumption) (by assumption) (by assumption) (by assumption)) (by assumption) (by assumption) (by assumption) (by assumption) (by assumption) | exact HsvOk.greys (hsv_ok (by assumption) (by assumption) (by assumption) (by assumption)) (by assumption) (by assumption) (by assumption) (by assumption) (by assumption) | exact HlsOk.greys (hls_ok (by assumption) (by assumption) (by assumption) (by assumption)) (by assumption) (by assumption) (by assumption) (by assumption) (by assumption)))) | ((with_reducible show wpAny _ _ (compareOp .NotEq (Value.float _ _) (Value.float _ _)) _ _ _); (refine ne_ff ?h ?_; (case h => first | exact HsvOk.val (hsv_ok (by assumption) (by assumption) (by assumption) (by assumption)) (by assumption) (by assumption) | exact HlsOk.light (hls_ok (by assumption) (by assumption) (by assumption) (by assumption)) (by assumption) (by assumption) (by assumption) (by assumption) | exact HsvOk.share (hsv_ok (by assumption) (by assumption) (by assumption) (by assumption)) (by assumption) (by assumption) (by assumption) (by assumption) (by assumption) | exact HlsOk.str (hls_ok (by assumption) (by assumption) (by assumption) (by assumption)) (by assumption) (by assumption) (by assumption) (by assumption) (by assumption) | exact second_ok (by assumption) (by assumption) (by assumption) (by assumption) (by assumption)))) | (k_here; (with_reducible show wpAny _ _ (call (Value.ref 53) _) _ _ _); k_dflt (refine' Ct.use (c_yiq _ _ _ _ _ _) ?k1 ?k2 ?k3 ?k4 ?k5 ?kK nil_sub all_rest trivial ?kd ?ku ?_; (case k1 => k_asm); (case k2 => k_asm); (case k3 => k_asm); (case k4 => k_asm); (case k5 => k_asm); (case kK => first | exact rfl | assumption); (case kd => ktr_room); (case ku => ktr_units)); intro v9 new9 h9 tk9 F9 N9 ap9 po9; obtain ⟨a9, p9, q9, r9, t91, t92, t93, e9, ev9, en9⟩ := po9; subst ev9; subst en9; (simp only [List.cons_append, List.nil_append] at N9)) | (k_here; (with_reducible show wpAny _ _ (call (Value.ref 60) _) _ _ _); k_dflt (refine' Ct.use (c_hls _ _ _ _ _ _ ?p1) ?k1 ?k2 ?k3 ?k4 ?k5 ?kK nil_sub all_rest trivial ?kd ?ku ?_; (case k1 => k_asm); (case k2 => k_asm); (case k3 => k_asm); (case k4 => k_asm); (case k5 => k_asm); (case kK => first | exact rfl | assumption); (case kd => ktr_room); (case ku => ktr_units); (case p1 => exact hz_hls (by assumption) (by assumption) (by assumption))); intro v9 new9 h9 tk9 F9 N9 ap9 po9; obtain ⟨a9, p9, q9, r9, t91, t92, t93, e9, ev9, en9⟩ := po9; subst ev9; subst en9; (simp only [List.cons_append, List.nil_append] at N9)) | (k_here; (with_reducible show wpAny _ _ (call (Value.ref 67) _) _ _ _); k_dflt (refine' Ct.use (c_hsv _ _ _ _ _ _ ?p1) ?k1 ?k2 ?k3 ?k4 ?k5 ?kK nil_sub all_rest trivial ?kd ?ku ?_; (case k1 => k_asm); (case k2 => k_asm); (case k3 => k_asm); (case k4 => k_asm); (case k5 => k_asm); (case kK => first | exact rfl | assumption); (case kd => ktr_room); (case ku => ktr_units); (case p1 => exact hz_hsv (by assumption) (by assumption) (by assumption))); intro v9 new9 h9 tk9 F9 N9 ap9 po9; obtain ⟨a9, p9, q9, r9, t91, t92, t93, e9, ev9, en9⟩ := po9; subst ev9; subst en9; (simp only [List.cons_append, List.nil_append] at N9)) | ((with_reducible show wpAny _ _ (binaryOp .Div (Value.int _ _) (Value.int _ _)) _ _ _); (refine div_ii_s ?ka ?kb ?_; (case ka => omega); (case kb => omega))) | (k_here; (with_reducible show wpAny _ _ (subscriptTail _ _ (Value.ref _) (Value.int _ _)) _ _ _); (with_unfolding_all refine' item_litK ?k1 ?k2 ?k3 ?k4 ?_ ?k6; (case k1 => is_list); (case k2 => decide); (case k3 => decide); (case k4 => rfl); (case k6 => with_unfolding_all rfl); k_whole)) | (k_here; (with_reducible refine gen_toks1 ?_); intro tk' htk') | (with_reducible refine ite_T ?_) | (with_reducible refine ite_F ?_) | walk1 | (dsimp only; first | ((with_reducible show wpAny _ _ (compareOp .Eq (Value.ref _) (Value.ref _)) _ _ _); (k_here; k_dflt (refine' eq_list3 ?ka ?kb ?ku ?ke ?_; (case ka => exact News.get (by k_asm) (by k_mem)); (case kb => exact News.get (by k_asm) (by k_mem)); (case ku => ktr_units); (case ke => exact parts_same (by assumption) (by assumption))))) | (k_here; (with_reducible show wpAny _ _ (call (Value.ref 81) _) _ _ _); k_dflt (refine' Ct.use (c_parts _ _ _ _ _ _ _ _ ?p1 ?p2 ?p3 ?p4 ?p5 ?p6 ?p7 ?p8) ?k1 ?k2 ?k3 ?k4 ?k5 ?kK nil_sub all_rest trivial ?kd ?ku ?_; (case k1 => k_asm); (case k2 => k_asm); (case k3 => k_asm); (case k4 => k_asm); (case k5 => k_asm); (case kK => first | exact rfl | assumption); (case kd => ktr_room); (case ku => ktr_units); (case p1 => omega); (case p2 => omega); (case p3 => omega); (case p4 => omega); (case p5 => omega); (case p6 => omega); (case p7 => omega); (case p8 => omega)); intro v9 new9 h9 tk9 F9 N9 ap9 po9; obtain ⟨a9, p9, q9, r9, t91, t92, t93, n9, e9, b91, b92, b93, ev9, en9⟩ := po9; subst ev9; subst en9; (simp only [List.cons_append, List.nil_append] at N9)) | ((with_reducible show wpAny _ _ (call (Value.builtin "round") _) _ _ _); (refine' round_is rfl ?h ?_; (case h => first | assumption | exact YiqOk.ry (yiq_ok (by assumption) (by assumption) (by assumption) (by assumption)) | exact YiqOk.ri (yiq_ok (by assumption) (by assumption) (by assumption) (by assumption)) | exact YiqOk.rz (yiq_ok (by assumption) (by assumption) (by assumption) (by assumption))))) | ((with_reducible show wpAny _ _ (compareOp .NotEq (Value.int _ _) (Value.int _ _)) _ _ _); (refine ne_ii ?h ?_; (case h => omega))) | ((with_reducible show wpAny _ _ (binaryOp .Sub (Value.float _ _) (Value.int _ _)) _ _ _); (refine sub_fi_s ?h ?_; (case h => omega))) | ((with_reducible show wpAny _ _ (compareOp .Gt (Value.float _ _) (Value.float _ _)) _ _ _); (refine gt_ff ?h ?_; (case h => assumption))) | ((with_reducible show wpAny _ _ (compareOp .Lt (Value.float _ _) (Value.float _ _)) _ _ _); (refine lt_ff ?h ?_; (case h => assumption))) | ((with_reducible show wpAny _ _ (compareOp .LtE (Value.float _ _) (Value.float _ _)) _ _ _); (refine le_ff ?h ?_; (case h => assumption))) | ((with_reducible show wpAny _ _ (compareOp .Eq (Value.int _ _) (Value.int _ _)) _ _ _); (refine eq_zero ?h1 ?h2; (case' h1 => intro hz9); (case' h2 => (intro hne9; obtain ⟨lo9, hi9, rn9, bd9, fb9, nr9, pa9⟩ := hue_ok hne9 (by assumption) (by assumption) (by assumption) (by assumption) (by assumption) (by assumption) (by assumption) (by assumption))))) | ((with_reducible show wpAny _ _ (compareOp .Eq (Value.float _ _) (Value.float _ _)) _ _ _); (refine eq_ff ?h ?_; (case h => first | exact HsvOk.greyh (hsv_ok (by assumption) (by assumption) (by assumption) (by assumption)) (by assumption) (by assumption) (by assumption) (by assumption) (by assumption) | exact HsvOk.greys (hsv_ok (by assumption) (by assumption) (by assumption) (by assumption)) (by assumption) (by assumption) (by assumption) (by assumption) (by assumption) | exact HlsOk.greys (hls_ok (by assumption) (by assumption) (by assumption) (by assumption)) (by assumption) (by assumption) (by assumption) (by assumption) (by assumption)))) | ((with_reducible show wpAny _ _ (compareOp .NotEq (Value.float _ _) (Value.float _ _)) _ _ _); (refine ne_ff ?h ?_; (case h => first | exact HsvOk.val (hsv_ok (by assumption) (by assumption) (by assumption) (by assumption)) (by assumption) (by assumption) | exact HlsOk.light (hls_ok (by assumption) (by assumption) (by assumption) (by assumption)) (by assumption) (by assumption) (by assumption) (by assumption) | exact HsvOk.share (hsv_ok (by assumption) (by assumption) (by assumption) (by assumption)) (by assumption) (by assumption) (by assumption) (by assumption) (by assumption) | exact HlsOk.str (hls_ok (by assumption) (by assumption) (by assumption) (by assumption)) (by assumption) (by assumption) (by assumption) (by assumption) (by assumption) | exact second_ok (by assumption) (by assumption) (by assumption) (by assumption) (by assumption)))) | (k_here; (with_reducible show wpAny _ _ (call (Value.ref 53) _) _ _ _); k_dflt (refine' Ct.use (c_yiq _ _ _ _ _ _) ?k1 ?k2 ?k3 ?k4 ?k5 ?kK nil_sub all_rest trivial ?kd ?ku ?_; (case k1 => k_asm); (case k2 => k_asm); (case k3 => k_asm); (case k4 => k_asm); (case k5 => k_asm); (case kK => first | exact rfl | assumption); (case kd => ktr_room); (case ku => ktr_units)); intro v9 new9 h9 tk9 F9 N9 ap9 po9; obtain ⟨a9, p9, q9, r9, t91, t92, t93, e9, ev9, en9⟩ := po9; subst ev9; subst en9; (simp only [List.cons_append, List.nil_append] at N9)) | (k_here; (with_reducible show wpAny _ _ (call (Value.ref 60) _) _ _ _); k_dflt (refine' Ct.use (c_hls _ _ _ _ _ _ ?p1) ?k1 ?k2 ?k3 ?k4 ?k5 ?kK nil_sub all_rest trivial ?kd ?ku ?_; (case k1 => k_asm); (case k2 => k_asm); (case k3 => k_asm); (case k4 => k_asm); (case k5 => k_asm); (case kK => first | exact rfl | assumption); (case kd => ktr_room); (case ku => ktr_units); (case p1 => exact hz_hls (by assumption) (by assumption) (by assumption))); intro v9 new9 h9 tk9 F9 N9 ap9 po9; obtain ⟨a9, p9, q9, r9, t91, t92, t93, e9, ev9, en9⟩ := po9; subst ev9; subst en9; (simp only [List.cons_append, List.nil_append] at N9)) | (k_here; (with_reducible show wpAny _ _ (call (Value.ref 67) _) _ _ _); k_dflt (refine' Ct.use (c_hsv _ _ _ _ _ _ ?p1) ?k1 ?k2 ?k3 ?k4 ?k5 ?kK nil_sub all_rest trivial ?kd ?ku ?_; (case k1 => k_asm); (case k2 => k_asm); (case k3 => k_asm); (case k4 => k_asm); (case k5 => k_asm); (case kK => first | exact rfl | assumption); (case kd => ktr_room); (case ku => ktr_units); (case p1 => exact hz_hsv (by assumption) (by assumption) (by assumption))); intro v9 new9 h9 tk9 F9 N9 ap9 po9; obtain ⟨a9, p9, q9, r9, t91, t92, t93, e9, ev9, en9⟩ := po9; subst ev9; subst en9; (simp only [List.cons_append, List.nil_append] at N9)) | ((with_reducible show wpAny _ _ (binaryOp .Div (Value.int _ _) (Value.int _ _)) _ _ _); (refine div_ii_s ?ka ?kb ?_; (case ka => omega); (case kb => omega))) | (k_here; (with_reducible show wpAny _ _ (subscriptTail _ _ (Value.ref _) (Value.int _ _)) _ _ _); (with_unfolding_all refine' item_litK ?k1 ?k2 ?k3 ?k4 ?_ ?k6; (case k1 => is_list); (case k2 => decide); (case k3 => decide); (case k4 => rfl); (case k6 => with_unfolding_all rfl); k_whole)) | (k_here; (with_reducible refine gen_toks1 ?_); intro tk' htk') | (with_reducible refine ite_T ?_) | (with_reducible refine ite_F ?_) | walk1) | (leave1; try dsimp only) | fail "no step")
  all_goals (
    (rename News _ _ _ _ => hR); (revert hR); (rename News _ _ _ _ => kN); (rename Fr _ _ _ _ => kF); (revert kN); (rename News _ _ _ _ => nN); (intro kN hR)
    exact ct_ret hret kF kN hR nN hg (SubL.mem (by k_subL)) ⟨rfl, rfl⟩)
end Mine
namespace Mine
/-- what a turn of the main loop must leave behind -/
def TurnEnd (h₀ : Heap) (L : Addr) (s : Shared) (I ax : Addr) (it lo : Obj) (Jn : (Str → Option Value) → List (Addr × Obj) → Prop) (Q : Flow → Shared → Prop) (f : Flow) (s₃ : Shared) : Prop :=
  match f with
  | .ret v => Q (.ret v) s₃
  | .brk => Q .next s₃
  | _ => ∃ h' tk' m' nx', s₃ = { s with heap := h', toks := tk' } ∧ Fr h₀ L h' m' ∧ News h₀ L h' ((I, it) :: nx') ∧ (∀ p ∈ nx', p.1 ≠ I) ∧ (ax, lo) ∈ nx' ∧ Jn m' nx'
theorem iter_ledger {prog : Program} {w : World} {A : Around} {E : Value → Shared → Prop} {s : Shared} {env : Env} {h₀ : Heap} {x : Str} {body : List Stmt} {Q : Flow → Shared → Prop} {ax : Addr} {lo : Obj} {vs : List Value} {ns : List Int} {n : Nat} {m₀ : Str → Option Value} {news nx₀ : List (Addr × Obj)}
    (J : Nat → (Str → Option Value) → List (Addr × Obj) → Prop) (hh : A.handled = none) (F : Fr h₀ env.locals s.heap m₀) (N : News h₀ env.locals s.heap news) (hm : (ax, lo) ∈ nx₀) (hc : lo.cls = .type "list") (hd : lo.data = .seq vs.toArray n) (hi : IntsAre vs ns)
    (hsub : ∀ p ∈ nx₀, p ∈ news) (h0 : J 0 m₀ nx₀)
    (turn : ∀ I it i k t m₁ nx h tk, ns[i]? = some k → J i m₁ nx → (∀ p ∈ nx, p.1 ≠ I) → (ax, lo) ∈ nx → Fr h₀ env.locals h (fun y => if y = x then some (.int k t) else m₁ y) → News h₀ env.locals h ((I, it) :: nx) →
      wpAny (model prog w) A (execs body env) (TurnEnd h₀ env.locals { s with heap := h, toks := tk } I ax it lo (J (i + 1)) Q) E { s with heap := h, toks := tk })
    (done : ∀ m₁ nx h tk, J ns.length m₁ nx → Fr h₀ env.locals h m₁ → News h₀ env.locals h nx → Q .next { s with heap := h, toks := tk }) :
    wpAny (model prog w) A (pyIter (.ref ax)) (fun it s₂ => LoopAtV prog w A h₀ env x body Q E it s₂) E s := by
  have hax := N _ (hsub _ hm)
  have hl : s.heap.IsList ax vs.toArray := ⟨lo, hax.1, hc, n, hd⟩
  have hlt : ax < s.heap.objs.size := Heap.lt_size hax.1
  have hne : ax ≠ s.heap.objs.size := Nat.ne_of_lt hlt
  refine wpAny_pyIter_list hl ?_
  have W := Walks.list (prog := prog) (w := w) hh s.heap.objs.size ax hne vs.toArray
  have hlen : vs.toArray.size = ns.length := by simp [hi.length]
  rw [hlen] at W
  have hnew := next_is_new F
  let J' : Nat → (Str → Option Value) → List (Addr × Obj) → Prop := fun i m₁ nx => (ax, lo) ∈ nx ∧ J i m₁ nx
  refine ⟨_, _, _, ns.length, _, _, m₀, nx₀, J', rfl, W, ?_, ?_, ?_, ⟨⟨_, Heap.get?_push_size _ rfl, rfl, rfl⟩, hl.at fun o e => Heap.get?_push_of_some _ e⟩, F.push _, (fun p hp => ⟨Heap.get?_push_of_some _ (N p (hsub p hp)).1, (N p (hsub p hp)).2⟩), ⟨hm, h0⟩, ?_, ?_⟩
  · intro hmm
    rcases List.mem_cons.mp hmm with e | hmm
    · exact absurd F.ns.lt (e ▸ Nat.lt_irrefl _)
    · exact hax.2.1 (List.mem_singleton.mp hmm).symm
  · intro b hb
    rw [List.mem_singleton.mp hb]
    exact hnew
  · intro p hp hI
    exact absurd (Heap.lt_size (N p (hsub p hp)).1) ((List.mem_singleton.mp hI) ▸ Nat.lt_irrefl _)
  · rintro i v m₁ nx s₁ own ⟨hh', tk', rfl⟩ hin hP ⟨hmem₁, hJ⟩ hwr hown hget hall hst F₁ N₁
    obtain ⟨it, hit, hic, hid⟩ := hst.1
    have hmemI := hall s.heap.objs.size (List.mem_cons_self ..) hnew _ hit
    have hlt' : i < ns.length := hin
    obtain ⟨t, hx⟩ := hi.get i ns[i] (by simp [hlt'])
    have hv : v = .int ns[i] t := by
      have hP' : vs[i]? = some v := by simpa using hP
      rw [hx] at hP'; exact (Option.some.inj hP').symm
    subst hv
    have N₂ : News h₀ env.locals hh' ((s.heap.objs.size, it) :: nx) := fun p hp => by
      rcases List.mem_cons.mp hp with rfl | hp
      · exact N₁ _ (List.mem_append_left _ hmemI)
      · exact N₁ _ (List.mem_append_right _ hp)
    refine wpAny_mono (turn s.heap.objs.size it i ns[i] t m₁ nx hh' tk' (by simp [hlt']) hJ (fun p hp e => hwr p hp (by rw [e]; exact List.mem_singleton.mpr rfl)) hmem₁ F₁ N₂) (fun f s₂ p => ?_) fun _ _ e => e
    have fin : (∃ h' tk' m' nx', s₂ = { s with heap := h', toks := tk' } ∧ Fr h₀ env.locals h' m' ∧ News h₀ env.locals h' ((s.heap.objs.size, it) :: nx') ∧ (∀ p ∈ nx', p.1 ≠ s.heap.objs.size) ∧ (ax, lo) ∈ nx' ∧ J (i + 1) m' nx') →
        LoopStepU h₀ env.locals [s.heap.objs.size] own (J' (i + 1)) { s with heap := hh', toks := tk' } .next s₂ := by
      rintro ⟨h', tk, m', nx', e, F', N', ho, hmm, r⟩
      refine ⟨rfl, h', tk, m', nx', e, F', fun p hp => ?_, fun p hp hI => ho p hp (List.mem_singleton.mp hI), hmm, r⟩
      rcases List.mem_append.mp hp with hp | hp
      · have h2 : hh'.get? p.1 = some p.2 := hget p hp
        rcases List.mem_cons.mp (hown p hp) with h1 | h1
        · have h3 : p = (s.heap.objs.size, it) := by
            rw [h1, hit] at h2
            exact Prod.ext h1 (Option.some.inj h2).symm
          rw [h3]; exact N' _ (List.mem_cons_self ..)
        · have h1' : p.1 = ax := List.mem_singleton.mp h1
          have h3 : p = (ax, lo) := by
            rw [h1', (N₁ _ (List.mem_append_right _ hmem₁)).1] at h2
            exact Prod.ext h1' (Option.some.inj h2).symm
          rw [h3]; exact N' _ (List.mem_cons_of_mem _ hmm)
      · exact N' _ (List.mem_cons_of_mem _ hp)
    cases f with
    | ret v => exact .ret p
    | brk => exact .brk p
    | next => exact .next (fin p)
    | cont => exact .cont (fin p)
  · rintro h' tk m' nx F' N' _ ⟨_, hJ⟩
    exact done m' nx h' tk hJ F' N'
theorem ledger_stop {prog : Program} {w : World} {A : Around} {E : Value → Shared → Prop} {s : Shared} {env : Env} {h₀ : Heap} {x : Str} {body : List Stmt} {Q : Flow → Shared → Prop} {ax : Addr} {m₀ : Str → Option Value} {news : List (Addr × Obj)}
    (hh : A.handled = none) (F : Fr h₀ env.locals s.heap m₀) (N : News h₀ env.locals s.heap news)
    (st : Stop (∃ (J : (Str → Option Value) → Nat → (Str → Option Value) → List (Addr × Obj) → Prop) (lo : Obj) (vs : List Value) (ns : List Int) (n : Nat) (nx₀ : List (Addr × Obj)), (ax, lo) ∈ nx₀ ∧ lo.cls = .type "list" ∧ lo.data = .seq vs.toArray n ∧ IntsAre vs ns ∧ (∀ p ∈ nx₀, p ∈ news) ∧ J m₀ 0 m₀ nx₀ ∧
      (∀ I it i k t m₁ nx h tk, ns[i]? = some k → J m₀ i m₁ nx → (∀ p ∈ nx, p.1 ≠ I) → (ax, lo) ∈ nx → Fr h₀ env.locals h (fun y => if y = x then some (.int k t) else m₁ y) → News h₀ env.locals h ((I, it) :: nx) →
        wpAny (model prog w) A (execs body env) (TurnEnd h₀ env.locals { s with heap := h, toks := tk } I ax it lo (J m₀ (i + 1)) Q) E { s with heap := h, toks := tk }) ∧
      (∀ m₁ nx h tk, J m₀ ns.length m₁ nx → Fr h₀ env.locals h m₁ → News h₀ env.locals h nx → Q .next { s with heap := h, toks := tk }))) :
    wpAny (model prog w) A (pyIter (.ref ax)) (fun it s₂ => LoopAtV prog w A h₀ env x body Q E it s₂) E s := by
  obtain ⟨J, lo, vs, ns, n, nx₀, a1, a2, a3, a4, a5, a6, a7, a8⟩ := st
  exact iter_ledger (J m₀) hh F N a1 a2 a3 a4 a5 a6 a7 a8
end Mine
namespace Mine
theorem foldl_shift (g : Int → Int) : ∀ (l : List Int) (a : Int), l.foldl (fun acc i => acc + g i) a = a + l.foldl (fun acc i => acc + g i) 0
  | [], a => by simp
  | x :: l, a => by
    rw [List.foldl_cons, List.foldl_cons, foldl_shift g l, foldl_shift g l (0 + g x)]
    omega
theorem foldl_same {g g' : Int → Int} : ∀ (l : List Int) (a : Int), (∀ i ∈ l, g i = g' i) → l.foldl (fun acc i => acc + g i) a = l.foldl (fun acc i => acc + g' i) a
  | [], _, _ => rfl
  | x :: l, a, h => by
    rw [List.foldl_cons, List.foldl_cons, h x (List.mem_cons_self ..)]
    exact foldl_same l _ fun i hi => h i (List.mem_cons_of_mem _ hi)
theorem rangeKs_succ (a : Int) (n : Nat) : rangeKs a (n + 1) = rangeKs a n ++ [a + (n : Int)] := by
  simp [rangeKs, List.range_succ]
theorem poured_snoc {ps : List PObj} {o : PObj} {k : Int} {f : Nat} (h : f ≤ ps.length) : pouredI (ps ++ [o]) k f = pouredI ps k f + o.val k * 2 ^ ps.length := by
  unfold pouredI
  have e : (ps ++ [o]).length - f = (ps.length - f) + 1 := by simp; omega
  rw [e, rangeKs_succ, List.foldl_append]
  have e2 : (f : Int) + ((ps.length - f : Nat) : Int) = (ps.length : Int) := by omega
  rw [e2, List.foldl_cons, List.foldl_nil]
  congr 1
  · refine foldl_same (g := fun i => valAt (ps ++ [o]) k i * 2 ^ i.toNat) (g' := fun i => valAt ps k i * 2 ^ i.toNat) _ _ fun i hi => ?_
    have := mem_rangeKs hi
    have hlt : i.toNat < ps.length := by omega
    simp [valAt, List.getElem?_append_left hlt]
  · simp [valAt]
theorem pow_pos' (n : Nat) : (0 : Int) < 2 ^ n := Int.pow_pos (by decide)
theorem level_snoc {ps : List PObj} {o : PObj} {k : Int} {f : Nat} {a : Int} (h : f ≤ ps.length) (ha : (pouredI ps k f).fdiv (2 ^ ps.length) = a) : levelI (ps ++ [o]) k f = a + o.val k := by
  unfold levelI
  rw [poured_snoc h]
  have e : (ps ++ [o]).length - 1 = ps.length := by simp
  have hp := pow_pos' ps.length
  rw [e]
  rw [Int.fdiv_eq_ediv_of_nonneg _ (Int.le_of_lt hp)] at ha ⊢
  rw [Int.add_mul_ediv_right _ _ (Int.ne_of_gt hp), ha]
theorem next_snoc {ps : List PObj} {o : PObj} {k : Int} {f : Nat} {v : Int} (hv : levelI (ps ++ [o]) k f = v) : (pouredI (ps ++ [o]) k f).fdiv (2 ^ (ps ++ [o]).length) = v.fdiv 2 := by
  unfold levelI at hv
  have e : (ps ++ [o]).length - 1 = ps.length := by simp
  have e' : (ps ++ [o]).length = ps.length + 1 := by simp
  have hp := pow_pos' ps.length
  have hp' := pow_pos' (ps.length + 1)
  rw [e] at hv
  rw [e']
  rw [Int.fdiv_eq_ediv_of_nonneg _ (Int.le_of_lt hp)] at hv
  rw [Int.fdiv_eq_ediv_of_nonneg _ (Int.le_of_lt hp'), Int.fdiv_eq_ediv_of_nonneg _ (by decide), ← hv, Int.ediv_ediv_of_nonneg (Int.le_of_lt hp)]
  rw [Int.pow_succ]
theorem poured_none {ps : List PObj} {k : Int} : pouredI ps k ps.length = 0 := by
  unfold pouredI
  rw [Nat.sub_self]
  rfl
/-- runs of marks -/
theorem find_at (x : Str) (c : Nat) (pre post : List Nat) (hx : x.cps.toList = pre ++ c :: post) (hp : c ∉ pre) : Txt.find x ⟨#[c]⟩ = (pre.length : Int) := by
  have hat : x.cps.toList[pre.length]? = some c := by rw [hx]; simp
  unfold Txt.find
  rcases StrLaws.occ_head_from x ⟨#[c]⟩ 0 1 (Nat.le_refl 1) with ⟨_, hn⟩ | ⟨i, r, e, _, ha, hn⟩
  · exact absurd ((StrLaws.subAt_one x c _).mpr hat) (hn _ (Nat.zero_le _))
  · rw [e]
    have h1 := (StrLaws.subAt_one x c i).mp ha
    have h2 : i = pre.length := by
      rcases Nat.lt_trichotomy i pre.length with h | h | h
      · rw [hx, List.getElem?_append_left h] at h1
        exact absurd (List.mem_of_getElem? h1) hp
      · exact h
      · exact absurd ((StrLaws.subAt_one x c _).mpr hat) (hn _ (Nat.zero_le _) h)
    rw [h2]
theorem find_none (x : Str) (c : Nat) (hx : c ∉ x.cps.toList) : Txt.find x ⟨#[c]⟩ = -1 := by
  unfold Txt.find
  rcases StrLaws.occ_head_from x ⟨#[c]⟩ 0 1 (Nat.le_refl 1) with ⟨e, _⟩ | ⟨i, r, e, _, ha, hn⟩
  · rw [e]
  · exact absurd (List.mem_of_getElem? ((StrLaws.subAt_one x c i).mp ha)) hx
theorem take34 (g : Nat → Bool) (h34 : g 34 = true) (post : List Nat) (hp : ∀ c, post.head? = some c → g c = false) : ∀ n : Nat, ((List.replicate n 34 ++ post).takeWhile g).length = n
  | 0 => by
    cases post with
    | nil => rfl
    | cons c r => simp [List.takeWhile_cons, hp c rfl]
  | n + 1 => by
    rw [List.replicate_succ, List.cons_append, List.takeWhile_cons, h34]
    simp [take34 g h34 post hp n]
theorem strip_len (x : Str) (n : Nat) (post : List Nat) (hx : x.cps.toList = List.replicate n 34 ++ post) (hp : post.head? ≠ some 34) : (Txt.lstripChars x (Str.ofString "\"")).length = post.length := by
  rw [quote_is]
  have hg : ∀ c, post.head? = some c → (#[34] : Array Nat).contains c = false := by
    intro c hc
    have : c ≠ 34 := fun e => hp (by rw [hc, e])
    simp [this]
  have ht := take34 (#[34] : Array Nat).contains (by simp) post hg n
  have hl : x.length = n + post.length := by rw [← len_toList, hx]; simp
  unfold Txt.lstripChars Txt.stripBy
  split
  · rename_i h
    simp only [PySem.stripSame, stripLo, stripHi, if_true, Bool.false_eq_true, if_false, Bool.and_eq_true, beq_iff_eq] at h
    rw [hx] at h
    have h1 := h.1
    have : n = 0 := ht.symm.trans h1
    omega
  · have e : PySem.stripped (#[34] : Array Nat).contains true false x = PySem.Builtin.Str.strSub x n x.length := by
      simp only [PySem.stripped, stripLo, stripHi, if_true, Bool.false_eq_true, if_false]
      rw [hx]
      exact congrArg (fun k => PySem.Builtin.Str.strSub x k x.length) ht
    show (PySem.stripped (#[34] : Array Nat).contains true false x).length = _
    rw [e, ← len_toList, StrLaws.strSub_toList]
    simp [hl, hx]
theorem run_at (x : Str) (c n : Nat) (pre post : List Nat) (hx : x.cps.toList = pre ++ c :: (List.replicate n 34 ++ post)) (hc : c ∉ pre) (hp : post.head? ≠ some 34) : runI x ⟨#[c]⟩ = n := by
  unfold runI
  rw [find_at x c pre _ hx hc]
  have hl : x.length = pre.length + (1 + (n + post.length)) := by rw [← len_toList, hx]; simp; omega
  rw [if_neg (by omega)]
  have e1 : (Txt.slice x (some ((pre.length : Int) + 1)) none).cps.toList = List.replicate n 34 ++ post := by
    have := slice_sn x (a := pre.length + 1) (by omega)
    refine Eq.trans this ?_
    rw [hx]
    simp
  have e2 := strip_len _ n post e1 hp
  have e3 : (Txt.slice x (some ((pre.length : Int) + 1)) none).length = n + post.length := by rw [← len_toList, e1]; simp
  rw [e2, e3]
  omega
theorem run_none (x : Str) (c : Nat) (hx : c ∉ x.cps.toList) : runI x ⟨#[c]⟩ = 0 := by
  unfold runI
  rw [find_none x c hx, if_pos (by decide)]
theorem s_r : Str.ofString "r" = ⟨#[114]⟩ := by decide +kernel
theorem s_g : Str.ofString "g" = ⟨#[103]⟩ := by decide +kernel
theorem s_b : Str.ofString "b" = ⟨#[98]⟩ := by decide +kernel
section
variable {y : Str} {a b c : Nat} (h : y.cps.toList = toldL a b c)
include h
theorem run_r : runI y (Str.ofString "r") = (a / 2 : Nat) := by
  rw [s_r]
  refine run_at y 114 (a / 2) [] _ h (by simp) ?_
  split <;> simp
theorem run_g : runI y (Str.ofString "g") = ((if a % 2 = 1 then 0 else b / 2 : Nat) : Int) := by
  rw [s_g]
  unfold toldL at h
  split
  · rename_i o
    rw [if_pos o] at h
    refine run_none y 103 ?_
    rw [h]
    simp
  · rename_i o
    rw [if_neg o] at h
    refine run_at y 103 (b / 2) (114 :: List.replicate (a / 2) 34) _ (by rw [h]; simp; rfl) (by simp) ?_
    split <;> simp
theorem run_b : runI y (Str.ofString "b") = ((if a % 2 = 1 then 0 else if b % 2 = 1 then 0 else c / 2 : Nat) : Int) := by
  rw [s_b]
  unfold toldL at h
  split
  · rename_i o
    rw [if_pos o] at h
    refine run_none y 98 ?_
    rw [h]
    simp
  · rename_i o
    rw [if_neg o] at h
    split
    · rename_i o'
      rw [if_pos o'] at h
      refine run_none y 98 ?_
      rw [h]
      simp
    · rename_i o'
      rw [if_neg o'] at h
      refine run_at y 98 (c / 2) (114 :: (List.replicate (a / 2) 34 ++ 103 :: List.replicate (b / 2) 34)) _ (by rw [h]; simp; rfl) (by simp) ?_
      split <;> simp
theorem told_len (ha : a ≤ 40) (hb : b ≤ 40) (hc : c ≤ 40) : y.length ≤ 100 := by
  rw [← len_toList, h]
  unfold toldL
  simp only [List.length_cons, List.length_append, List.length_replicate]
  split
  · simp; omega
  · simp only [List.length_cons, List.length_append, List.length_replicate]
    split
    · simp; omega
    · simp only [List.length_cons, List.length_append, List.length_replicate]
      split <;> simp <;> omega
end
structure PotInv (ps : List PObj) (f1 f2 : Nat) (name : Str) : Prop where
  ex : ∃ a b c : Nat, (a ≤ 15 ∧ b ≤ 15 ∧ c ≤ 15) ∧ (runI name (Str.ofString "r") = a ∧ runI name (Str.ofString "g") = b ∧ runI name (Str.ofString "b") = c) ∧
    ((pouredI ps 0 0).fdiv (2 ^ ps.length) = a ∧ (pouredI ps 1 f1).fdiv (2 ^ ps.length) = b ∧ (pouredI ps 2 f2).fdiv (2 ^ ps.length) = c) ∧ f1 ≤ ps.length ∧ f2 ≤ ps.length ∧ name.length ≤ 100
structure PotTurn (ps : List PObj) (o : PObj) (f1 f2 : Nat) (y : Str) (v0 v1 v2 : Int) : Prop where
  l0 : levelI (ps ++ [o]) 0 0 = v0
  l1 : levelI (ps ++ [o]) 1 f1 = v1
  l2 : levelI (ps ++ [o]) 2 f2 = v2
  b0 : 0 ≤ v0 ∧ v0 ≤ 40
  b1 : 0 ≤ v1 ∧ v1 ≤ 40
  b2 : 0 ≤ v2 ∧ v2 ≤ 40
  hf1 : f1 ≤ (ps ++ [o]).length
  hf2 : f2 ≤ (ps ++ [o]).length
  same : ∀ {z : Str}, z.cps.toList = toldL v0.toNat v1.toNat v2.toNat → y = z
  parts : ∀ {p0 p1 p2 : Int}, halfs v0 v1 v2 = (p0, p1, p2) → (0 ≤ p0 ∧ p0 ≤ 15) ∧ (0 ≤ p1 ∧ p1 ≤ 15) ∧ (0 ≤ p2 ∧ p2 ≤ 15)
  next : ∀ {g1 g2 : Nat}, nextF v0 v1 f1 f2 (ps ++ [o]).length = (g1, g2) → PotInv (ps ++ [o]) g1 g2 y
theorem sum31 {a : Nat} {p : Int} (ha : a ≤ 15) (h : 0 ≤ p ∧ p ≤ 16) : 0 ≤ (a : Int) + p ∧ (a : Int) + p ≤ 31 := by omega
theorem up40 {v : Int} (h : 0 ≤ v ∧ v ≤ 31) : 0 ≤ v ∧ v ≤ 40 := ⟨h.1, Int.le_trans h.2 (by decide)⟩
theorem half31 {v : Int} (h : 0 ≤ v ∧ v ≤ 31) : 0 ≤ v.fdiv 2 ∧ v.fdiv 2 ≤ 15 := by
  rw [Int.fdiv_eq_ediv_of_nonneg _ (by decide)]
  omega
theorem nat40 {v : Int} (h : 0 ≤ v ∧ v ≤ 31) : v.toNat ≤ 40 := by omega
theorem nhalf {v : Int} (h : 0 ≤ v ∧ v ≤ 31) : v.toNat / 2 ≤ 15 := by omega
theorem zero15 : (0 : Int) ≤ 0 ∧ (0 : Int) ≤ 15 := by decide
theorem halfs_in {v0 v1 v2 p0 p1 p2 : Int} (s0 : 0 ≤ v0 ∧ v0 ≤ 31) (s1 : 0 ≤ v1 ∧ v1 ≤ 31) (s2 : 0 ≤ v2 ∧ v2 ≤ 31) (hh : halfs v0 v1 v2 = (p0, p1, p2)) : (0 ≤ p0 ∧ p0 ≤ 15) ∧ (0 ≤ p1 ∧ p1 ≤ 15) ∧ (0 ≤ p2 ∧ p2 ≤ 15) := by
  unfold halfs at hh
  split at hh
  · cases hh; exact ⟨half31 s0, zero15, zero15⟩
  · split at hh
    · cases hh; exact ⟨half31 s0, half31 s1, zero15⟩
    · cases hh; exact ⟨half31 s0, half31 s1, half31 s2⟩
theorem pot_turn {ps : List PObj} {o : PObj} {f1 f2 : Nat} {name y : Str} (h : PotInv ps f1 f2 name) (hl : ps.length ≤ 9) (hb : (0 ≤ o.p ∧ o.p ≤ 16) ∧ (0 ≤ o.q ∧ o.q ≤ 16) ∧ (0 ≤ o.r ∧ o.r ≤ 16)) (hbs : ∀ o ∈ ps, (0 ≤ o.p ∧ o.p ≤ 16) ∧ (0 ≤ o.q ∧ o.q ≤ 16) ∧ (0 ≤ o.r ∧ o.r ≤ 16))
    (ht : ToldIs name o.p o.q o.r y) : ∃ v0 v1 v2, PotTurn ps o f1 f2 y v0 v1 v2 := by
  obtain ⟨a, b, c, ⟨ha, hb', hc⟩, ⟨r1, r2, r3⟩, ⟨q1, q2, q3⟩, hf1, hf2, _⟩ := h
  have l0 : levelI (ps ++ [o]) 0 0 = a + o.p := by rw [level_snoc (Nat.zero_le _) q1]; rfl
  have l1 : levelI (ps ++ [o]) 1 f1 = b + o.q := by rw [level_snoc hf1 q2]; rfl
  have l2 : levelI (ps ++ [o]) 2 f2 = c + o.r := by rw [level_snoc hf2 q3]; rfl
  have hy : y.cps.toList = toldL ((a : Int) + o.p).toNat ((b : Int) + o.q).toNat ((c : Int) + o.r).toNat := by rw [ht.eq, r1, r2, r3]
  have hlen : (ps ++ [o]).length = ps.length + 1 := by simp
  have s0 := sum31 ha hb.1
  have s1 := sum31 hb' hb.2.1
  have s2 := sum31 hc hb.2.2
  have g1' : f1 ≤ (ps ++ [o]).length := by rw [hlen]; exact Nat.le_succ_of_le hf1
  have g2' : f2 ≤ (ps ++ [o]).length := by rw [hlen]; exact Nat.le_succ_of_le hf2
  refine ⟨a + o.p, b + o.q, c + o.r, l0, l1, l2, up40 s0, up40 s1, up40 s2, g1', g2', fun hz => toList_inj (hy.trans hz.symm), halfs_in s0 s1 s2, ?_⟩
  · intro g1 g2 hg
    have n0 := next_snoc l0
    have n1 := next_snoc l1
    have n2 := next_snoc l2
    have k1 := run_r hy
    have k2 := run_g hy
    have k3 := run_b hy
    have k4 := told_len hy (nat40 s0) (nat40 s1) (nat40 s2)
    generalize hv0 : (a : Int) + o.p = v0 at *
    generalize hv1 : (b : Int) + o.q = v1 at *
    generalize hv2 : (c : Int) + o.r = v2 at *
    have p0 := s0.1
    have p1 := s1.1
    have p2 := s2.1
    unfold nextF at hg
    by_cases o0 : v0.fmod 2 = 1
    · rw [if_pos o0] at hg
      cases hg
      rw [if_pos (odd_nat p0 o0)] at k2 k3
      refine ⟨v0.toNat / 2, 0, 0, ⟨nhalf s0, by decide, by decide⟩, ⟨k1, k2, k3⟩, ⟨?_, ?_, ?_⟩, Nat.le_refl _, Nat.le_refl _, k4⟩
      · rw [n0, ← half_nat p0]; exact (Int.toNat_of_nonneg (half_pos p0)).symm
      · rw [poured_none]; exact Int.zero_fdiv _
      · rw [poured_none]; exact Int.zero_fdiv _
    · rw [if_neg o0] at hg
      rw [if_neg (even_nat p0 o0)] at k2 k3
      by_cases o1 : v1.fmod 2 = 1
      · rw [if_pos o1] at hg
        cases hg
        rw [if_pos (odd_nat p1 o1)] at k3
        refine ⟨v0.toNat / 2, v1.toNat / 2, 0, ⟨nhalf s0, nhalf s1, by decide⟩, ⟨k1, k2, k3⟩, ⟨?_, ?_, ?_⟩, g1', Nat.le_refl _, k4⟩
        · rw [n0, ← half_nat p0]; exact (Int.toNat_of_nonneg (half_pos p0)).symm
        · rw [n1, ← half_nat p1]; exact (Int.toNat_of_nonneg (half_pos p1)).symm
        · rw [poured_none]; exact Int.zero_fdiv _
      · rw [if_neg o1] at hg
        cases hg
        rw [if_neg (even_nat p1 o1)] at k3
        refine ⟨v0.toNat / 2, v1.toNat / 2, v2.toNat / 2, ⟨nhalf s0, nhalf s1, nhalf s2⟩, ⟨k1, k2, k3⟩, ⟨?_, ?_, ?_⟩, g1', g2', k4⟩
        · rw [n0, ← half_nat p0]; exact (Int.toNat_of_nonneg (half_pos p0)).symm
        · rw [n1, ← half_nat p1]; exact (Int.toNat_of_nonneg (half_pos p1)).symm
        · rw [n2, ← half_nat p2]; exact (Int.toNat_of_nonneg (half_pos p2)).symm
end Mine
namespace Mine
theorem Stop.go {P : Prop} (h : Stop P) : P := h
def LawJ (D : Addr) (lo : Obj) (m₀ : Str → Option Value) (i : Nat) (m₁ : Str → Option Value) (nx : List (Addr × Obj)) : Prop :=
  ∃ (pl fl : Addr) (ps : List PObj) (nn fn f1 f2 : Nat) (s0 s1 s2 tn : Tok) (name : Str),
    nx = (pl, paintsObj ps nn) :: (fl, list3 ((0 : Nat) : Int) f1 f2 s0 s1 s2 fn) :: (D, lo) :: ps.map PObj.ent ∧
    (pl ≠ fl ∧ pl ≠ D ∧ fl ≠ D) ∧ (∀ o ∈ ps, o.a ≠ pl ∧ o.a ≠ fl) ∧ ps.length = i ∧
    m₀ (Str.ofString "paints") = some (.ref pl) ∧ m₀ (Str.ofString "firsts") = some (.ref fl) ∧ m₁ (Str.ofString "name") = some (.str name tn) ∧
    (∀ y, y ≠ Str.ofString "number" → y ≠ Str.ofString "name" → y ≠ Str.ofString "paint" → y ≠ Str.ofString "text" → y ≠ Str.ofString "parts" → m₁ y = m₀ y) ∧
    (∀ o ∈ ps, (0 ≤ o.p ∧ o.p ≤ 16) ∧ (0 ≤ o.q ∧ o.q ≤ 16) ∧ (0 ≤ o.r ∧ o.r ≤ 16)) ∧ PotInv ps f1 f2 name
theorem canonL {m₁ m₀ : Str → Option Value} {v : Value} {a : Option Value} (h1 : m₁ (Str.ofString "name") = a)
    (h2 : ∀ y, y ≠ Str.ofString "number" → y ≠ Str.ofString "name" → y ≠ Str.ofString "paint" → y ≠ Str.ofString "text" → y ≠ Str.ofString "parts" → m₁ y = m₀ y) :
    (fun y => if y = Str.ofString "number" then some v else m₁ y) = fun y => if y = Str.ofString "number" then some v else if y = Str.ofString "name" then a else if y = Str.ofString "paint" then m₁ (Str.ofString "paint") else if y = Str.ofString "text" then m₁ (Str.ofString "text") else if y = Str.ofString "parts" then m₁ (Str.ofString "parts") else m₀ y := by
  funext y
  by_cases e0 : y = Str.ofString "number"
  · rw [if_pos e0, if_pos e0]
  rw [if_neg e0, if_neg e0]
  by_cases e1 : y = Str.ofString "name"
  · rw [if_pos e1, e1, h1]
  rw [if_neg e1]
  by_cases e2 : y = Str.ofString "paint"
  · rw [if_pos e2, e2]
  rw [if_neg e2]
  by_cases e3 : y = Str.ofString "text"
  · rw [if_pos e3, e3]
  rw [if_neg e3]
  by_cases e4 : y = Str.ofString "parts"
  · rw [if_pos e4, e4]
  rw [if_neg e4, h2 y e0 e1 e2 e3 e4]
theorem pot_start : PotInv [] 0 0 (Str.ofString "") := ⟨0, 0, 0, by decide, by decide +kernel, by decide, by decide, by decide, by decide +kernel⟩
theorem name_len {ps : List PObj} {f1 f2 : Nat} {name : Str} (h : PotInv ps f1 f2 name) : name.length ≤ 100 := by
  obtain ⟨⟨a, b, c, h⟩⟩ := h
  exact h.2.2.2.2.2
theorem rest1 {x : Addr × Obj} {l : List (Addr × Obj)} (h : ∀ q ∈ l, q.1 ≠ x.1) : ∀ q ∈ l, q ∈ x :: l ∧ ∀ r ∈ [x], q.1 ≠ r.1 := fun q hq => ⟨List.Mem.tail _ hq, fun r hr => by rw [List.mem_singleton.mp hr]; exact h q hq⟩
theorem sub1 {x : Addr × Obj} {l : List (Addr × Obj)} (hx : x ∈ l) : ∀ q ∈ [x], q ∈ l := fun q hq => by rw [List.mem_singleton.mp hq]; exact hx
theorem all4 {P : Addr × Obj → Prop} {a b c d : Addr × Obj} {l : List (Addr × Obj)} (h1 : P a) (h2 : P b) (h3 : P c) (h4 : P d) (h5 : ∀ q ∈ l, P q) : ∀ q ∈ a :: b :: c :: d :: l, P q := by
  intro q hq
  rcases List.mem_cons.mp hq with rfl | hq
  · exact h1
  rcases List.mem_cons.mp hq with rfl | hq
  · exact h2
  rcases List.mem_cons.mp hq with rfl | hq
  · exact h3
  rcases List.mem_cons.mp hq with rfl | hq
  · exact h4
  exact h5 q hq
theorem all2 {P : Addr × Obj → Prop} {a b : Addr × Obj} {l : List (Addr × Obj)} (h1 : P a) (h2 : P b) (h5 : ∀ q ∈ l, P q) : ∀ q ∈ a :: b :: l, P q := by
  intro q hq
  rcases List.mem_cons.mp hq with rfl | hq
  · exact h1
  rcases List.mem_cons.mp hq with rfl | hq
  · exact h2
  exact h5 q hq
theorem rest4 {x a b c d : Addr × Obj} {l : List (Addr × Obj)} (h : ∀ q ∈ a :: b :: c :: d :: l, q.1 ≠ x.1) : ∀ q ∈ a :: b :: c :: d :: l, q ∈ a :: b :: c :: x :: d :: l ∧ ∀ r ∈ [x], q.1 ≠ r.1 := fun q hq => ⟨by
  simp only [List.mem_cons] at hq ⊢
  rcases hq with h | h | h | h | h <;> simp [h], fun r hr => by rw [List.mem_singleton.mp hr]; exact h q hq⟩
theorem rest5 {x t f : Addr × Obj} {l : List (Addr × Obj)} (h1 : f.1 ≠ x.1) (h : ∀ q ∈ l, q.1 ≠ x.1) : ∀ q ∈ f :: l, q ∈ t :: x :: f :: l ∧ ∀ r ∈ [x], q.1 ≠ r.1 := fun q hq => ⟨List.Mem.tail _ (List.Mem.tail _ hq), fun r hr => by
  rw [List.mem_singleton.mp hr]
  rcases List.mem_cons.mp hq with rfl | hq
  · exact h1
  · exact h q hq⟩
theorem held_mk {pl : Addr × Obj} {ps : List PObj} {o : PObj} {b d : Addr × Obj} {h : Heap} : HeldIn (pl :: (ps ++ [o]).map PObj.ent) (o.ent :: b :: pl :: d :: ps.map PObj.ent) h := by
  intro q hq
  refine Or.inl ?_
  simp only [List.map_append, List.mem_cons, List.mem_append, List.map_cons, List.map_nil, List.not_mem_nil, or_false] at hq ⊢
  rcases hq with h | h | h <;> simp [h]
theorem end_sub {s f pl d i : Addr × Obj} {ps : List PObj} {o : PObj} : ∀ q ∈ i :: pl :: f :: d :: (ps ++ [o]).map PObj.ent, q ∈ s :: f :: o.ent :: i :: pl :: d :: ps.map PObj.ent := by
  intro q hq
  simp only [List.map_append, List.mem_cons, List.mem_append, List.map_cons, List.map_nil, List.not_mem_nil, or_false] at hq ⊢
  rcases hq with h | h | h | h | h | h <;> simp [h]
theorem end_off {pl f d : Addr × Obj} {I : Addr} {ps : List PObj} {o : PObj} (c1 : pl.1 ≠ I) (c2 : f.1 ≠ I) (c3 : d.1 ≠ I) (c4 : ∀ o ∈ ps, o.a ≠ I) (a1 : o.a ≠ I) : ∀ q ∈ pl :: f :: d :: (ps ++ [o]).map PObj.ent, q.1 ≠ I := by
  intro q hq
  rcases List.mem_cons.mp hq with rfl | hq
  · exact c1
  rcases List.mem_cons.mp hq with rfl | hq
  · exact c2
  rcases List.mem_cons.mp hq with rfl | hq
  · exact c3
  obtain ⟨o', ho, rfl⟩ := List.mem_map.mp hq
  rcases List.mem_append.mp ho with ho | ho
  · exact c4 o' ho
  · rw [List.mem_singleton.mp ho]; exact a1
theorem all_ent {P : Addr × Obj → Prop} {ps : List PObj} (h : ∀ o ∈ ps, P o.ent) : ∀ q ∈ ps.map PObj.ent, P q := by
  intro q hq
  obtain ⟨o, ho, rfl⟩ := List.mem_map.mp hq
  exact h o ho
theorem push_paints (ps : List PObj) (o : PObj) (nn : Nat) : W.listOf ((ps.map fun o => Value.ref o.a).toArray.push (.ref o.a)) (nn + 1) = paintsObj (ps ++ [o]) (nn + 1) := by simp [paintsObj]
theorem ne_ss {prog : Program} {w : World} {A : Around} {E : Value → Shared → Prop} {s : Shared} {Q : Value → Shared → Prop} {x : Str} {t u : Tok} (hq : Q (.bool false) s) : wpAny (model prog w) A (compareOp .NotEq (.str x t) (.str x u)) Q E s := by
  refine ne_str ?_
  simpa using hq







theorem law_walk : PySem.Challenge.rw_pg0092_01.Holds := hd (by
  w_top off
  k_go0
  (all_goals try k_fold)
  repeat' (first | (k_unfold; (try dsimp only)) | ((with_reducible show wpAny _ _ (call (Value.builtin "list.append") _) _ _ _); (k_here; refine Stop.go ?_)) | (k_here; (with_reducible refine gen_toks1 ?_); intro tk' htk') | (k_here; (with_reducible show wpAny _ _ (call (Value.ref _) _) _ _ _); refine Stop.go ?_) | ((with_reducible show wpAny _ _ (pyIter (Value.ref _)) _ _ _); ((with_reducible show wpAny _ _ (pyIter (Value.ref _)) (fun it s₂ => LoopAtV _ _ _ _ _ _ _ _ _ it s₂) _ _); (rename Fr _ _ _ _ => F'); (rename News _ _ _ _ => N'); with_unfolding_all refine ledger_stop rfl F' N' ?_)) | ((with_reducible show wpAny _ _ (exec (Stmt.For _ _ _ _ _) _) _ _ _); (k_here; (rename Fr _ _ _ _ => lF'); (with_unfolding_all refine' For_invVF lF' ?k1 ?k2 ?_; (case k1 => exact rfl); (case k2 => exact rfl); k_whole))) | (with_reducible refine ne_ss ?_) | walk1 | (dsimp only; first | ((with_reducible show wpAny _ _ (call (Value.builtin "list.append") _) _ _ _); (k_here; refine Stop.go ?_)) | (k_here; (with_reducible refine gen_toks1 ?_); intro tk' htk') | (k_here; (with_reducible show wpAny _ _ (call (Value.ref _) _) _ _ _); refine Stop.go ?_) | ((with_reducible show wpAny _ _ (pyIter (Value.ref _)) _ _ _); ((with_reducible show wpAny _ _ (pyIter (Value.ref _)) (fun it s₂ => LoopAtV _ _ _ _ _ _ _ _ _ it s₂) _ _); (rename Fr _ _ _ _ => F'); (rename News _ _ _ _ => N'); with_unfolding_all refine ledger_stop rfl F' N' ?_)) | ((with_reducible show wpAny _ _ (exec (Stmt.For _ _ _ _ _) _) _ _ _); (k_here; (rename Fr _ _ _ _ => lF'); (with_unfolding_all refine' For_invVF lF' ?k1 ?k2 ?_; (case k1 => exact rfl); (case k2 => exact rfl); k_whole))) | (with_reducible refine ne_ss ?_) | walk1) | (leave1; try dsimp only) | fail "no step")
  unfold Stop
  (rename IntsAre _ (List.take _ _ ++ _) => hI)
  refine' ⟨LawJ _ _, W.listOf _ 0, _, _, 0, _, List.Mem.tail _ (List.Mem.tail _ (List.Mem.head _)), rfl, rfl, hI, ?hsub, ⟨_, _, [], _, _, 0, 0, _, _, _, _, _, rfl, ?hne, fun _ h => (nomatch h), rfl, rfl, rfl, rfl, fun _ _ _ _ _ _ => rfl, fun _ h => (nomatch h), pot_start⟩, ?turn, ?done⟩
  (case hsub => exact SubL.mem (by k_subL))
  (case hne => (refine ⟨?_, ?_, ?_⟩ <;> k_ne))
  case turn =>
    intro I it i k t m₁ nx h tk hk hJ hnI hmem F₁ N₁
    obtain ⟨pl, fl, ps, nn, fn, f1, f2, s0, s1, s2, tn, name, rfl, hne, hof, hlen, e1, e2, e3, e4, hb, hpot⟩ := hJ
    have e1' := Value.ref.inj (Option.some.inj (show some (Value.ref _) = some (Value.ref pl) from e1))
    have e2' := Value.ref.inj (Option.some.inj (show some (Value.ref _) = some (Value.ref fl) from e2))
    rw [canonL e3 e4] at F₁
    clear e1 e2
    subst e1'
    subst e2'
    clear e3 e4
    generalize m₁ (Str.ofString "paint") = op at F₁
    generalize m₁ (Str.ofString "text") = ot at F₁
    generalize m₁ (Str.ofString "parts") = oq at F₁
    repeat' (first | (k_unfold; (try dsimp only)) | ((with_reducible show wpAny _ _ (call (Value.builtin "list.append") _) _ _ _); (k_here; refine Stop.go ?_)) | (k_here; (with_reducible refine gen_toks1 ?_); intro tk' htk') | (k_here; (with_reducible show wpAny _ _ (call (Value.ref _) _) _ _ _); refine Stop.go ?_) | ((with_reducible show wpAny _ _ (pyIter (Value.ref _)) _ _ _); ((with_reducible show wpAny _ _ (pyIter (Value.ref _)) (fun it s₂ => LoopAtV _ _ _ _ _ _ _ _ _ it s₂) _ _); (rename Fr _ _ _ _ => F'); (rename News _ _ _ _ => N'); with_unfolding_all refine ledger_stop rfl F' N' ?_)) | ((with_reducible show wpAny _ _ (exec (Stmt.For _ _ _ _ _) _) _ _ _); (k_here; (rename Fr _ _ _ _ => lF'); (with_unfolding_all refine' For_invVF lF' ?k1 ?k2 ?_; (case k1 => exact rfl); (case k2 => exact rfl); k_whole))) | (with_reducible refine ne_ss ?_) | walk1 | (dsimp only; first | ((with_reducible show wpAny _ _ (call (Value.builtin "list.append") _) _ _ _); (k_here; refine Stop.go ?_)) | (k_here; (with_reducible refine gen_toks1 ?_); intro tk' htk') | (k_here; (with_reducible show wpAny _ _ (call (Value.ref _) _) _ _ _); refine Stop.go ?_) | ((with_reducible show wpAny _ _ (pyIter (Value.ref _)) _ _ _); ((with_reducible show wpAny _ _ (pyIter (Value.ref _)) (fun it s₂ => LoopAtV _ _ _ _ _ _ _ _ _ it s₂) _ _); (rename Fr _ _ _ _ => F'); (rename News _ _ _ _ => N'); with_unfolding_all refine ledger_stop rfl F' N' ?_)) | ((with_reducible show wpAny _ _ (exec (Stmt.For _ _ _ _ _) _) _ _ _); (k_here; (rename Fr _ _ _ _ => lF'); (with_unfolding_all refine' For_invVF lF' ?k1 ?k2 ?_; (case k1 => exact rfl); (case k2 => exact rfl); k_whole))) | (with_reducible refine ne_ss ?_) | walk1) | (leave1; try dsimp only) | fail "no step")
    unfold Stop
    k_dflt (refine' Ct.use (c_paint _ _) ?k1 ?k2 ?k3 ?k4 ?k5 ?kK nil_sub all_rest trivial ?kd ?ku ?_; (case k1 => k_asm); (case k2 => k_asm); (case k3 => k_asm); (case k4 => k_asm); (case k5 => k_asm); (case kK => first | exact rfl | assumption); (case kd => ktr_room); (case ku => ktr_units))
    intro v9 new9 h9 tk9 F9 N9 ap9 po9
    obtain ⟨pa, p, q, r, t1, t2, t3, n1, hP, bp, bq, br, rfl, rfl⟩ := po9
    simp only [List.cons_append, List.nil_append] at N9
    have a1 : pa ≠ I := ap9 _ (List.mem_singleton.mpr rfl) _ (List.Mem.head _)
    have a2 : pa ≠ _ := ap9 _ (List.mem_singleton.mpr rfl) _ (List.Mem.tail _ (List.Mem.head _))
    have a3 : pa ≠ _ := ap9 _ (List.mem_singleton.mpr rfl) _ (List.Mem.tail _ (List.Mem.tail _ (List.Mem.head _)))
    have a4 : pa ≠ _ := ap9 _ (List.mem_singleton.mpr rfl) _ (List.Mem.tail _ (List.Mem.tail _ (List.Mem.tail _ (List.Mem.head _))))
    have a5 : ∀ o ∈ ps, pa ≠ o.a := fun o ho => ap9 _ (List.mem_singleton.mpr rfl) o.ent (List.Mem.tail _ (List.Mem.tail _ (List.Mem.tail _ (List.Mem.tail _ (List.mem_map_of_mem ho)))))
    clear ap9
    have hil : i < 10 := by
      have h1 := (List.getElem?_eq_some_iff.mp hk).1
      simp only [List.length_append, List.length_take, List.length_cons, List.length_nil] at h1
      omega
    have c1 := hnI _ (List.Mem.head _)
    have c2 := hnI _ (List.Mem.tail _ (List.Mem.head _))
    have c3 := hnI _ (List.Mem.tail _ (List.Mem.tail _ (List.Mem.head _)))
    have c4 : ∀ o ∈ ps, o.a ≠ I := fun o ho => hnI o.ent (List.Mem.tail _ (List.Mem.tail _ (List.Mem.tail _ (List.mem_map_of_mem ho))))
    repeat' (first | (k_unfold; (try dsimp only)) | ((with_reducible show wpAny _ _ (call (Value.builtin "list.append") _) _ _ _); (k_here; refine Stop.go ?_)) | (k_here; (with_reducible refine gen_toks1 ?_); intro tk' htk') | (k_here; (with_reducible show wpAny _ _ (call (Value.ref _) _) _ _ _); refine Stop.go ?_) | ((with_reducible show wpAny _ _ (pyIter (Value.ref _)) _ _ _); ((with_reducible show wpAny _ _ (pyIter (Value.ref _)) (fun it s₂ => LoopAtV _ _ _ _ _ _ _ _ _ it s₂) _ _); (rename Fr _ _ _ _ => F'); (rename News _ _ _ _ => N'); with_unfolding_all refine ledger_stop rfl F' N' ?_)) | ((with_reducible show wpAny _ _ (exec (Stmt.For _ _ _ _ _) _) _ _ _); (k_here; (rename Fr _ _ _ _ => lF'); (with_unfolding_all refine' For_invVF lF' ?k1 ?k2 ?_; (case k1 => exact rfl); (case k2 => exact rfl); k_whole))) | (with_reducible refine ne_ss ?_) | walk1 | (dsimp only; first | ((with_reducible show wpAny _ _ (call (Value.builtin "list.append") _) _ _ _); (k_here; refine Stop.go ?_)) | (k_here; (with_reducible refine gen_toks1 ?_); intro tk' htk') | (k_here; (with_reducible show wpAny _ _ (call (Value.ref _) _) _ _ _); refine Stop.go ?_) | ((with_reducible show wpAny _ _ (pyIter (Value.ref _)) _ _ _); ((with_reducible show wpAny _ _ (pyIter (Value.ref _)) (fun it s₂ => LoopAtV _ _ _ _ _ _ _ _ _ it s₂) _ _); (rename Fr _ _ _ _ => F'); (rename News _ _ _ _ => N'); with_unfolding_all refine ledger_stop rfl F' N' ?_)) | ((with_reducible show wpAny _ _ (exec (Stmt.For _ _ _ _ _) _) _ _ _); (k_here; (rename Fr _ _ _ _ => lF'); (with_unfolding_all refine' For_invVF lF' ?k1 ?k2 ?_; (case k1 => exact rfl); (case k2 => exact rfl); k_whole))) | (with_reducible refine ne_ss ?_) | walk1) | (leave1; try dsimp only) | fail "no step")
    unfold Stop
    k_dflt (refine' append_K ?k1 ?k2 ?k3 ?_ ?z; (case k1 => k_asm); (case k2 => k_asm); (case k3 => exact Upd.tail a2 (Upd.tail (Ne.symm c1) (Upd.head (all2 (Ne.symm hne.1) (Ne.symm hne.2.1) (all_ent fun o ho => (hof o ho).1))))); (case z => (simp only [List.size_toArray, List.length_map]; rw [sizeLine_eq]; omega)))
    intro h8 F8 N8
    rw [push_paints ps ⟨pa, p, q, r, t1, t2, t3, n1⟩ nn] at N8
    repeat' (first | (k_unfold; (try dsimp only)) | ((with_reducible show wpAny _ _ (call (Value.builtin "list.append") _) _ _ _); (k_here; refine Stop.go ?_)) | (k_here; (with_reducible refine gen_toks1 ?_); intro tk' htk') | (k_here; (with_reducible show wpAny _ _ (call (Value.ref _) _) _ _ _); refine Stop.go ?_) | ((with_reducible show wpAny _ _ (pyIter (Value.ref _)) _ _ _); ((with_reducible show wpAny _ _ (pyIter (Value.ref _)) (fun it s₂ => LoopAtV _ _ _ _ _ _ _ _ _ it s₂) _ _); (rename Fr _ _ _ _ => F'); (rename News _ _ _ _ => N'); with_unfolding_all refine ledger_stop rfl F' N' ?_)) | ((with_reducible show wpAny _ _ (exec (Stmt.For _ _ _ _ _) _) _ _ _); (k_here; (rename Fr _ _ _ _ => lF'); (with_unfolding_all refine' For_invVF lF' ?k1 ?k2 ?_; (case k1 => exact rfl); (case k2 => exact rfl); k_whole))) | (with_reducible refine ne_ss ?_) | walk1 | (dsimp only; first | ((with_reducible show wpAny _ _ (call (Value.builtin "list.append") _) _ _ _); (k_here; refine Stop.go ?_)) | (k_here; (with_reducible refine gen_toks1 ?_); intro tk' htk') | (k_here; (with_reducible show wpAny _ _ (call (Value.ref _) _) _ _ _); refine Stop.go ?_) | ((with_reducible show wpAny _ _ (pyIter (Value.ref _)) _ _ _); ((with_reducible show wpAny _ _ (pyIter (Value.ref _)) (fun it s₂ => LoopAtV _ _ _ _ _ _ _ _ _ it s₂) _ _); (rename Fr _ _ _ _ => F'); (rename News _ _ _ _ => N'); with_unfolding_all refine ledger_stop rfl F' N' ?_)) | ((with_reducible show wpAny _ _ (exec (Stmt.For _ _ _ _ _) _) _ _ _); (k_here; (rename Fr _ _ _ _ => lF'); (with_unfolding_all refine' For_invVF lF' ?k1 ?k2 ?_; (case k1 => exact rfl); (case k2 => exact rfl); k_whole))) | (with_reducible refine ne_ss ?_) | walk1) | (leave1; try dsimp only) | fail "no step")
    unfold Stop
    k_dflt (refine' Ct.use (c_told name tn pa p q r t1 t2 t3 n1 (name_len hpot) bp bq br) ?k1 ?k2 ?k3 ?k4 ?k5 ?kK ?ks ?kr ?kp ?kd ?ku ?_; (case k1 => k_asm); (case k2 => k_asm); (case k3 => k_asm); (case k4 => k_asm); (case k5 => k_asm); (case kK => first | exact rfl | assumption); (case kd => ktr_room); (case ku => ktr_units); (case ks => exact sub1 (List.Mem.head _)); (case kr => exact rest1 (all4 (Ne.symm a1) (Ne.symm a2) (Ne.symm a3) (Ne.symm a4) (all_ent fun o ho => Ne.symm (a5 o ho)))); (case kp => trivial))
    intro v9 new9 h9 tk9 F9 N9 ap9 po9
    obtain ⟨y, ty, hT, rfl, rfl⟩ := po9
    simp only [List.cons_append, List.nil_append] at N9
    clear ap9
    obtain ⟨v0, v1, v2, hPT⟩ := pot_turn (o := ⟨pa, p, q, r, t1, t2, t3, n1⟩) hpot (by omega) ⟨bp, bq, br⟩ hb hT
    have hb1 : ∀ o ∈ ps ++ [(⟨pa, p, q, r, t1, t2, t3, n1⟩ : PObj)], (0 ≤ o.p ∧ o.p ≤ 16) ∧ (0 ≤ o.q ∧ o.q ≤ 16) ∧ (0 ≤ o.r ∧ o.r ≤ 16) := by
      intro o ho
      rcases List.mem_append.mp ho with ho | ho
      · exact hb o ho
      · rw [List.mem_singleton.mp ho]; exact ⟨bp, bq, br⟩
    have hl1 : 1 ≤ (ps ++ [(⟨pa, p, q, r, t1, t2, t3, n1⟩ : PObj)]).length ∧ (ps ++ [(⟨pa, p, q, r, t1, t2, t3, n1⟩ : PObj)]).length ≤ 10 := by simp; omega
    repeat' (first | (k_unfold; (try dsimp only)) | ((with_reducible show wpAny _ _ (call (Value.builtin "list.append") _) _ _ _); (k_here; refine Stop.go ?_)) | (k_here; (with_reducible refine gen_toks1 ?_); intro tk' htk') | (k_here; (with_reducible show wpAny _ _ (call (Value.ref _) _) _ _ _); refine Stop.go ?_) | ((with_reducible show wpAny _ _ (pyIter (Value.ref _)) _ _ _); ((with_reducible show wpAny _ _ (pyIter (Value.ref _)) (fun it s₂ => LoopAtV _ _ _ _ _ _ _ _ _ it s₂) _ _); (rename Fr _ _ _ _ => F'); (rename News _ _ _ _ => N'); with_unfolding_all refine ledger_stop rfl F' N' ?_)) | ((with_reducible show wpAny _ _ (exec (Stmt.For _ _ _ _ _) _) _ _ _); (k_here; (rename Fr _ _ _ _ => lF'); (with_unfolding_all refine' For_invVF lF' ?k1 ?k2 ?_; (case k1 => exact rfl); (case k2 => exact rfl); k_whole))) | (with_reducible refine ne_ss ?_) | walk1 | (dsimp only; first | ((with_reducible show wpAny _ _ (call (Value.builtin "list.append") _) _ _ _); (k_here; refine Stop.go ?_)) | (k_here; (with_reducible refine gen_toks1 ?_); intro tk' htk') | (k_here; (with_reducible show wpAny _ _ (call (Value.ref _) _) _ _ _); refine Stop.go ?_) | ((with_reducible show wpAny _ _ (pyIter (Value.ref _)) _ _ _); ((with_reducible show wpAny _ _ (pyIter (Value.ref _)) (fun it s₂ => LoopAtV _ _ _ _ _ _ _ _ _ it s₂) _ _); (rename Fr _ _ _ _ => F'); (rename News _ _ _ _ => N'); with_unfolding_all refine ledger_stop rfl F' N' ?_)) | ((with_reducible show wpAny _ _ (exec (Stmt.For _ _ _ _ _) _) _ _ _); (k_here; (rename Fr _ _ _ _ => lF'); (with_unfolding_all refine' For_invVF lF' ?k1 ?k2 ?_; (case k1 => exact rfl); (case k2 => exact rfl); k_whole))) | (with_reducible refine ne_ss ?_) | walk1) | (leave1; try dsimp only) | fail "no step")
    unfold Stop
    k_dflt (refine' Ct.use (c_due _ _ (ps ++ [⟨pa, p, q, r, t1, t2, t3, n1⟩]) (nn + 1) fn 0 f1 f2 s0 s1 s2 v0 v1 v2 hPT.l0 hPT.l1 hPT.l2 hPT.b0 hPT.b1 hPT.b2 (Nat.zero_le _) hPT.hf1 hPT.hf2 hl1 hb1) ?k1 ?k2 ?k3 ?k4 ?k5 ?kK ?ks ?kr ?kp ?kd ?ku ?_; (case k1 => k_asm); (case k2 => k_asm); (case k3 => k_asm); (case k4 => k_asm); (case k5 => k_asm); (case kK => first | exact rfl | assumption); (case kd => ktr_room); (case ku => ktr_units); (case ks => exact sub1 (List.Mem.tail _ (List.Mem.tail _ (List.Mem.tail _ (List.Mem.head _))))); (case kr => exact rest4 (all4 a3 (Ne.symm c2) hne.1 (Ne.symm hne.2.2) (all_ent fun o ho => (hof o ho).2))); (case kp => exact held_mk (o := ⟨pa, p, q, r, t1, t2, t3, n1⟩)))
    intro v9 new9 h9 tk9 F9 N9 ap9 po9
    obtain ⟨T, lp, y2, ty2, p0, p1, p2, u0, u1, u2, un, g1, g2, w1, w2, hD, hlf, rfl, rfl⟩ := po9
    simp only [List.cons_append, List.nil_append] at N9
    obtain rfl := hPT.same hD.txt
    obtain ⟨q0, q1, q2⟩ := hPT.parts hD.hs
    have d5 := ap9 (lp, _) (List.Mem.tail _ (List.Mem.head _))
    clear ap9
    repeat' (first | (k_unfold; (try dsimp only)) | ((with_reducible show wpAny _ _ (call (Value.builtin "list.append") _) _ _ _); (k_here; refine Stop.go ?_)) | (k_here; (with_reducible refine gen_toks1 ?_); intro tk' htk') | (k_here; (with_reducible show wpAny _ _ (call (Value.ref _) _) _ _ _); refine Stop.go ?_) | ((with_reducible show wpAny _ _ (pyIter (Value.ref _)) _ _ _); ((with_reducible show wpAny _ _ (pyIter (Value.ref _)) (fun it s₂ => LoopAtV _ _ _ _ _ _ _ _ _ it s₂) _ _); (rename Fr _ _ _ _ => F'); (rename News _ _ _ _ => N'); with_unfolding_all refine ledger_stop rfl F' N' ?_)) | ((with_reducible show wpAny _ _ (exec (Stmt.For _ _ _ _ _) _) _ _ _); (k_here; (rename Fr _ _ _ _ => lF'); (with_unfolding_all refine' For_invVF lF' ?k1 ?k2 ?_; (case k1 => exact rfl); (case k2 => exact rfl); k_whole))) | (with_reducible refine ne_ss ?_) | walk1 | (dsimp only; first | ((with_reducible show wpAny _ _ (call (Value.builtin "list.append") _) _ _ _); (k_here; refine Stop.go ?_)) | (k_here; (with_reducible refine gen_toks1 ?_); intro tk' htk') | (k_here; (with_reducible show wpAny _ _ (call (Value.ref _) _) _ _ _); refine Stop.go ?_) | ((with_reducible show wpAny _ _ (pyIter (Value.ref _)) _ _ _); ((with_reducible show wpAny _ _ (pyIter (Value.ref _)) (fun it s₂ => LoopAtV _ _ _ _ _ _ _ _ _ it s₂) _ _); (rename Fr _ _ _ _ => F'); (rename News _ _ _ _ => N'); with_unfolding_all refine ledger_stop rfl F' N' ?_)) | ((with_reducible show wpAny _ _ (exec (Stmt.For _ _ _ _ _) _) _ _ _); (k_here; (rename Fr _ _ _ _ => lF'); (with_unfolding_all refine' For_invVF lF' ?k1 ?k2 ?_; (case k1 => exact rfl); (case k2 => exact rfl); k_whole))) | (with_reducible refine ne_ss ?_) | walk1) | (leave1; try dsimp only) | fail "no step")
    unfold Stop
    k_dflt (refine' Ct.use (c_seen lp p0 p1 p2 u0 u1 u2 un q0 q1 q2) ?k1 ?k2 ?k3 ?k4 ?k5 ?kK ?ks ?kr ?kp ?kd ?ku ?_; (case k1 => k_asm); (case k2 => k_asm); (case k3 => k_asm); (case k4 => k_asm); (case k5 => k_asm); (case kK => first | exact rfl | assumption); (case kd => ktr_room); (case ku => ktr_units); (case ks => exact sub1 (List.Mem.tail _ (List.Mem.head _))); (case kr => exact rest5 (Ne.symm hlf) (fun q hq => Ne.symm (d5 q hq))); (case kp => trivial))
    intro v9 new9 h9 tk9 F9 N9 ap9 po9
    obtain ⟨rfl, rfl⟩ := po9
    simp only [List.cons_append, List.nil_append] at N9
    clear ap9
    repeat' (first | (k_unfold; (try dsimp only)) | ((with_reducible show wpAny _ _ (call (Value.builtin "list.append") _) _ _ _); (k_here; refine Stop.go ?_)) | (k_here; (with_reducible refine gen_toks1 ?_); intro tk' htk') | (k_here; (with_reducible show wpAny _ _ (call (Value.ref _) _) _ _ _); refine Stop.go ?_) | ((with_reducible show wpAny _ _ (pyIter (Value.ref _)) _ _ _); ((with_reducible show wpAny _ _ (pyIter (Value.ref _)) (fun it s₂ => LoopAtV _ _ _ _ _ _ _ _ _ it s₂) _ _); (rename Fr _ _ _ _ => F'); (rename News _ _ _ _ => N'); with_unfolding_all refine ledger_stop rfl F' N' ?_)) | ((with_reducible show wpAny _ _ (exec (Stmt.For _ _ _ _ _) _) _ _ _); (k_here; (rename Fr _ _ _ _ => lF'); (with_unfolding_all refine' For_invVF lF' ?k1 ?k2 ?_; (case k1 => exact rfl); (case k2 => exact rfl); k_whole))) | (with_reducible refine ne_ss ?_) | walk1 | (dsimp only; first | ((with_reducible show wpAny _ _ (call (Value.builtin "list.append") _) _ _ _); (k_here; refine Stop.go ?_)) | (k_here; (with_reducible refine gen_toks1 ?_); intro tk' htk') | (k_here; (with_reducible show wpAny _ _ (call (Value.ref _) _) _ _ _); refine Stop.go ?_) | ((with_reducible show wpAny _ _ (pyIter (Value.ref _)) _ _ _); ((with_reducible show wpAny _ _ (pyIter (Value.ref _)) (fun it s₂ => LoopAtV _ _ _ _ _ _ _ _ _ it s₂) _ _); (rename Fr _ _ _ _ => F'); (rename News _ _ _ _ => N'); with_unfolding_all refine ledger_stop rfl F' N' ?_)) | ((with_reducible show wpAny _ _ (exec (Stmt.For _ _ _ _ _) _) _ _ _); (k_here; (rename Fr _ _ _ _ => lF'); (with_unfolding_all refine' For_invVF lF' ?k1 ?k2 ?_; (case k1 => exact rfl); (case k2 => exact rfl); k_whole))) | (with_reducible refine ne_ss ?_) | walk1) | (leave1; try dsimp only) | fail "no step")
    dsimp only [TurnEnd]
    rename News _ _ _ _ => Ne
    refine ⟨_, _, _, _, rfl, by assumption, news_sub Ne (end_sub (o := ⟨pa, p, q, r, t1, t2, t3, n1⟩)), end_off (o := ⟨pa, p, q, r, t1, t2, t3, n1⟩) c1 c2 c3 c4 a1, List.Mem.tail _ (List.Mem.tail _ (List.Mem.head _)), _, _, ps ++ [⟨pa, p, q, r, t1, t2, t3, n1⟩], nn + 1, fn, g1, g2, s0, w1, w2, _, y, rfl, hne, ?_, ?_, rfl, rfl, rfl, ?_, hb1, hPT.next hD.fs⟩
    · intro o ho
      rcases List.mem_append.mp ho with ho | ho
      · exact hof o ho
      · rw [List.mem_singleton.mp ho]; exact ⟨a2, a3⟩
    · simp [hlen]
    · intro z n1 n2 n3 n4 n5
      simp only [if_neg n1, if_neg n2, if_neg n3, if_neg n4, if_neg n5]
  case done =>
    intro m₁ nx h tk hJ F₁ N₁
    repeat' (first | (k_unfold; (try dsimp only)) | (k_end; wrow_close) | ((with_reducible show wpAny _ _ (call (Value.builtin "list.append") _) _ _ _); (k_here; refine Stop.go ?_)) | (k_here; (with_reducible refine gen_toks1 ?_); intro tk' htk') | (k_here; (with_reducible show wpAny _ _ (call (Value.ref _) _) _ _ _); refine Stop.go ?_) | ((with_reducible show wpAny _ _ (pyIter (Value.ref _)) _ _ _); ((with_reducible show wpAny _ _ (pyIter (Value.ref _)) (fun it s₂ => LoopAtV _ _ _ _ _ _ _ _ _ it s₂) _ _); (rename Fr _ _ _ _ => F'); (rename News _ _ _ _ => N'); with_unfolding_all refine ledger_stop rfl F' N' ?_)) | ((with_reducible show wpAny _ _ (exec (Stmt.For _ _ _ _ _) _) _ _ _); (k_here; (rename Fr _ _ _ _ => lF'); (with_unfolding_all refine' For_invVF lF' ?k1 ?k2 ?_; (case k1 => exact rfl); (case k2 => exact rfl); k_whole))) | (with_reducible refine ne_ss ?_) | walk1 | (dsimp only; first | ((with_reducible show wpAny _ _ (call (Value.builtin "list.append") _) _ _ _); (k_here; refine Stop.go ?_)) | (k_here; (with_reducible refine gen_toks1 ?_); intro tk' htk') | (k_here; (with_reducible show wpAny _ _ (call (Value.ref _) _) _ _ _); refine Stop.go ?_) | ((with_reducible show wpAny _ _ (pyIter (Value.ref _)) _ _ _); ((with_reducible show wpAny _ _ (pyIter (Value.ref _)) (fun it s₂ => LoopAtV _ _ _ _ _ _ _ _ _ it s₂) _ _); (rename Fr _ _ _ _ => F'); (rename News _ _ _ _ => N'); with_unfolding_all refine ledger_stop rfl F' N' ?_)) | ((with_reducible show wpAny _ _ (exec (Stmt.For _ _ _ _ _) _) _ _ _); (k_here; (rename Fr _ _ _ _ => lF'); (with_unfolding_all refine' For_invVF lF' ?k1 ?k2 ?_; (case k1 => exact rfl); (case k2 => exact rfl); k_whole))) | (with_reducible refine ne_ss ?_) | walk1) | (leave1; try dsimp only) | fail "no step"))
end Mine
theorem PySem.Challenge.cw_pg0092_01_holds : PySem.Challenge.rw_pg0092_01.Holds :=
  Mine.law_walk
