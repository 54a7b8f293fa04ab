import PyProof.Rows.All
import Wide.All
import OpenK.AllK
import Wide.FinOn
import PySem.Challenge.RW_wb0049_01
set_option Elab.async false
set_option linter.all false
set_option linter.unusedVariables false

section
open PySem PySem.W PyProof.Rows
namespace Mine
set_option maxRecDepth 100000 in
set_option maxHeartbeats 8000000 in
open_top hd for PySem.Challenge.rw_wb0049_01
end Mine
end

section
open PySem PySem.W PyProof.Rows
open PySem.Calls PySem.Spec
namespace Mine
abbrev pw : Program := PySem.Challenge.pw_wb0049_01

theorem fill : PySem.Challenge.rw_wb0049_01 = PySem.Challenge.rw_wb0049_01 ∧ hd.heap_39 = hd.heap_39 := by
  k_fill
  exact ⟨rfl, rfl⟩

theorem enter {prog : Program} {w : World} {A : Around} {s : Shared} {K : Frag} {R : Result → Shared → Prop} {f : Addr}
    {name qual : Str} {params : Arguments} {body : List Stmt} {scope : Scope} {dV kV doc pm cdv ct oc : Value} {an od : Option Addr} {osl : Array (Option Value)} {args : Args} {binds : List (Str × Value)} (ex : List Addr)
    (hroom : A.depth < recursionLimit) (X : K.In s.heap) (hlim : s.heap.NoLimit)
    (ho : K.lookup f = some ⟨oc, od, .func (fnOf name qual params body scope dV kV doc pm an cdv ct), osl⟩) (hcd : codeIn K cdv qual = true)
    (hbind : BindsTo s (fnOf name qual params body scope dV kV doc pm an cdv ct) args binds)
    (hco : scope.isCoroutine = false) (hgen : scope.isGenerator = false) (hk : scope.kind = .function)
    (hcell : ∀ x ∈ scope.names, x.2 ≠ .cell) (hloc : ∀ x ∈ binds, scope.names.lookup x.1 = some .local)
    (h : ∀ g L h₁, g = hideAll s.heap ex → Fr g L h₁ (fun x => binds.reverse.lookup x) →
      (∀ news : List (Addr × Obj), (∀ p ∈ news, p.1 ∈ ex ∧ s.heap.get? p.1 = some p.2) → News g L h₁ news) →
      wpAny (model prog w) (A.deeper (envOf qual scope L f cdv)) (execs body (envOf qual scope L f cdv)) (fun fl s' => R (.ok (.ret (match fl with | .ret v => v | _ => .none))) s')
        (fun e s' => wpAny (model prog w) (A.deeper (envOf qual scope L f cdv)) (leaving (envOf qual scope L f cdv) e) (fun _ s'' => R (.error e) s'') (fun e' s'' => R (.error e') s'') s')
        { s with heap := h₁, toks := s.toks + binds.length }) :
    codeAny (model prog w) A (.call (.ref f) args) R s := by
  refine codeAny_call_def (fd := fnOf name qual params body scope dV kV doc pm an cdv ct) (body := body) (binds := binds) hroom (X _ _ ho) rfl hlim (codeRec_of X hcd) rfl hbind hcell hloc (fun h₁ hns hk₁ => ?_) hco hgen hk
  refine h _ _ h₁ rfl ⟨hns, fun b o e => hk₁ b o (of_hideAll _ e), Nat.le_of_eq (hideAll_size _ _)⟩ fun news hn p hp => ?_
  have q := hn p hp
  exact ⟨hk₁ _ _ q.2, Nat.ne_of_lt (Heap.lt_size q.2), hideAll_none _ q.1⟩


theorem g_load {α : Type} {M : Model} {A : Around} {E : Value → Shared → Prop} {s : Shared} {Q : α → Shared → Prop} {a : Addr} {q : Option Value} {k : Obj → Sem α} {o : Obj} (ho : s.heap.get? a = some o) (h : wpAny M A (k o) Q E s) : wpAny M A (.load a q k) Q E s :=
  wpAny_bind (m := loadPart a q) (f := k) (wpAny_loadPart ho h)
theorem g_pure {α : Type} {M : Model} {A : Around} {E : Value → Shared → Prop} {s : Shared} {Q : α → Shared → Prop} {a : α} (h : Q a s) : wpAny M A (.pure a) Q E s := wpAny_pure h
theorem binds_kw {K : Frag} {s : Shared} {fd : FuncData} {args : Args} {binds : List (Str × Value)} {T D : Addr} {o oD : Obj} {q₁ q₂ : Option Value}
    {k : Obj → Sem (List (Str × Value))} {k2 : Obj → Sem (List (Str × Value))}
    (X : K.In s.heap) (ho : K.lookup T = some o) (hD : K.lookup D = some oD)
    (h₁ : bindArgs fd args = .load T q₁ k) (h₂ : k o = .load D q₂ k2) (h₃ : k2 oD = .pure binds) : BindsTo s fd args binds :=
  fun M A E Q hq => by
    rw [h₁]
    refine g_load (X _ _ ho) ?_
    rw [h₂]
    refine g_load (X _ _ hD) ?_
    rw [h₃]
    exact g_pure hq
theorem binds_df {K : Frag} {s : Shared} {fd : FuncData} {args : Args} {binds : List (Str × Value)} {T : Addr} {o : Obj} {q₁ : Option Value}
    {k : Obj → Sem (List (Str × Value))}
    (X : K.In s.heap) (ho : K.lookup T = some o)
    (h₁ : bindArgs fd args = .load T q₁ k) (h₃ : k o = .pure binds) : BindsTo s fd args binds :=
  fun M A E Q hq => by
    rw [h₁]
    refine g_load (X _ _ ho) ?_
    rw [h₃]
    exact g_pure hq

/-- room for a call: frames, C units, no exception under way -/
structure Room (A : Around) (d u : Nat) : Prop where
  dep : A.depth + d < recursionLimit
  un : A.units + u < cLine
  hh : A.handled = none
theorem Room.le {A : Around} {d u d' u' : Nat} (h : Room A d u) (hd : d' ≤ d) (hu : u' ≤ u) : Room A d' u' := ⟨by have := h.dep; omega, by have := h.un; omega, h.hh⟩
theorem Room.deep {A : Around} {d u : Nat} {env : Env} (h : Room A (d + 1) (u + 3)) : Room (A.deeper env) d u :=
  ⟨by have := h.dep; show A.depth + 1 + d < _; omega, by have := h.un; show A.units + 3 + u < _; omega, h.hh⟩
theorem Room.in1 {A : Around} {d u : Nat} (h : Room A d (u + 1)) : Room A.in1 d u :=
  ⟨by have := h.dep; show A.depth + d < _; omega, by have := h.un; show A.units + 1 + u < _; omega, h.hh⟩

def Kept (ex : List Addr) (h h' : Heap) : Prop := ∀ b o, b ∉ ex → h.get? b = some o → h'.get? b = some o
theorem Kept.refl {ex : List Addr} {h : Heap} : Kept ex h h := fun _ _ _ e => e
theorem Kept.trans {ex : List Addr} {h h' h'' : Heap} (a : Kept ex h h') (b : Kept ex h' h'') : Kept ex h h'' := fun c o n e => b c o n (a c o n e)
theorem Kept.mono {ex ex' : List Addr} {h h' : Heap} (a : Kept ex h h') (s : ∀ x ∈ ex, x ∈ ex') : Kept ex' h h' := fun c o n e => a c o (fun q => n (s _ q)) e
theorem Kept.of_stays {ex : List Addr} {h h' : Heap} (a : h.StaysIn h') : Kept ex h h' := fun c o _ e => a c o e
theorem Kept.stays {h h' : Heap} (a : Kept [] h h') : h.StaysIn h' := fun c o e => a c o (fun q => nomatch q) e
theorem kept_of_fr {ex : List Addr} {h h' : Heap} {L : Addr} {m : Str → Option Value} (F : Fr (hideAll h ex) L h' m) : Kept ex h h' := fun b o n e => F.keep b o (hideAll_get _ e n)
theorem Kept.list {ex : List Addr} {h h' : Heap} {l : Addr} {vs : Array Value} (k : Kept ex h h') (n : l ∉ ex) (x : h.IsList l vs) : h'.IsList l vs := let ⟨o, a, r⟩ := x; ⟨o, k l o n a, r⟩

theorem Kept.fr {ex : List Addr} {g h h' : Heap} {L : Addr} {m : Str → Option Value} (k : Kept ex h h') (F : Fr g L h m) (hL : L ∉ ex) (hg : ∀ a ∈ ex, g.get? a = none) : Fr g L h' m :=
  ⟨F.ns.at fun o e => k L o hL e, fun b o e => k b o (fun q => by rw [hg b q] at e; cases e) (F.keep b o e), F.above⟩
theorem Kept.news {ex : List Addr} {g h h' : Heap} {L : Addr} {news : List (Addr × Obj)} (k : Kept ex h h') (N : News g L h news) (hn : ∀ p ∈ news, p.1 ∉ ex) : News g L h' news :=
  fun p hp => ⟨k _ _ (hn p hp) (N p hp).1, (N p hp).2⟩
/-- no object is changed: the frame and the ledger stand -/
theorem stays_fr {g h h' : Heap} {L : Addr} {m : Str → Option Value} (k : h.StaysIn h') (F : Fr g L h m) : Fr g L h' m := Kept.fr (ex := []) (Kept.of_stays k) F (fun q => nomatch q) (fun _ q => nomatch q)
theorem stays_news {g h h' : Heap} {L : Addr} {news : List (Addr × Obj)} (k : h.StaysIn h') (N : News g L h news) : News g L h' news := Kept.news (ex := []) (Kept.of_stays k) N (fun _ _ q => nomatch q)
/-- one object of the ledger is changed -/
theorem kept_one {g h h' : Heap} {L l : Addr} {m : Str → Option Value} {o o' : Obj} {pre post : List (Addr × Obj)} (k : Kept [l] h h') (F : Fr g L h m) (N : News g L h (pre ++ (l, o) :: post))
    (h1 : ∀ p ∈ pre, p.1 ≠ l) (h2 : ∀ p ∈ post, p.1 ≠ l) (e : h'.get? l = some o') : Fr g L h' m ∧ News g L h' (pre ++ (l, o') :: post) := by
  have q := N (l, o) (by simp)
  refine ⟨k.fr F (fun c => q.2.1 (List.mem_singleton.mp c).symm) (fun a ha => by rw [List.mem_singleton.mp ha]; exact q.2.2), fun p hp => ?_⟩
  rcases List.mem_append.mp hp with hp | hp
  · exact ⟨k _ _ (fun c => h1 p hp (List.mem_singleton.mp c)) (N p (List.mem_append_left _ hp)).1, (N p (List.mem_append_left _ hp)).2⟩
  · rcases List.mem_cons.mp hp with rfl | hp
    · exact ⟨e, q.2⟩
    · exact ⟨k _ _ (fun c => h2 p hp (List.mem_singleton.mp c)) (N p (List.mem_append_right _ (.tail _ hp))).1, (N p (List.mem_append_right _ (.tail _ hp))).2⟩

theorem lookup_fd {K : Frag} {f : Addr} {oc oc' : Value} {od od' : Option Addr} {osl osl' : Array (Option Value)} {fd fd' : FuncData} (a : K.lookup f = some ⟨oc, od, .func fd, osl⟩) (b : K.lookup f = some ⟨oc', od', .func fd', osl'⟩) : fd = fd' := by
  have e := a.symm.trans b
  injection e with e
  injection e with e1 e2 e3 e4
  injection e3

/-- how the arguments are bound, whatever spelling of the def -/
def Binds (K : Frag) (f : Addr) (s : Shared) (args : Args) (binds : List (Str × Value)) : Prop :=
  ∀ oc od fd osl, K.lookup f = some ⟨oc, od, .func fd, osl⟩ → BindsTo s fd args binds

section
variable {prog : Program} {w : World} {A : Around} {E : Value → Shared → Prop} {Q : Flow → Shared → Prop} {s : Shared} {env : Env} {g : Heap} {L : Addr}
/-- a while by an invariant J over the frame's map and the ledger, n falls -/
def WEnd (g : Heap) (L : Addr) (s : Shared) (J : Nat → (Str → Option Value) → List (Addr × Obj) → Prop) (Q : Flow → Shared → Prop) (n : Nat) (f : Flow) (s₃ : Shared) : Prop := WhileStep2 g L s J Q n f s₃
end

/-- positions -/
structure PosR (f : Int → Int) (ns : List Int) (x : Int) (r : Nat) : Prop where
  le : r ≤ ns.length
  lo : ∀ j, j < r → f (ns.getD j 0) ≤ x
  hi : ∀ j, r ≤ j → j < ns.length → x < f (ns.getD j 0)
structure PosL (f : Int → Int) (ns : List Int) (x : Int) (r : Nat) : Prop where
  le : r ≤ ns.length
  lo : ∀ j, j < r → f (ns.getD j 0) < x
  hi : ∀ j, r ≤ j → j < ns.length → x ≤ f (ns.getD j 0)
/-- laid in order by f -/
def Ord (f : Int → Int) (ns : List Int) : Prop := ∀ i j, i ≤ j → j < ns.length → f (ns.getD i 0) ≤ f (ns.getD j 0)

end Mine
end

section
open PySem PySem.W PyProof.Rows
open PySem.Calls PySem.Spec
namespace Mine
theorem mid_ok {lo hi : Int} (h0 : 0 ≤ lo) (h : lo < hi) : lo ≤ (lo + hi).fdiv 2 ∧ (lo + hi).fdiv 2 < hi := by
  rw [Int.fdiv_eq_ediv_of_nonneg _ (by decide)]
  omega
theorem posR_hi {f : Int → Int} {ns : List Int} {x : Int} {m : Nat} (hs : Ord f ns) (h : x < f (ns.getD m 0)) : ∀ j : Nat, m ≤ j → j < ns.length → x < f (ns.getD j 0) := fun j a b => Int.lt_of_lt_of_le h (hs m j a b)
theorem posR_lo {f : Int → Int} {ns : List Int} {x : Int} {m : Nat} (hs : Ord f ns) (hm : m < ns.length) (h : ¬ x < f (ns.getD m 0)) : ∀ j : Nat, j < m + 1 → f (ns.getD j 0) ≤ x := fun j a => Int.le_trans (hs j m (by omega) hm) (by omega)
theorem posL_lo {f : Int → Int} {ns : List Int} {x : Int} {m : Nat} (hs : Ord f ns) (hm : m < ns.length) (h : f (ns.getD m 0) < x) : ∀ j : Nat, j < m + 1 → f (ns.getD j 0) < x := fun j a => Int.lt_of_le_of_lt (hs j m (by omega) hm) h
theorem posL_hi {f : Int → Int} {ns : List Int} {x : Int} {m : Nat} (hs : Ord f ns) (h : ¬ f (ns.getD m 0) < x) : ∀ j : Nat, m ≤ j → j < ns.length → x ≤ f (ns.getD j 0) := fun j a b => Int.le_trans (by omega) (hs m j a b)

/-- the whiles' word -/
structure BW (P Z : Int → Prop) (f : Int → Int) (ns : List Int) (lo hi : Int) : Prop where
  h0 : 0 ≤ lo
  h1 : lo ≤ hi
  h2 : hi ≤ ns.length
  lo : ∀ j : Nat, (j : Int) < lo → P (f (ns.getD j 0))
  hi : ∀ j : Nat, hi ≤ (j : Int) → j < ns.length → Z (f (ns.getD j 0))
theorem BW.start {P Z : Int → Prop} {f : Int → Int} {ns : List Int} : BW P Z f ns 0 ns.length :=
  ⟨by omega, by omega, by omega, fun j a => absurd a (by omega), fun j a b => absurd a (by omega)⟩
theorem BW.right {f : Int → Int} {ns : List Int} {x lo hi : Int} (W : BW (· ≤ x) (x < ·) f ns lo hi) (h : ¬ lo < hi) : PosR f ns x lo.toNat := by
  have := W.h0; have := W.h1; have := W.h2
  exact ⟨by omega, fun j a => W.lo j (by omega), fun j a b => W.hi j (by omega) b⟩
theorem BW.left {f : Int → Int} {ns : List Int} {x lo hi : Int} (W : BW (· < x) (x ≤ ·) f ns lo hi) (h : ¬ lo < hi) : PosL f ns x lo.toNat := by
  have := W.h0; have := W.h1; have := W.h2
  exact ⟨by omega, fun j a => W.lo j (by omega), fun j a b => W.hi j (by omega) b⟩
theorem BW.downR {f : Int → Int} {ns : List Int} {x lo hi : Int} (hs : Ord f ns) (W : BW (· ≤ x) (x < ·) f ns lo hi) (h : lo < hi) (c : x < f (ns.getD ((lo + hi).fdiv 2).toNat 0)) : BW (· ≤ x) (x < ·) f ns lo ((lo + hi).fdiv 2) := by
  have m := mid_ok W.h0 h; have := W.h0; have := W.h2
  exact ⟨W.h0, m.1, by omega, W.lo, fun j a b => posR_hi hs c j (by omega) b⟩
theorem BW.upR {f : Int → Int} {ns : List Int} {x lo hi : Int} (hs : Ord f ns) (W : BW (· ≤ x) (x < ·) f ns lo hi) (h : lo < hi) (c : ¬ x < f (ns.getD ((lo + hi).fdiv 2).toNat 0)) : BW (· ≤ x) (x < ·) f ns ((lo + hi).fdiv 2 + 1) hi := by
  have m := mid_ok W.h0 h; have := W.h0; have := W.h2
  exact ⟨by omega, by omega, W.h2, fun j a => posR_lo hs (by omega) c j (by omega), W.hi⟩
theorem BW.upL {f : Int → Int} {ns : List Int} {x lo hi : Int} (hs : Ord f ns) (W : BW (· < x) (x ≤ ·) f ns lo hi) (h : lo < hi) (c : f (ns.getD ((lo + hi).fdiv 2).toNat 0) < x) : BW (· < x) (x ≤ ·) f ns ((lo + hi).fdiv 2 + 1) hi := by
  have m := mid_ok W.h0 h; have := W.h0; have := W.h2
  exact ⟨by omega, by omega, W.h2, fun j a => posL_lo hs (by omega) c j (by omega), W.hi⟩
theorem BW.downL {f : Int → Int} {ns : List Int} {x lo hi : Int} (hs : Ord f ns) (W : BW (· < x) (x ≤ ·) f ns lo hi) (h : lo < hi) (c : ¬ f (ns.getD ((lo + hi).fdiv 2).toNat 0) < x) : BW (· < x) (x ≤ ·) f ns lo ((lo + hi).fdiv 2) := by
  have m := mid_ok W.h0 h; have := W.h0; have := W.h2
  exact ⟨W.h0, m.1, by omega, W.lo, fun j a b => posL_hi hs c j (by omega) b⟩
theorem BW.less {P Z : Int → Prop} {f : Int → Int} {ns : List Int} {lo hi : Int} (W : BW P Z f ns lo hi) (h : lo < hi) : ((lo + hi).fdiv 2 - lo).toNat < (hi - lo).toNat ∧ (hi - ((lo + hi).fdiv 2 + 1)).toNat < (hi - lo).toNat := by
  have m := mid_ok W.h0 h
  omega

/-- a key function at k, in every heap where ok holds -/
structure KeyOk (w : World) (ok : Heap → Prop) (k : Addr) (kf : Int → Int) (dom : Int → Prop) : Prop where
  stays : ∀ h h', ok h → h.StaysIn h' → ok h'
  looks : ∀ (M : Model) h, ok h → ∃ kp, (kp = Keeper.frame ∨ kp = Keeper.machine ∨ kp = Keeper.boundFrame) ∧ Looks M h (keeperOf (.ref k)) kp
  call : ∀ (A : Around) (s : Shared) (Q E : Value → Shared → Prop) (p : Int) (t : Tok), Room A 1 20 → ok s.heap → dom p →
    (∀ h' tk t', s.heap.StaysIn h' → Q (.int (kf p) t') { s with heap := h', toks := tk }) → wpAny (model pw w) A (call (.ref k) [.int p t] []) Q E s

theorem callWith_key {w : World} {ok : Heap → Prop} {k : Addr} {kf : Int → Int} {dom : Int → Prop} {A : Around} {E : Value → Shared → Prop} {s : Shared} {env : Env} {pos : Pos} {Q : Value → Shared → Prop} {e : Expr} {rest : List Expr}
    (KO : KeyOk w ok k kf dom)
    (h : wpAny (model pw w) A (spliced (backTo pos (starEach (e :: rest) env))) (fun vs s₁ => ok s₁.heap ∧ wpAny (model pw w) A (call (.ref k) vs) Q E s₁) E s)
    (he : starEach (e :: rest) env = (false, eval e env) :: starEach rest env := by rfl) (hplain : (backTo pos (starEach rest env)).any (·.1) = false := by rfl) :
    wpAny (model pw w) A (callWith pos (.ref k) [] (backTo pos (starEach (e :: rest) env)) []) Q E s := by
  rw [he] at h ⊢
  exact callWith_of (P := ok) (by show ((false || (backTo pos (starEach rest env)).any (·.1)) || false) = false; rw [hplain]; rfl) (fun h p => KO.looks _ h p) (evalArgs_plain h)

end Mine
end

section
open PySem PySem.W PyProof.Rows
open PySem.Calls PySem.Spec
namespace Mine

set_option maxRecDepth 100000 in
set_option maxHeartbeats 4000000 in
theorem br_call {w : World} {loose : List Str} {mean : ExcName → Option Value} {mg mb : Str → Option Value} {A : Around} {s : Shared} {Q E : Value → Shared → Prop} {l : Addr} {vs : List Value} {ns : List Int} {x : Int} {tx t0 : Tok} {args : Args}
    (X : (hd.heap_39 w.params).In s.heap) (T : Top topProg loose mean mg mb s.heap) (R : Room A 2 40)
    (hB : Binds (hd.heap_39 w.params) 32 s args [("a", .ref l), ("x", .int x tx), ("lo", .int 0 t0), ("hi", .none), ("key", .none)])
    (hl : s.heap.IsList l vs.toArray) (hi : IntsAre vs ns) (hn : ns.length < 2 ^ 30) (hs : Ord id ns)
    (hQ : ∀ (r : Nat) (h' : Heap) (tk : Nat) (t : Tok), PosR id ns x r → s.heap.StaysIn h' → Q (.int r t) { s with heap := h', toks := tk }) :
    wpAny (model pw w) A (call (.ref 32) args.pos args.kw) Q E s := by
  refine wpAny_call ?_
  refine' enter (binds := [("a", .ref l), ("x", .int x tx), ("lo", .int 0 t0), ("hi", .none), ("key", .none)]) [] ?hroom X T.nolimit ?ho ?hcd ?hbind ?hco ?hgen ?hk ?hcell ?hloc ?_
  case hroom => exact (R.le (d' := 0) (u' := 0) (Nat.zero_le _) (Nat.zero_le _)).dep
  case ho => k_is
  case hcd => k_is
  case hbind => exact hB _ _ _ _ (by k_is)
  case hco => rfl
  case hgen => rfl
  case hk => rfl
  case hcell => decide
  case hloc => exact locs rfl
  intro g L h₁ hg F HN
  have hgs : g = s.heap := hg
  subst hgs
  have N := HN [] (by intro p hp; cases hp)
  clear HN hg hB
  try dsimp only [List.reverse, List.reverseAux] at F
  try dsimp only
  show wpAny _ _ _ _ _ _
  k_fold
  repeat' ((fail_if_success (with_reducible show wpAny _ _ (exec (Stmt.While _ _ _ _) _) _ _ _)); (first | walk1 | (dsimp only; walk1)))
  rename Fr _ _ _ _ => F2
  rename News _ _ _ _ => N2
  refine' ksw_while (σ := Int × Int × Tok × Tok) (fun _ => []) (fun c => [("lo", .int c.1 c.2.2.1), ("hi", .int c.2.1 c.2.2.2)]) (fun _ => True) ["mid"] (fun c => BW (· ≤ x) (x < ·) id ns c.1 c.2.1) (fun c => (c.2.1 - c.1).toNat) (0, ns.length, ?t1, ?t2) F2 N2 trivial ?kk ?kp ?turn
  case kk => kst_all
  case kp => exact BW.start
  case turn =>
    rintro ⟨lo, hi', tl, th⟩ u h tk - W F3 N3
    dsimp only at W
    dsimp only [kstB] at F3
    have h0 := W.h0
    have h1 := W.h1
    have h2 := W.h2
    show wpAny _ _ _ _ _ _
    k_fold
    repeat' (first
      | walk1 | (dsimp only; walk1))
    · rename _ < List.getD _ _ _ => hc
      rename lo < hi' => hlt
      rename Fr _ _ _ _ => F4
      rename News _ _ _ _ => N4
      exact ksw_end (lo, (lo + hi').fdiv 2, _, _) F4 N4 (fun _ h => nomatch h) trivial (by kst_all) (by ksw_same) (W.downR hs hlt hc) (W.less hlt).1
    · rename ¬ (_ < List.getD _ _ _) => hc
      rename lo < hi' => hlt
      rename Fr _ _ _ _ => F4
      rename News _ _ _ _ => N4
      exact ksw_end ((lo + hi').fdiv 2 + 1, hi', _, _) F4 N4 (fun _ h => nomatch h) trivial (by kst_all) (by ksw_same) (W.upR hs hlt hc) (W.less hlt).2
    · rename ¬ (lo < hi') => hlt
      rename Fr _ _ _ _ => F4
      have q := hQ lo.toNat _ tk tl (W.right hlt) F4.keep
      rw [Int.toNat_of_nonneg h0] at q
      exact q

set_option maxRecDepth 100000 in
set_option maxHeartbeats 4000000 in
theorem bl_call {w : World} {loose : List Str} {mean : ExcName → Option Value} {mg mb : Str → Option Value} {A : Around} {s : Shared} {Q E : Value → Shared → Prop} {l : Addr} {vs : List Value} {ns : List Int} {x : Int} {tx t0 : Tok} {args : Args}
    (X : (hd.heap_39 w.params).In s.heap) (T : Top topProg loose mean mg mb s.heap) (R : Room A 2 40)
    (hB : Binds (hd.heap_39 w.params) 50 s args [("a", .ref l), ("x", .int x tx), ("lo", .int 0 t0), ("hi", .none), ("key", .none)])
    (hl : s.heap.IsList l vs.toArray) (hi : IntsAre vs ns) (hn : ns.length < 2 ^ 30) (hs : Ord id ns)
    (hQ : ∀ (r : Nat) (h' : Heap) (tk : Nat) (t : Tok), PosL id ns x r → s.heap.StaysIn h' → Q (.int r t) { s with heap := h', toks := tk }) :
    wpAny (model pw w) A (call (.ref 50) args.pos args.kw) Q E s := by
  refine wpAny_call ?_
  refine' enter (binds := [("a", .ref l), ("x", .int x tx), ("lo", .int 0 t0), ("hi", .none), ("key", .none)]) [] ?hroom X T.nolimit ?ho ?hcd ?hbind ?hco ?hgen ?hk ?hcell ?hloc ?_
  case hroom => exact (R.le (d' := 0) (u' := 0) (Nat.zero_le _) (Nat.zero_le _)).dep
  case ho => k_is
  case hcd => k_is
  case hbind => exact hB _ _ _ _ (by k_is)
  case hco => rfl
  case hgen => rfl
  case hk => rfl
  case hcell => decide
  case hloc => exact locs rfl
  intro g L h₁ hg F HN
  have hgs : g = s.heap := hg
  subst hgs
  have N := HN [] (by intro p hp; cases hp)
  clear HN hg hB
  try dsimp only [List.reverse, List.reverseAux] at F
  try dsimp only
  show wpAny _ _ _ _ _ _
  k_fold
  repeat' ((fail_if_success (with_reducible show wpAny _ _ (exec (Stmt.While _ _ _ _) _) _ _ _)); (first | walk1 | (dsimp only; walk1)))
  rename Fr _ _ _ _ => F2
  rename News _ _ _ _ => N2
  refine' ksw_while (σ := Int × Int × Tok × Tok) (fun _ => []) (fun c => [("lo", .int c.1 c.2.2.1), ("hi", .int c.2.1 c.2.2.2)]) (fun _ => True) ["mid"] (fun c => BW (· < x) (x ≤ ·) id ns c.1 c.2.1) (fun c => (c.2.1 - c.1).toNat) (0, ns.length, ?t1, ?t2) F2 N2 trivial ?kk ?kp ?turn
  case kk => kst_all
  case kp => exact BW.start
  case turn =>
    rintro ⟨lo, hi', tl, th⟩ u h tk - W F3 N3
    dsimp only at W
    dsimp only [kstB] at F3
    have h0 := W.h0
    have h1 := W.h1
    have h2 := W.h2
    show wpAny _ _ _ _ _ _
    k_fold
    repeat' (first
      | walk1 | (dsimp only; walk1))
    · rename List.getD _ _ _ < _ => hc
      rename lo < hi' => hlt
      rename Fr _ _ _ _ => F4
      rename News _ _ _ _ => N4
      exact ksw_end ((lo + hi').fdiv 2 + 1, hi', _, _) F4 N4 (fun _ h => nomatch h) trivial (by kst_all) (by ksw_same) (W.upL hs hlt hc) (W.less hlt).2
    · rename ¬ (List.getD _ _ _ < _) => hc
      rename lo < hi' => hlt
      rename Fr _ _ _ _ => F4
      rename News _ _ _ _ => N4
      exact ksw_end (lo, (lo + hi').fdiv 2, _, _) F4 N4 (fun _ h => nomatch h) trivial (by kst_all) (by ksw_same) (W.downL hs hlt hc) (W.less hlt).1
    · rename ¬ (lo < hi') => hlt
      rename Fr _ _ _ _ => F4
      have q := hQ lo.toNat _ tk tl (W.left hlt) F4.keep
      rw [Int.toNat_of_nonneg h0] at q
      exact q

set_option maxRecDepth 100000 in
set_option maxHeartbeats 4000000 in
theorem brk_call {w : World} {loose : List Str} {mean : ExcName → Option Value} {mg mb : Str → Option Value} {A : Around} {s : Shared} {Q E : Value → Shared → Prop} {l : Addr} {vs : List Value} {ns : List Int} {x : Int} {tx t0 : Tok} {args : Args}
    {ok : Heap → Prop} {k : Addr} {kf : Int → Int} {dom : Int → Prop} (KO : KeyOk w ok k kf dom) (hok : ok s.heap) (hdom : ∀ j : Nat, j < ns.length → dom (ns.getD j 0))
    (X : (hd.heap_39 w.params).In s.heap) (T : Top topProg loose mean mg mb s.heap) (R : Room A 2 40)
    (hB : Binds (hd.heap_39 w.params) 32 s args [("a", .ref l), ("x", .int x tx), ("lo", .int 0 t0), ("hi", .none), ("key", .ref k)])
    (hl : s.heap.IsList l vs.toArray) (hi : IntsAre vs ns) (hn : ns.length < 2 ^ 30) (hs : Ord kf ns)
    (hQ : ∀ (r : Nat) (h' : Heap) (tk : Nat) (t : Tok), PosR kf ns x r → s.heap.StaysIn h' → Q (.int r t) { s with heap := h', toks := tk }) :
    wpAny (model pw w) A (call (.ref 32) args.pos args.kw) Q E s := by
  refine wpAny_call ?_
  refine' enter (binds := [("a", .ref l), ("x", .int x tx), ("lo", .int 0 t0), ("hi", .none), ("key", .ref k)]) [] ?hroom X T.nolimit ?ho ?hcd ?hbind ?hco ?hgen ?hk ?hcell ?hloc ?_
  case hroom => exact (R.le (d' := 0) (u' := 0) (Nat.zero_le _) (Nat.zero_le _)).dep
  case ho => k_is
  case hcd => k_is
  case hbind => exact hB _ _ _ _ (by k_is)
  case hco => rfl
  case hgen => rfl
  case hk => rfl
  case hcell => decide
  case hloc => exact locs rfl
  intro g L h₁ hg F HN
  have hgs : g = s.heap := hg
  subst hgs
  have N := HN [] (by intro p hp; cases hp)
  clear HN hg hB
  try dsimp only [List.reverse, List.reverseAux] at F
  try dsimp only
  show wpAny _ _ _ _ _ _
  k_fold
  repeat' ((fail_if_success (with_reducible show wpAny _ _ (exec (Stmt.While _ _ _ _) _) _ _ _)); (first | walk1 | (dsimp only; walk1)))
  rename Fr _ _ _ _ => F2
  rename News _ _ _ _ => N2
  refine' ksw_while (σ := Int × Int × Tok × Tok) (fun _ => []) (fun c => [("lo", .int c.1 c.2.2.1), ("hi", .int c.2.1 c.2.2.2)]) (fun _ => True) ["mid"] (fun c => BW (· ≤ x) (x < ·) kf ns c.1 c.2.1) (fun c => (c.2.1 - c.1).toNat) (0, ns.length, ?t1, ?t2) F2 N2 trivial ?kk ?kp ?turn
  case kk => kst_all
  case kp => exact BW.start
  case turn =>
    rintro ⟨lo, hi', tl, th⟩ u h tk - W F3 N3
    dsimp only at W
    dsimp only [kstB] at F3
    have h0 := W.h0
    have h1 := W.h1
    have h2 := W.h2
    show wpAny _ _ _ _ _ _
    k_fold
    repeat' (first
      | ((with_reducible show wpAny _ _ (callWith _ (Value.ref k) _ _ _) _ _ _); refine callWith_key KO ?_)
      | ((with_reducible show ok _ ∧ _); refine ⟨KO.stays _ _ hok (Fr.keep (by assumption)), ?_⟩)
      | ((with_reducible show wpAny _ _ (call (Value.ref k) _ _) _ _ _); rename Fr _ _ _ _ => F5; rename News _ _ _ _ => N5; refine KO.call _ _ _ _ _ _ (Room.deep (R.le (by decide) (by decide))) (KO.stays _ _ hok F5.keep) (hdom _ (by have := mid_ok h0 (by assumption); omega)) ?_; intro h6 tk6 t6 st6; replace F5 := stays_fr st6 F5; replace N5 := stays_news st6 N5)
      | walk1 | (dsimp only; walk1))
    · rename _ < kf _ => hc
      rename lo < hi' => hlt
      rename Fr _ _ _ _ => F4
      rename News _ _ _ _ => N4
      exact ksw_end (lo, (lo + hi').fdiv 2, _, _) F4 N4 (fun _ h => nomatch h) trivial (by kst_all) (by ksw_same) (W.downR hs hlt hc) (W.less hlt).1
    · rename ¬ (_ < kf _) => hc
      rename lo < hi' => hlt
      rename Fr _ _ _ _ => F4
      rename News _ _ _ _ => N4
      exact ksw_end ((lo + hi').fdiv 2 + 1, hi', _, _) F4 N4 (fun _ h => nomatch h) trivial (by kst_all) (by ksw_same) (W.upR hs hlt hc) (W.less hlt).2
    · rename ¬ (lo < hi') => hlt
      rename Fr _ _ _ _ => F4
      have q := hQ lo.toNat _ tk tl (W.right hlt) F4.keep
      rw [Int.toNat_of_nonneg h0] at q
      exact q

set_option maxRecDepth 100000 in
set_option maxHeartbeats 4000000 in
theorem blk_call {w : World} {loose : List Str} {mean : ExcName → Option Value} {mg mb : Str → Option Value} {A : Around} {s : Shared} {Q E : Value → Shared → Prop} {l : Addr} {vs : List Value} {ns : List Int} {x : Int} {tx t0 : Tok} {args : Args}
    {ok : Heap → Prop} {k : Addr} {kf : Int → Int} {dom : Int → Prop} (KO : KeyOk w ok k kf dom) (hok : ok s.heap) (hdom : ∀ j : Nat, j < ns.length → dom (ns.getD j 0))
    (X : (hd.heap_39 w.params).In s.heap) (T : Top topProg loose mean mg mb s.heap) (R : Room A 2 40)
    (hB : Binds (hd.heap_39 w.params) 50 s args [("a", .ref l), ("x", .int x tx), ("lo", .int 0 t0), ("hi", .none), ("key", .ref k)])
    (hl : s.heap.IsList l vs.toArray) (hi : IntsAre vs ns) (hn : ns.length < 2 ^ 30) (hs : Ord kf ns)
    (hQ : ∀ (r : Nat) (h' : Heap) (tk : Nat) (t : Tok), PosL kf ns x r → s.heap.StaysIn h' → Q (.int r t) { s with heap := h', toks := tk }) :
    wpAny (model pw w) A (call (.ref 50) args.pos args.kw) Q E s := by
  refine wpAny_call ?_
  refine' enter (binds := [("a", .ref l), ("x", .int x tx), ("lo", .int 0 t0), ("hi", .none), ("key", .ref k)]) [] ?hroom X T.nolimit ?ho ?hcd ?hbind ?hco ?hgen ?hk ?hcell ?hloc ?_
  case hroom => exact (R.le (d' := 0) (u' := 0) (Nat.zero_le _) (Nat.zero_le _)).dep
  case ho => k_is
  case hcd => k_is
  case hbind => exact hB _ _ _ _ (by k_is)
  case hco => rfl
  case hgen => rfl
  case hk => rfl
  case hcell => decide
  case hloc => exact locs rfl
  intro g L h₁ hg F HN
  have hgs : g = s.heap := hg
  subst hgs
  have N := HN [] (by intro p hp; cases hp)
  clear HN hg hB
  try dsimp only [List.reverse, List.reverseAux] at F
  try dsimp only
  show wpAny _ _ _ _ _ _
  k_fold
  repeat' ((fail_if_success (with_reducible show wpAny _ _ (exec (Stmt.While _ _ _ _) _) _ _ _)); (first | walk1 | (dsimp only; walk1)))
  rename Fr _ _ _ _ => F2
  rename News _ _ _ _ => N2
  refine' ksw_while (σ := Int × Int × Tok × Tok) (fun _ => []) (fun c => [("lo", .int c.1 c.2.2.1), ("hi", .int c.2.1 c.2.2.2)]) (fun _ => True) ["mid"] (fun c => BW (· < x) (x ≤ ·) kf ns c.1 c.2.1) (fun c => (c.2.1 - c.1).toNat) (0, ns.length, ?t1, ?t2) F2 N2 trivial ?kk ?kp ?turn
  case kk => kst_all
  case kp => exact BW.start
  case turn =>
    rintro ⟨lo, hi', tl, th⟩ u h tk - W F3 N3
    dsimp only at W
    dsimp only [kstB] at F3
    have h0 := W.h0
    have h1 := W.h1
    have h2 := W.h2
    show wpAny _ _ _ _ _ _
    k_fold
    repeat' (first
      | ((with_reducible show wpAny _ _ (callWith _ (Value.ref k) _ _ _) _ _ _); refine callWith_key KO ?_)
      | ((with_reducible show ok _ ∧ _); refine ⟨KO.stays _ _ hok (Fr.keep (by assumption)), ?_⟩)
      | ((with_reducible show wpAny _ _ (call (Value.ref k) _ _) _ _ _); rename Fr _ _ _ _ => F5; rename News _ _ _ _ => N5; refine KO.call _ _ _ _ _ _ (Room.deep (R.le (by decide) (by decide))) (KO.stays _ _ hok F5.keep) (hdom _ (by have := mid_ok h0 (by assumption); omega)) ?_; intro h6 tk6 t6 st6; replace F5 := stays_fr st6 F5; replace N5 := stays_news st6 N5)
      | walk1 | (dsimp only; walk1))
    · rename kf _ < _ => hc
      rename lo < hi' => hlt
      rename Fr _ _ _ _ => F4
      rename News _ _ _ _ => N4
      exact ksw_end ((lo + hi').fdiv 2 + 1, hi', _, _) F4 N4 (fun _ h => nomatch h) trivial (by kst_all) (by ksw_same) (W.upL hs hlt hc) (W.less hlt).2
    · rename ¬ (kf _ < _) => hc
      rename lo < hi' => hlt
      rename Fr _ _ _ _ => F4
      rename News _ _ _ _ => N4
      exact ksw_end (lo, (lo + hi').fdiv 2, _, _) F4 N4 (fun _ h => nomatch h) trivial (by kst_all) (by ksw_same) (W.downL hs hlt hc) (W.less hlt).1
    · rename ¬ (lo < hi') => hlt
      rename Fr _ _ _ _ => F4
      have q := hQ lo.toNat _ tk tl (W.left hlt) F4.keep
      rw [Int.toNat_of_nonneg h0] at q
      exact q
end Mine
end

section
open PySem PySem.W PyProof.Rows
open PySem.Calls PySem.Spec
namespace Mine

set_option maxRecDepth 100000 in
theorem binds_ir2 {w : World} {s : Shared} {va vx : Value} (X : (hd.heap_39 w.params).In s.heap) : Binds (hd.heap_39 w.params) 23 s ⟨[va, vx], []⟩ [("a", va), ("x", vx), ("lo", .int 0 189), ("hi", .none), ("key", .none)] := by
  intro oc od fd osl h
  obtain rfl := lookup_fd h (show _ = some _ by k_is)
  refine' binds_kw (T := 15) (D := 16) X ?a1 ?a2 ?a3 ?a4 ?a5
  case a1 => k_is
  case a2 => k_is
  case a3 => with_unfolding_all rfl
  case a4 => with_unfolding_all rfl
  case a5 => with_unfolding_all rfl
set_option maxRecDepth 100000 in
theorem binds_ir2k {w : World} {s : Shared} {va vx vk : Value} (X : (hd.heap_39 w.params).In s.heap) : Binds (hd.heap_39 w.params) 23 s ⟨[va, vx], [("key", vk)]⟩ [("a", va), ("x", vx), ("lo", .int 0 189), ("hi", .none), ("key", vk)] := by
  intro oc od fd osl h
  obtain rfl := lookup_fd h (show _ = some _ by k_is)
  refine' binds_df (T := 15) X ?a1 ?a3 ?a5
  case a1 => k_is
  case a3 => with_unfolding_all rfl
  case a5 => with_unfolding_all rfl
set_option maxRecDepth 100000 in
theorem binds_br4 {w : World} {s : Shared} {va vx vlo vhi : Value} (X : (hd.heap_39 w.params).In s.heap) : Binds (hd.heap_39 w.params) 32 s ⟨[va, vx, vlo, vhi], []⟩ [("a", va), ("x", vx), ("lo", vlo), ("hi", vhi), ("key", .none)] := by
  intro oc od fd osl h
  obtain rfl := lookup_fd h (show _ = some _ by k_is)
  refine' binds_kw (T := 24) (D := 25) X ?a1 ?a2 ?a3 ?a4 ?a5
  case a1 => k_is
  case a2 => k_is
  case a3 => with_unfolding_all rfl
  case a4 => with_unfolding_all rfl
  case a5 => with_unfolding_all rfl
set_option maxRecDepth 100000 in
theorem binds_br4k {w : World} {s : Shared} {va vx vlo vhi vk : Value} (X : (hd.heap_39 w.params).In s.heap) : Binds (hd.heap_39 w.params) 32 s ⟨[va, vx, vlo, vhi], [("key", vk)]⟩ [("a", va), ("x", vx), ("lo", vlo), ("hi", vhi), ("key", vk)] := by
  intro oc od fd osl h
  obtain rfl := lookup_fd h (show _ = some _ by k_is)
  refine' binds_df (T := 24) X ?a1 ?a3 ?a5
  case a1 => k_is
  case a3 => with_unfolding_all rfl
  case a5 => with_unfolding_all rfl
set_option maxRecDepth 100000 in
theorem binds_br2 {w : World} {s : Shared} {va vx : Value} (X : (hd.heap_39 w.params).In s.heap) : Binds (hd.heap_39 w.params) 32 s ⟨[va, vx], []⟩ [("a", va), ("x", vx), ("lo", .int 0 202), ("hi", .none), ("key", .none)] := by
  intro oc od fd osl h
  obtain rfl := lookup_fd h (show _ = some _ by k_is)
  refine' binds_kw (T := 24) (D := 25) X ?a1 ?a2 ?a3 ?a4 ?a5
  case a1 => k_is
  case a2 => k_is
  case a3 => with_unfolding_all rfl
  case a4 => with_unfolding_all rfl
  case a5 => with_unfolding_all rfl
set_option maxRecDepth 100000 in
theorem binds_il2 {w : World} {s : Shared} {va vx : Value} (X : (hd.heap_39 w.params).In s.heap) : Binds (hd.heap_39 w.params) 41 s ⟨[va, vx], []⟩ [("a", va), ("x", vx), ("lo", .int 0 216), ("hi", .none), ("key", .none)] := by
  intro oc od fd osl h
  obtain rfl := lookup_fd h (show _ = some _ by k_is)
  refine' binds_kw (T := 33) (D := 34) X ?a1 ?a2 ?a3 ?a4 ?a5
  case a1 => k_is
  case a2 => k_is
  case a3 => with_unfolding_all rfl
  case a4 => with_unfolding_all rfl
  case a5 => with_unfolding_all rfl
set_option maxRecDepth 100000 in
theorem binds_il2k {w : World} {s : Shared} {va vx vk : Value} (X : (hd.heap_39 w.params).In s.heap) : Binds (hd.heap_39 w.params) 41 s ⟨[va, vx], [("key", vk)]⟩ [("a", va), ("x", vx), ("lo", .int 0 216), ("hi", .none), ("key", vk)] := by
  intro oc od fd osl h
  obtain rfl := lookup_fd h (show _ = some _ by k_is)
  refine' binds_df (T := 33) X ?a1 ?a3 ?a5
  case a1 => k_is
  case a3 => with_unfolding_all rfl
  case a5 => with_unfolding_all rfl
set_option maxRecDepth 100000 in
theorem binds_bl4 {w : World} {s : Shared} {va vx vlo vhi : Value} (X : (hd.heap_39 w.params).In s.heap) : Binds (hd.heap_39 w.params) 50 s ⟨[va, vx, vlo, vhi], []⟩ [("a", va), ("x", vx), ("lo", vlo), ("hi", vhi), ("key", .none)] := by
  intro oc od fd osl h
  obtain rfl := lookup_fd h (show _ = some _ by k_is)
  refine' binds_kw (T := 42) (D := 43) X ?a1 ?a2 ?a3 ?a4 ?a5
  case a1 => k_is
  case a2 => k_is
  case a3 => with_unfolding_all rfl
  case a4 => with_unfolding_all rfl
  case a5 => with_unfolding_all rfl
set_option maxRecDepth 100000 in
theorem binds_bl4k {w : World} {s : Shared} {va vx vlo vhi vk : Value} (X : (hd.heap_39 w.params).In s.heap) : Binds (hd.heap_39 w.params) 50 s ⟨[va, vx, vlo, vhi], [("key", vk)]⟩ [("a", va), ("x", vx), ("lo", vlo), ("hi", vhi), ("key", vk)] := by
  intro oc od fd osl h
  obtain rfl := lookup_fd h (show _ = some _ by k_is)
  refine' binds_df (T := 42) X ?a1 ?a3 ?a5
  case a1 => k_is
  case a3 => with_unfolding_all rfl
  case a5 => with_unfolding_all rfl
set_option maxRecDepth 100000 in
theorem binds_bl2 {w : World} {s : Shared} {va vx : Value} (X : (hd.heap_39 w.params).In s.heap) : Binds (hd.heap_39 w.params) 50 s ⟨[va, vx], []⟩ [("a", va), ("x", vx), ("lo", .int 0 229), ("hi", .none), ("key", .none)] := by
  intro oc od fd osl h
  obtain rfl := lookup_fd h (show _ = some _ by k_is)
  refine' binds_kw (T := 42) (D := 43) X ?a1 ?a2 ?a3 ?a4 ?a5
  case a1 => k_is
  case a2 => k_is
  case a3 => with_unfolding_all rfl
  case a4 => with_unfolding_all rfl
  case a5 => with_unfolding_all rfl
end Mine
end

section
open PySem PySem.W PyProof.Rows
open PySem.Calls PySem.Spec
namespace Mine
theorem stays_hide1 {g h : Heap} {l : Addr} (k : g.StaysIn h) (n : g.get? l = none) : g.StaysIn (hideAll h [l]) := fun b o e => hideAll_get _ (k b o e) (fun q => by rw [List.mem_singleton.mp q, n] at e; cases e)
theorem ins_nat {vs : List Value} {r : Nat} {y : Value} (h : r ≤ vs.length) : kl_ins vs (r : Int) y = vs.take r ++ y :: vs.drop r := by
  unfold kl_ins
  rw [if_neg (by omega), Int.toNat_natCast, Nat.min_eq_left h]
theorem fits_idx {x : Int} (h0 : 0 ≤ x) (h : x < 2 ^ 62) : Builtin.List.listFitsIndex x = true := by
  unfold Builtin.List.listFitsIndex
  simp
  omega

set_option maxRecDepth 100000 in
set_option maxHeartbeats 4000000 in
theorem ir_call {w : World} {loose : List Str} {mean : ExcName → Option Value} {mg mb : Str → Option Value} {A : Around} {s : Shared} {Q E : Value → Shared → Prop} {l : Addr} {vs : List Value} {ns : List Int} {x : Int} {tx : Tok} {n : Nat} {g : Heap}
    (X : (hd.heap_39 w.params).In g) (T : Top topProg loose mean mg mb g) (kg : g.StaysIn s.heap) (hlg : g.get? l = none) (R : Room A 3 60)
    (hl : s.heap.get? l = some (listOf vs.toArray n)) (hi : IntsAre vs ns) (hn : ns.length < 2 ^ 20) (hs : Ord id ns)
    (hQ : ∀ (r : Nat) (h' : Heap) (tk : Nat), PosR id ns x r → Kept [l] s.heap h' → h'.get? l = some (listOf (vs.take r ++ .int x tx :: vs.drop r).toArray (n + 1)) → Q .none { s with heap := h', toks := tk }) :
    wpAny (model pw w) A (call (.ref 23) [.ref l, .int x tx] []) Q E s := by
  refine wpAny_call ?_
  have X0 := X.keeps kg
  have T0 := T.keeps kg
  have X1 := X.keeps (stays_hide1 kg hlg)
  have T1 := T.keeps (stays_hide1 kg hlg)
  refine' enter (binds := [("a", .ref l), ("x", .int x tx), ("lo", .int 0 189), ("hi", .none), ("key", .none)]) [l] ?hroom X0 T0.nolimit ?ho ?hcd ?hbind ?hco ?hgen ?hk ?hcell ?hloc ?_
  case hroom => exact (R.le (d' := 0) (u' := 0) (Nat.zero_le _) (Nat.zero_le _)).dep
  case ho => k_is
  case hcd => k_is
  case hbind => exact binds_ir2 X0 _ _ _ _ (by k_is)
  case hco => rfl
  case hgen => rfl
  case hk => rfl
  case hcell => decide
  case hloc => exact locs rfl
  intro g1 L h₁ hg F HN
  have N := HN [(l, listOf vs.toArray n)] (by intro p hp; rcases List.mem_singleton.mp hp with rfl; exact ⟨List.mem_singleton.mpr rfl, hl⟩)
  rw [← hg] at X1 T1
  have hk1 : ∀ h', g1.StaysIn h' → Kept [l] s.heap h' := fun h' k b o nb e => k b o (by rw [hg]; exact hideAll_get _ e nb)
  clear HN hg hl X T X0 T0 kg hlg
  try dsimp only [List.reverse, List.reverseAux] at F
  try dsimp only
  show wpAny _ _ _ _ _ _
  k_fold
  repeat' ((fail_if_success (with_reducible show wpAny _ _ (call (Value.ref 32) _ _) _ _ _)); (first | walk1 | (dsimp only; walk1)))
  rename Fr _ _ _ _ => F2
  rename News _ _ _ _ => N2
  refine br_call (args := ⟨[.ref l, .int x _, .int 0 189, .none], []⟩) (X1.keeps F2.keep) (T1.keeps F2.keep) (Room.deep (R.le (by decide) (by decide))) (binds_br4 (X1.keeps F2.keep)) ⟨_, (N2 _ (.head _)).1, rfl, _, rfl⟩ hi (Nat.lt_of_lt_of_le hn (by decide)) hs ?_
  intro r h3 tk3 t3 hp st3
  have F3 := stays_fr st3 F2
  have N3 := stays_news st3 N2
  clear F2 N2
  have hlen := hi.length
  repeat' ((fail_if_success (with_reducible show wpAny _ _ (call (Value.builtin _) _ _) _ _ _)); (first | walk1 | (dsimp only; walk1)))
  rename Fr _ _ _ _ => F4
  rename News _ _ _ _ => N4
  have hle := hp.le
  refine kl_insert (l := kl_ins vs (r : Int) (.int x tx)) F4 N4 (fits_idx (by omega) (by omega)) rfl (Upd.head (fun _ h => nomatch h)) (by rw [sizeLine_eq]; dsimp only; omega) ?_
  intro h5 F5 N5
  repeat' (first | walk1 | (dsimp only; walk1))
  have q := N5 _ (.head _)
  rw [ins_nat (by omega)] at q
  exact hQ r h5 _ hp (hk1 _ F5.keep) q.1

set_option maxRecDepth 100000 in
set_option maxHeartbeats 4000000 in
theorem irk_call {w : World} {loose : List Str} {mean : ExcName → Option Value} {mg mb : Str → Option Value} {A : Around} {s : Shared} {Q E : Value → Shared → Prop} {l : Addr} {vs : List Value} {ns : List Int} {x : Int} {tx : Tok} {n : Nat} {g : Heap}
    {ok : Heap → Prop} {k : Addr} {kf : Int → Int} {dom : Int → Prop} (KO : KeyOk w ok k kf dom) (hok : ok (hideAll s.heap [l])) (hdom : ∀ j : Nat, j < ns.length → dom (ns.getD j 0)) (hdx : dom x)
    (X : (hd.heap_39 w.params).In g) (T : Top topProg loose mean mg mb g) (kg : g.StaysIn s.heap) (hlg : g.get? l = none) (R : Room A 3 60)
    (hl : s.heap.get? l = some (listOf vs.toArray n)) (hi : IntsAre vs ns) (hn : ns.length < 2 ^ 20) (hs : Ord kf ns)
    (hQ : ∀ (r : Nat) (h' : Heap) (tk : Nat), PosR kf ns (kf x) r → Kept [l] s.heap h' → h'.get? l = some (listOf (vs.take r ++ .int x tx :: vs.drop r).toArray (n + 1)) → Q .none { s with heap := h', toks := tk }) :
    wpAny (model pw w) A (call (.ref 23) [.ref l, .int x tx] [("key", .ref k)]) Q E s := by
  refine wpAny_call ?_
  have X0 := X.keeps kg
  have T0 := T.keeps kg
  have X1 := X.keeps (stays_hide1 kg hlg)
  have T1 := T.keeps (stays_hide1 kg hlg)
  refine' enter (binds := [("a", .ref l), ("x", .int x tx), ("lo", .int 0 189), ("hi", .none), ("key", .ref k)]) [l] ?hroom X0 T0.nolimit ?ho ?hcd ?hbind ?hco ?hgen ?hk ?hcell ?hloc ?_
  case hroom => exact (R.le (d' := 0) (u' := 0) (Nat.zero_le _) (Nat.zero_le _)).dep
  case ho => k_is
  case hcd => k_is
  case hbind => exact binds_ir2k X0 _ _ _ _ (by k_is)
  case hco => rfl
  case hgen => rfl
  case hk => rfl
  case hcell => decide
  case hloc => exact locs rfl
  intro g1 L h₁ hg F HN
  have N := HN [(l, listOf vs.toArray n)] (by intro p hp; rcases List.mem_singleton.mp hp with rfl; exact ⟨List.mem_singleton.mpr rfl, hl⟩)
  rw [← hg] at X1 T1 hok
  have hk1 : ∀ h', g1.StaysIn h' → Kept [l] s.heap h' := fun h' k b o nb e => k b o (by rw [hg]; exact hideAll_get _ e nb)
  clear HN hg hl X T X0 T0 kg hlg
  try dsimp only [List.reverse, List.reverseAux] at F
  try dsimp only
  show wpAny _ _ _ _ _ _
  k_fold
  repeat' ((fail_if_success (with_reducible show wpAny _ _ (call (Value.ref 32) _ _) _ _ _)); (first
      | ((with_reducible show wpAny _ _ (callWith _ (Value.ref k) _ _ _) _ _ _); refine callWith_key KO ?_)
      | ((with_reducible show ok _ ∧ _); refine ⟨KO.stays _ _ hok (Fr.keep (by assumption)), ?_⟩)
      | ((with_reducible show wpAny _ _ (call (Value.ref k) _ _) _ _ _); rename Fr _ _ _ _ => F5; rename News _ _ _ _ => N5; refine KO.call _ _ _ _ _ _ (Room.deep (R.le (by decide) (by decide))) (KO.stays _ _ hok F5.keep) hdx ?_; intro h6 tk6 t6 st6; replace F5 := stays_fr st6 F5; replace N5 := stays_news st6 N5)
      | walk1 | (dsimp only; walk1)))
  rename Fr _ _ _ _ => F2
  rename News _ _ _ _ => N2
  refine brk_call (args := ⟨[.ref l, .int (kf x) _, .int 0 189, .none], [("key", .ref k)]⟩) KO (KO.stays _ _ hok F2.keep) hdom (X1.keeps F2.keep) (T1.keeps F2.keep) (Room.deep (R.le (by decide) (by decide))) (binds_br4k (X1.keeps F2.keep)) ⟨_, (N2 _ (.head _)).1, rfl, _, rfl⟩ hi (Nat.lt_of_lt_of_le hn (by decide)) hs ?_
  intro r h3 tk3 t3 hp st3
  have F3 := stays_fr st3 F2
  have N3 := stays_news st3 N2
  clear F2 N2
  have hlen := hi.length
  repeat' ((fail_if_success (with_reducible show wpAny _ _ (call (Value.builtin _) _ _) _ _ _)); (first | walk1 | (dsimp only; walk1)))
  rename Fr _ _ _ _ => F4
  rename News _ _ _ _ => N4
  have hle := hp.le
  refine kl_insert (l := kl_ins vs (r : Int) (.int x tx)) F4 N4 (fits_idx (by omega) (by omega)) rfl (Upd.head (fun _ h => nomatch h)) (by rw [sizeLine_eq]; dsimp only; omega) ?_
  intro h5 F5 N5
  repeat' (first | walk1 | (dsimp only; walk1))
  have q := N5 _ (.head _)
  rw [ins_nat (by omega)] at q
  exact hQ r h5 _ hp (hk1 _ F5.keep) q.1

set_option maxRecDepth 100000 in
set_option maxHeartbeats 4000000 in
theorem il_call {w : World} {loose : List Str} {mean : ExcName → Option Value} {mg mb : Str → Option Value} {A : Around} {s : Shared} {Q E : Value → Shared → Prop} {l : Addr} {vs : List Value} {ns : List Int} {x : Int} {tx : Tok} {n : Nat} {g : Heap}
    (X : (hd.heap_39 w.params).In g) (T : Top topProg loose mean mg mb g) (kg : g.StaysIn s.heap) (hlg : g.get? l = none) (R : Room A 3 60)
    (hl : s.heap.get? l = some (listOf vs.toArray n)) (hi : IntsAre vs ns) (hn : ns.length < 2 ^ 20) (hs : Ord id ns)
    (hQ : ∀ (r : Nat) (h' : Heap) (tk : Nat), PosL id ns x r → Kept [l] s.heap h' → h'.get? l = some (listOf (vs.take r ++ .int x tx :: vs.drop r).toArray (n + 1)) → Q .none { s with heap := h', toks := tk }) :
    wpAny (model pw w) A (call (.ref 41) [.ref l, .int x tx] []) Q E s := by
  refine wpAny_call ?_
  have X0 := X.keeps kg
  have T0 := T.keeps kg
  have X1 := X.keeps (stays_hide1 kg hlg)
  have T1 := T.keeps (stays_hide1 kg hlg)
  refine' enter (binds := [("a", .ref l), ("x", .int x tx), ("lo", .int 0 216), ("hi", .none), ("key", .none)]) [l] ?hroom X0 T0.nolimit ?ho ?hcd ?hbind ?hco ?hgen ?hk ?hcell ?hloc ?_
  case hroom => exact (R.le (d' := 0) (u' := 0) (Nat.zero_le _) (Nat.zero_le _)).dep
  case ho => k_is
  case hcd => k_is
  case hbind => exact binds_il2 X0 _ _ _ _ (by k_is)
  case hco => rfl
  case hgen => rfl
  case hk => rfl
  case hcell => decide
  case hloc => exact locs rfl
  intro g1 L h₁ hg F HN
  have N := HN [(l, listOf vs.toArray n)] (by intro p hp; rcases List.mem_singleton.mp hp with rfl; exact ⟨List.mem_singleton.mpr rfl, hl⟩)
  rw [← hg] at X1 T1
  have hk1 : ∀ h', g1.StaysIn h' → Kept [l] s.heap h' := fun h' k b o nb e => k b o (by rw [hg]; exact hideAll_get _ e nb)
  clear HN hg hl X T X0 T0 kg hlg
  try dsimp only [List.reverse, List.reverseAux] at F
  try dsimp only
  show wpAny _ _ _ _ _ _
  k_fold
  repeat' ((fail_if_success (with_reducible show wpAny _ _ (call (Value.ref 50) _ _) _ _ _)); (first | walk1 | (dsimp only; walk1)))
  rename Fr _ _ _ _ => F2
  rename News _ _ _ _ => N2
  refine bl_call (args := ⟨[.ref l, .int x _, .int 0 216, .none], []⟩) (X1.keeps F2.keep) (T1.keeps F2.keep) (Room.deep (R.le (by decide) (by decide))) (binds_bl4 (X1.keeps F2.keep)) ⟨_, (N2 _ (.head _)).1, rfl, _, rfl⟩ hi (Nat.lt_of_lt_of_le hn (by decide)) hs ?_
  intro r h3 tk3 t3 hp st3
  have F3 := stays_fr st3 F2
  have N3 := stays_news st3 N2
  clear F2 N2
  have hlen := hi.length
  repeat' ((fail_if_success (with_reducible show wpAny _ _ (call (Value.builtin _) _ _) _ _ _)); (first | walk1 | (dsimp only; walk1)))
  rename Fr _ _ _ _ => F4
  rename News _ _ _ _ => N4
  have hle := hp.le
  refine kl_insert (l := kl_ins vs (r : Int) (.int x tx)) F4 N4 (fits_idx (by omega) (by omega)) rfl (Upd.head (fun _ h => nomatch h)) (by rw [sizeLine_eq]; dsimp only; omega) ?_
  intro h5 F5 N5
  repeat' (first | walk1 | (dsimp only; walk1))
  have q := N5 _ (.head _)
  rw [ins_nat (by omega)] at q
  exact hQ r h5 _ hp (hk1 _ F5.keep) q.1

set_option maxRecDepth 100000 in
set_option maxHeartbeats 4000000 in
theorem ilk_call {w : World} {loose : List Str} {mean : ExcName → Option Value} {mg mb : Str → Option Value} {A : Around} {s : Shared} {Q E : Value → Shared → Prop} {l : Addr} {vs : List Value} {ns : List Int} {x : Int} {tx : Tok} {n : Nat} {g : Heap}
    {ok : Heap → Prop} {k : Addr} {kf : Int → Int} {dom : Int → Prop} (KO : KeyOk w ok k kf dom) (hok : ok (hideAll s.heap [l])) (hdom : ∀ j : Nat, j < ns.length → dom (ns.getD j 0)) (hdx : dom x)
    (X : (hd.heap_39 w.params).In g) (T : Top topProg loose mean mg mb g) (kg : g.StaysIn s.heap) (hlg : g.get? l = none) (R : Room A 3 60)
    (hl : s.heap.get? l = some (listOf vs.toArray n)) (hi : IntsAre vs ns) (hn : ns.length < 2 ^ 20) (hs : Ord kf ns)
    (hQ : ∀ (r : Nat) (h' : Heap) (tk : Nat), PosL kf ns (kf x) r → Kept [l] s.heap h' → h'.get? l = some (listOf (vs.take r ++ .int x tx :: vs.drop r).toArray (n + 1)) → Q .none { s with heap := h', toks := tk }) :
    wpAny (model pw w) A (call (.ref 41) [.ref l, .int x tx] [("key", .ref k)]) Q E s := by
  refine wpAny_call ?_
  have X0 := X.keeps kg
  have T0 := T.keeps kg
  have X1 := X.keeps (stays_hide1 kg hlg)
  have T1 := T.keeps (stays_hide1 kg hlg)
  refine' enter (binds := [("a", .ref l), ("x", .int x tx), ("lo", .int 0 216), ("hi", .none), ("key", .ref k)]) [l] ?hroom X0 T0.nolimit ?ho ?hcd ?hbind ?hco ?hgen ?hk ?hcell ?hloc ?_
  case hroom => exact (R.le (d' := 0) (u' := 0) (Nat.zero_le _) (Nat.zero_le _)).dep
  case ho => k_is
  case hcd => k_is
  case hbind => exact binds_il2k X0 _ _ _ _ (by k_is)
  case hco => rfl
  case hgen => rfl
  case hk => rfl
  case hcell => decide
  case hloc => exact locs rfl
  intro g1 L h₁ hg F HN
  have N := HN [(l, listOf vs.toArray n)] (by intro p hp; rcases List.mem_singleton.mp hp with rfl; exact ⟨List.mem_singleton.mpr rfl, hl⟩)
  rw [← hg] at X1 T1 hok
  have hk1 : ∀ h', g1.StaysIn h' → Kept [l] s.heap h' := fun h' k b o nb e => k b o (by rw [hg]; exact hideAll_get _ e nb)
  clear HN hg hl X T X0 T0 kg hlg
  try dsimp only [List.reverse, List.reverseAux] at F
  try dsimp only
  show wpAny _ _ _ _ _ _
  k_fold
  repeat' ((fail_if_success (with_reducible show wpAny _ _ (call (Value.ref 50) _ _) _ _ _)); (first
      | ((with_reducible show wpAny _ _ (callWith _ (Value.ref k) _ _ _) _ _ _); refine callWith_key KO ?_)
      | ((with_reducible show ok _ ∧ _); refine ⟨KO.stays _ _ hok (Fr.keep (by assumption)), ?_⟩)
      | ((with_reducible show wpAny _ _ (call (Value.ref k) _ _) _ _ _); rename Fr _ _ _ _ => F5; rename News _ _ _ _ => N5; refine KO.call _ _ _ _ _ _ (Room.deep (R.le (by decide) (by decide))) (KO.stays _ _ hok F5.keep) hdx ?_; intro h6 tk6 t6 st6; replace F5 := stays_fr st6 F5; replace N5 := stays_news st6 N5)
      | walk1 | (dsimp only; walk1)))
  rename Fr _ _ _ _ => F2
  rename News _ _ _ _ => N2
  refine blk_call (args := ⟨[.ref l, .int (kf x) _, .int 0 216, .none], [("key", .ref k)]⟩) KO (KO.stays _ _ hok F2.keep) hdom (X1.keeps F2.keep) (T1.keeps F2.keep) (Room.deep (R.le (by decide) (by decide))) (binds_bl4k (X1.keeps F2.keep)) ⟨_, (N2 _ (.head _)).1, rfl, _, rfl⟩ hi (Nat.lt_of_lt_of_le hn (by decide)) hs ?_
  intro r h3 tk3 t3 hp st3
  have F3 := stays_fr st3 F2
  have N3 := stays_news st3 N2
  clear F2 N2
  have hlen := hi.length
  repeat' ((fail_if_success (with_reducible show wpAny _ _ (call (Value.builtin _) _ _) _ _ _)); (first | walk1 | (dsimp only; walk1)))
  rename Fr _ _ _ _ => F4
  rename News _ _ _ _ => N4
  have hle := hp.le
  refine kl_insert (l := kl_ins vs (r : Int) (.int x tx)) F4 N4 (fits_idx (by omega) (by omega)) rfl (Upd.head (fun _ h => nomatch h)) (by rw [sizeLine_eq]; dsimp only; omega) ?_
  intro h5 F5 N5
  repeat' (first | walk1 | (dsimp only; walk1))
  have q := N5 _ (.head _)
  rw [ins_nat (by omega)] at q
  exact hQ r h5 _ hp (hk1 _ F5.keep) q.1

end Mine
end

section
open PySem PySem.W PyProof.Rows
open PySem.Calls PySem.Spec
namespace Mine

/-- how a turn of a for goes on: J for the next turn, the iterator's own objects as they stood -/
inductive LGo (g : Heap) (L : Addr) (s : Shared) (J : Nat → (Str → Option Value) → List (Addr × Obj) → Nat → Prop) (i : Nat) (own : List (Addr × Obj)) : Shared → Prop
  | mk {h' : Heap} {tk : Nat} {m' : Str → Option Value} {news' nx : List (Addr × Obj)} (F : Fr g L h' m') (N : News g L h' news') (ho : ∀ p ∈ own, p ∈ news') (hn : ∀ p ∈ nx, p ∈ news') (hd : ∀ p ∈ nx, ∀ q ∈ own, p.1 ≠ q.1) (hj : J i m' nx tk) :
      LGo g L s J i own { s with heap := h', toks := tk }
/-- how a turn of a for ends -/
def LEnd (g : Heap) (L : Addr) (s : Shared) (J : Nat → (Str → Option Value) → List (Addr × Obj) → Nat → Prop) (Q : Flow → Shared → Prop) (i : Nat) (own : List (Addr × Obj)) (f : Flow) (s₃ : Shared) : Prop :=
  match f with
  | .next | .cont => LGo g L s J i own s₃
  | .brk => Q .next s₃
  | .ret v => Q (.ret v) s₃
theorem LEnd.mk {g : Heap} {L : Addr} {s : Shared} {J : Nat → (Str → Option Value) → List (Addr × Obj) → Nat → Prop} {Q : Flow → Shared → Prop} {i : Nat} {own news' nx : List (Addr × Obj)} {h' : Heap} {tk : Nat} {m' : Str → Option Value}
    (F : Fr g L h' m') (N : News g L h' news') (ho : ∀ p ∈ own, p ∈ news') (hn : ∀ p ∈ nx, p ∈ news') (hd : ∀ p ∈ nx, ∀ q ∈ own, p.1 ≠ q.1) (hj : J i m' nx tk) :
    LEnd g L s J Q i own .next { s with heap := h', toks := tk } := LGo.mk F N ho hn hd hj
/-- how a for stands ahead of a turn -/
inductive ForI (g : Heap) (L : Addr) (s : Shared) (P : Heap → Nat → Prop) (away : Addr → Prop) (J : Nat → (Str → Option Value) → List (Addr × Obj) → Nat → Prop) (n : Nat) : Nat → Shared → Prop
  | mk {h' : Heap} {tk : Nat} {m' : Str → Option Value} {news' : List (Addr × Obj)} {i tk₀ : Nat} (hit : P h' i) (F : Fr g L h' m') (N : News g L h' news') (hna : ∀ p ∈ news', away p.1) (hJ : J i m' news' tk₀) (ht : tk₀ ≤ tk) (hi : i ≤ n) :
      ForI g L s P away J n (n + 1 - i) { s with heap := h', toks := tk }
theorem LGo.go {g : Heap} {L : Addr} {s s₃ : Shared} {P : Heap → Nat → Prop} {away : Addr → Prop} {J : Nat → (Str → Option Value) → List (Addr × Obj) → Nat → Prop} {n i : Nat} {own : List (Addr × Obj)} (h : LGo g L s J (i + 1) own s₃) (hlt : i < n)
    (hP : ∀ h' : Heap, (∀ p ∈ own, h'.get? p.1 = some p.2) → P h' (i + 1)) (ha : ∀ a : Addr, (∀ q ∈ own, a ≠ q.1) → away a) : ∃ k, k < n + 1 - i ∧ ForI g L s P away J n k s₃ := by
  cases h with
  | mk F N ho hn hd hj => exact ⟨n + 1 - (i + 1), by omega, .mk (hP _ fun p hp => (N p (ho p hp)).1) F (fun p hp => N p (hn p hp)) (fun p hp => ha p.1 (hd p hp)) hj (Nat.le_refl _) hlt⟩

section
variable {prog : Program} {w : World} {A : Around} {E : Value → Shared → Prop} {Q : Flow → Shared → Prop} {s : Shared} {env : Env} {g : Heap} {L : Addr}

theorem news_none {h : Heap} {news : List (Addr × Obj)} {m : Str → Option Value} (F : Fr g L h m) : g.get? h.objs.size = none := by
  cases e : g.get? h.objs.size with
  | none => rfl
  | some o => exact absurd (Heap.lt_size (F.keep _ _ e)) (Nat.lt_irrefl _)
theorem news_away {h : Heap} {news : List (Addr × Obj)} (N : News g L h news) : ∀ p ∈ news, p.1 ≠ h.objs.size := fun p hp => Nat.ne_of_lt (Heap.lt_size (N p hp).1)

theorem for_list {x : Str} {px : Pos} {body orelse : List Stmt} {l : Addr} {items : List Value} {m : Str → Option Value} {news : List (Addr × Obj)}
    (J : Nat → (Str → Option Value) → List (Addr × Obj) → Nat → Prop)
    (hx : env.kindOf x = some .local) (hp : (env.scope.kind == .class || (env.scope.kind == .module && env.locals != env.globals)) = false) (hL : env.locals = L) (hh : A.handled = none)
    (F : Fr g L s.heap m) (N : News g L s.heap news) (hJ : J 0 m news s.toks)
    (hl : ∀ i m' news' h tk, J i m' news' tk → Fr g L h m' → News g L h news' → h.IsList l items.toArray)
    (turn : ∀ i v m₁ news₁ h₁ tk₁ tk₂ I o, items[i]? = some v → J i m₁ news₁ tk₁ → tk₁ ≤ tk₂ → (∀ p ∈ news₁, p.1 ≠ I) → I ≠ l →
      Fr g L h₁ (fun y => if y = x then some v else m₁ y) → News g L h₁ ((I, o) :: news₁) →
      wpAny (model prog w) A (execs body env) (LEnd g L s J Q (i + 1) [(I, o)]) E { s with heap := h₁, toks := tk₂ })
    (done : ∀ m₁ news₁ h₁ tk₁ tk₂, J items.length m₁ news₁ tk₁ → tk₁ ≤ tk₂ → Fr g L h₁ m₁ → News g L h₁ news₁ → wpAny (model prog w) A (execs orelse env) Q E { s with heap := h₁, toks := tk₂ })
    (hE : PassesOwn (model prog w) A env E := by passes_own) :
    wpAny (model prog w) A (pyIter (.ref l)) (fun it s₂ => codeAny (model prog w) A (.forLoop (.Name x px) it body orelse env) (fun r s' => match r with | .ok f => Q f s' | .error e => cameBackBy (model prog w) A env E e s') s₂) E s := by
  subst hL
  have hl0 := hl 0 m news s.heap s.toks hJ F N
  refine wpAny_pyIter_list hl0 ?_
  obtain ⟨ol, hol, hol'⟩ := id hl0
  have hlI : l ≠ s.heap.objs.size := Nat.ne_of_lt (Heap.lt_size hol)
  generalize hI : s.heap.objs.size = I at *
  have hLI : env.locals ≠ I := Nat.ne_of_lt (hI ▸ F.ns.lt)
  have hgI : g.get? I = none := hI ▸ news_none (news := news) F
  have F0 := F.push { cls := .type "list_iterator", data := .fields #[.ref l, .int 0 0] }
  have N0 : News g env.locals (s.heap.push { cls := .type "list_iterator", data := .fields #[.ref l, .int 0 0] }) news := fun p hp => ⟨Heap.get?_push_of_some _ (N p hp).1, (N p hp).2⟩
  have hit0 : (s.heap.push { cls := .type "list_iterator", data := .fields #[.ref l, .int 0 0] }).IsListIter I l 0 := ⟨_, hI ▸ Heap.get?_push_size _ rfl, rfl, rfl⟩
  have hna : ∀ p ∈ news, p.1 ≠ I := fun p hp => hI ▸ news_away N p hp
  refine codeAny_forLoop
    (ForI g env.locals s (fun h i => h.IsListIter I l i) (fun a => a ≠ I) J items.length) ?_ (items.length + 1)
    (.mk (i := 0) hit0 F0 N0 hna hJ (Nat.le_refl _) (Nat.zero_le _))
  rintro k s' (@⟨h', tk, m', news', i, tk₀, hit', F', N', hna', hJ', htk, hi⟩)
  have hl' := hl i m' news' h' tk₀ hJ' F' N'
  have keepF : ∀ h₁ : Heap, Heap.ExtBut I h' h₁ → Fr g env.locals h₁ m' ∧ News g env.locals h₁ news' := fun h₁ k₁ =>
    ⟨⟨F'.ns.extBut k₁ hLI, fun b o e => k₁ b o (fun q => by rw [q, hgI] at e; cases e) (F'.keep b o e), F'.above⟩, fun p hp => ⟨k₁ _ _ (hna' p hp) (N' p hp).1, (N' p hp).2⟩⟩
  by_cases hlt : i < items.length
  · refine wpAny_pyNext_list_item hit' hl' (x := items[i]) (by simp [hlt]) fun h₁ hit₁ hs₁ => ?_
    obtain ⟨F₁, N₁⟩ := keepF h₁ hs₁.extBut
    refine wpAny_assign_Name (wpAny_storeName_local hx F₁.ns (fun h₂ hn₂ hs₂ => ?_) hp)
    have F₂ := F₁.set hn₂ hs₂
    have N₂ := N₁.set hs₂
    obtain ⟨oI, hoI, hcI, hdI⟩ := id hit₁
    have hoI2 : h₂.get? I = some oI := (hs₂.2 I (Ne.symm hLI)).trans hoI
    have N₃ : News g env.locals h₂ ((I, oI) :: news') := fun p hp => by
      rcases List.mem_cons.mp hp with rfl | hp
      · exact ⟨hoI2, Ne.symm hLI, hgI⟩
      · exact N₂ p hp
    refine wpAny_mono (wpAny_passesOwn hE (turn i items[i] m' news' h₂ tk₀ (tk + 1) I oI (by simp [hlt]) hJ' (by omega) hna' (Ne.symm hlI) F₂ N₃)) (fun f s₃ h₃ => ?_) fun _ _ e => e
    cases f with
    | ret v => exact h₃
    | brk => exact h₃
    | next => exact LGo.go h₃ hlt (fun h' q => ⟨oI, q _ (.head _), hcI, hdI⟩) (fun a q => q _ (.head _))
    | cont => exact LGo.go h₃ hlt (fun h' q => ⟨oI, q _ (.head _), hcI, hdI⟩) (fun a q => q _ (.head _))
  · have hin : i = items.length := by omega
    subst hin
    refine wpAny_pyNext_list_end hh hit' hl' (by simp) fun h₁ he₁ => ?_
    obtain ⟨F₁, N₁⟩ := keepF h₁ he₁
    exact wpAny_passesOwn hE (done m' news' h₁ tk₀ tk hJ' htk F₁ N₁)

abbrev enumObj (I : Addr) (i : Int) (v : Value) : Obj := { cls := .type "enumerate", dict := none, data := .fields #[.none, .bool false, .ref I, rawInt i, .none, v], slots := #[] }
theorem for_enum2 {xi : Str} {tv : Expr} {pi pt : Pos} {x1 : Nat} {body orelse : List Stmt} {l : Addr} {items : List Value} {m : Str → Option Value} {news : List (Addr × Obj)}
    (J : Nat → (Str → Option Value) → List (Addr × Obj) → Nat → Prop)
    (hx : env.kindOf xi = some .local) (hp : (env.scope.kind == .class || (env.scope.kind == .module && env.locals != env.globals)) = false) (hL : env.locals = L) (hh : A.handled = none)
    (hsn : (assignEach [.Name xi pi, tv] env).length = 2) (hsl : (assignEach [.Name xi pi, tv] env).findIdx? (·.1) = none) (hse : (assignEach [.Name xi pi, tv] env).map (·.2) = [assign (.Name xi pi) env, assign tv env])
    (F : Fr g L s.heap m) (N : News g L s.heap news) (hJ : J 0 m news s.toks)
    (hl : ∀ i m' news' h tk, J i m' news' tk → Fr g L h m' → News g L h news' → h.IsList l items.toArray)
    (turn : ∀ i v m₁ news₁ h₁ tk₁ tk₂ ti own, items[i]? = some v → J i m₁ news₁ tk₁ → tk₁ ≤ ti → ti < tk₂ → (∀ p ∈ news₁, ∀ q ∈ own, p.1 ≠ q.1) → (∀ q ∈ own, q.1 ≠ l) → (∀ q ∈ own, ∃ vs, q.2.data = .fields vs ∧ ∀ x t, vs[1]? ≠ some (.str x t)) →
      Fr g L h₁ (fun y => if y = xi then some (.int (i : Int) ti) else m₁ y) → News g L h₁ (own ++ news₁) →
      wpAny (model prog w) A (assign tv env v) (fun _ s₄ => wpAny (model prog w) A (execs body env) (LEnd g L s J Q (i + 1) own) E s₄) E { s with heap := h₁, toks := tk₂ })
    (done : ∀ m₁ news₁ h₁ tk₁ tk₂, J items.length m₁ news₁ tk₁ → tk₁ ≤ tk₂ → Fr g L h₁ m₁ → News g L h₁ news₁ → wpAny (model prog w) A (execs orelse env) Q E { s with heap := h₁, toks := tk₂ })
    (hE : PassesOwn (model prog w) A env E := by passes_own) :
    wpAny (model prog w) A (call (.type "enumerate") [.ref l]) (fun xv s₁ => wpAny (model prog w) A (pyIter xv) (fun it s₂ => codeAny (model prog w) A (.forLoop (.Tuple [.Name xi pi, tv] x1 pt) it body orelse env) (fun r s' => match r with | .ok f => Q f s' | .error e => cameBackBy (model prog w) A env E e s') s₂) E s₁) E s := by
  subst hL
  have hl0 := hl 0 m news s.heap s.toks hJ F N
  refine call_enumerate_list hl0 fun h0 he0 hit0 hz0 hk0 => ?_
  refine wpAny_pyIter_enum he0 ?_
  obtain ⟨ol, hol, hol'⟩ := id hl0
  generalize hI : s.heap.objs.size = I at *
  have hls : l < I := hI ▸ Heap.lt_size hol
  have hLI : env.locals < I := hI ▸ F.ns.lt
  have hg : ∀ b, I ≤ b → g.get? b = none := fun b hb => by
    cases e : g.get? b with
    | none => rfl
    | some o => exact absurd (Nat.lt_of_lt_of_le (hI ▸ Heap.lt_size (F.keep _ _ e)) hb) (Nat.lt_irrefl _)
  have F0 : Fr g env.locals h0 m := ⟨F.ns.keeps hk0, fun b o e => hk0 b o (F.keep b o e), F.above⟩
  have N0 : News g env.locals h0 news := fun p hp => ⟨hk0 _ _ (N p hp).1, (N p hp).2⟩
  have hna : ∀ p ∈ news, p.1 < I := fun p hp => hI ▸ Heap.lt_size (N p hp).1
  refine codeAny_forLoop_any
    (ForI g env.locals s (fun h i => (∃ old, IsEnum h (I + 1) I ((i : Nat) : Int) old) ∧ h.IsListIter I l i) (fun a => a ≠ I ∧ a ≠ I + 1) J items.length) ?_ (items.length + 1)
    (.mk (i := 0) ⟨⟨.none, he0⟩, hit0⟩ F0 N0 (fun p hp => ⟨Nat.ne_of_lt (hna p hp), Nat.ne_of_lt (Nat.lt_succ_of_lt (hna p hp))⟩) hJ (Nat.le_refl _) (Nat.zero_le _))
  rintro k s' (@⟨h', tk, m', news', i, tk₀, ⟨⟨old, he'⟩, hit'⟩, F', N', hna', hJ', htk, hi⟩)
  have hl' := hl i m' news' h' tk₀ hJ' F' N'
  have keepF : ∀ h₁ : Heap, (∀ b o, b ≠ I + 1 → b ≠ I → h'.get? b = some o → h₁.get? b = some o) → Fr g env.locals h₁ m' ∧ News g env.locals h₁ news' := fun h₁ k₁ =>
    ⟨⟨F'.ns.at fun o e => k₁ _ o (Nat.ne_of_lt (Nat.lt_succ_of_lt hLI)) (Nat.ne_of_lt hLI) e, fun b o e => k₁ b o (fun q => by rw [q, hg _ (Nat.le_succ _)] at e; cases e) (fun q => by rw [q, hg _ (Nat.le_refl _)] at e; cases e) (F'.keep b o e), F'.above⟩,
      fun p hp => ⟨k₁ _ _ (hna' p hp).2 (hna' p hp).1 (N' p hp).1, (N' p hp).2⟩⟩
  by_cases hlt : i < items.length
  · have heH : I + 1 < h'.objs.size := Heap.lt_size he'
    have hIH : I < h'.objs.size := Nat.lt_of_succ_lt heH
    refine wpAny_pyNext_enum_item he' hit' hl' (x := items[i]) (by simp [hlt]) (Nat.succ_ne_self _) fun h₁ heo hit₁ ht₁ hz₁ hk₁ => ?_
    obtain ⟨F₁, N₁⟩ := keepF h₁ hk₁
    refine wpAny_letOwnedTupleGo_enum heo fun h₂ he₂ hs₂ => ?_
    replace hs₂ : Heap.SameBut (I + 1) h₁ h₂ := hs₂
    have ht₂ : h₂.IsTuple h'.objs.size #[.int i tk, items[i]] := ⟨_, (hs₂.2 _ (Nat.ne_of_gt heH)).trans ht₁, rfl, _, rfl⟩
    have hz₂ : h₂.objs.size = h'.objs.size + 1 := hs₂.1.trans hz₁
    refine wpAny_assign_Tuple hh ht₂ hsn hsl fun h₃ hx₃ => ?_
    replace hx₃ : Heap.ExtBut h₂.objs.size h₂ h₃ := hx₃
    rw [hse]
    have old₃ : ∀ b o, b < h'.objs.size → h₂.get? b = some o → h₃.get? b = some o := fun b o hb x => hx₃ b o (by rw [hz₂]; exact Nat.ne_of_lt (Nat.lt_succ_of_lt hb)) x
    have k₃ : ∀ b o, b ≠ I + 1 → b ≠ I → h'.get? b = some o → h₃.get? b = some o := fun b o n1 n2 e => old₃ b o (Heap.lt_size e) ((hs₂.2 b n1).trans (hk₁ b o n1 n2 e))
    obtain ⟨F₃, N₃⟩ := keepF h₃ k₃
    have he₃ : IsEnum h₃ (I + 1) I ((i : Int) + 1) items[i] := old₃ _ _ heH he₂
    have hit₃ : h₃.IsListIter I l (i + 1) := by
      obtain ⟨o, ho, r⟩ := hit₁
      exact ⟨o, old₃ _ _ hIH ((hs₂.2 _ (Ne.symm (Nat.succ_ne_self I))).trans ho), r⟩
    clear he₂ hit₁ ht₂ ht₁
    show wpAny _ A (do holding [items[i]] (assign (.Name xi pi) env (.int i tk)); do holding [] (assign tv env items[i]); pure ()) _ _ _
    refine wpAny_bind (wpAny_holding (wpAny_assign_Name (wpAny_storeName_local hx F₃.ns (fun h₄ hn₄ hs₄ => ?_) hp)))
    replace hs₄ : Heap.SameBut env.locals h₃ h₄ := hs₄
    have F₄ := F₃.set hn₄ hs₄
    have N₄ := N₃.set hs₄
    obtain ⟨oI, hoI, hcI, hdI⟩ := id hit₃
    have n1 : I ≠ env.locals := Nat.ne_of_gt hLI
    have n2 : I + 1 ≠ env.locals := Nat.ne_of_gt (Nat.lt_succ_of_lt hLI)
    have hI4 : h₄.get? I = some oI := (hs₄.2 _ n1).trans hoI
    have hE4 : IsEnum h₄ (I + 1) I ((i : Int) + 1) items[i] := (hs₄.2 _ n2).trans he₃
    have N₅ : News g env.locals h₄ ([(I, oI), (I + 1, enumObj I ((i : Int) + 1) items[i])] ++ news') := fun p hp => by
      rcases List.mem_append.mp hp with hp | hp
      · rcases List.mem_cons.mp hp with rfl | hp
        · exact ⟨hI4, n1, hg _ (Nat.le_refl _)⟩
        · rcases List.mem_singleton.mp hp with rfl
          exact ⟨hE4, n2, hg _ (Nat.le_succ _)⟩
      · exact N₄ p hp
    refine wpAny_bind (wpAny_holding (wpAny_mono (wpAny_passesOwn hE (turn i items[i] m' news' h₄ tk₀ (tk + 1 + 1) tk _ (by simp [hlt]) hJ' htk (by omega) ?_ ?_ ?_ F₄ N₅)) (fun _ s₆ h₆ => wpAny_pure ?_) fun _ _ e => e))
    · intro p hp q hq
      rcases List.mem_cons.mp hq with rfl | hq
      · exact (hna' p hp).1
      · rcases List.mem_singleton.mp hq with rfl
        exact (hna' p hp).2
    · intro q hq
      rcases List.mem_cons.mp hq with rfl | hq
      · exact Nat.ne_of_gt hls
      · rcases List.mem_singleton.mp hq with rfl
        exact Nat.ne_of_gt (Nat.lt_succ_of_lt hls)
    · intro q hq
      rcases List.mem_cons.mp hq with rfl | hq
      · exact ⟨_, hdI, fun _ _ h => nomatch h⟩
      · rcases List.mem_singleton.mp hq with rfl
        exact ⟨_, rfl, fun _ _ h => nomatch h⟩
    · refine wpAny_mono (wpAny_passesOwn hE h₆) (fun f s₃ h₃ => ?_) fun _ _ e => e
      have hP : ∀ h' : Heap, (∀ p ∈ [(I, oI), (I + 1, enumObj I ((i : Int) + 1) items[i])], h'.get? p.1 = some p.2) → (∃ old, IsEnum h' (I + 1) I ((i + 1 : Nat) : Int) old) ∧ h'.IsListIter I l (i + 1) := fun h' q =>
        ⟨⟨_, q _ (.tail _ (.head _))⟩, ⟨oI, q _ (.head _), hcI, hdI⟩⟩
      have ha : ∀ a : Addr, (∀ q ∈ [(I, oI), (I + 1, enumObj I ((i : Int) + 1) items[i])], a ≠ q.1) → a ≠ I ∧ a ≠ I + 1 := fun a q => ⟨q _ (.head _), q _ (.tail _ (.head _))⟩
      cases f with
      | ret v => exact h₃
      | brk => exact h₃
      | next => exact LGo.go h₃ hlt hP ha
      | cont => exact LGo.go h₃ hlt hP ha
  · have hin : i = items.length := by omega
    subst hin
    refine wpAny_pyNext_enum_end hh he' hit' hl' (by simp) fun h₁ he₁ => ?_
    obtain ⟨F₁, N₁⟩ := keepF h₁ fun b o _ n2 e => he₁ b o n2 e
    exact wpAny_passesOwn hE (done m' news' h₁ tk₀ tk hJ' htk F₁ N₁)

theorem for_enum {xi : Str} {tv : Expr} {pi pt : Pos} {x1 : Nat} {body orelse : List Stmt} {l : Addr} {items : List Value} {m : Str → Option Value} {news : List (Addr × Obj)}
    (J : Nat → (Str → Option Value) → List (Addr × Obj) → Nat → Prop)
    (hx : env.kindOf xi = some .local) (hp : (env.scope.kind == .class || (env.scope.kind == .module && env.locals != env.globals)) = false) (hL : env.locals = L) (hh : A.handled = none)
    (hsn : (assignEach [.Name xi pi, tv] env).length = 2) (hsl : (assignEach [.Name xi pi, tv] env).findIdx? (·.1) = none) (hse : (assignEach [.Name xi pi, tv] env).map (·.2) = [assign (.Name xi pi) env, assign tv env])
    (F : Fr g L s.heap m) (N : News g L s.heap news) (hJ : J 0 m news s.toks)
    (hl : ∀ i m' news' h tk, J i m' news' tk → Fr g L h m' → News g L h news' → h.IsList l items.toArray)
    (turn : ∀ i v m₁ news₁ h₁ tk₁ tk₂ ti own, items[i]? = some v → J i m₁ news₁ tk₁ → tk₁ ≤ ti → ti < tk₂ → (∀ p ∈ news₁, ∀ q ∈ own, p.1 ≠ q.1) → (∀ q ∈ own, q.1 ≠ l) →
      Fr g L h₁ (fun y => if y = xi then some (.int (i : Int) ti) else m₁ y) → News g L h₁ (own ++ news₁) →
      wpAny (model prog w) A (assign tv env v) (fun _ s₄ => wpAny (model prog w) A (execs body env) (LEnd g L s J Q (i + 1) own) E s₄) E { s with heap := h₁, toks := tk₂ })
    (done : ∀ m₁ news₁ h₁ tk₁ tk₂, J items.length m₁ news₁ tk₁ → tk₁ ≤ tk₂ → Fr g L h₁ m₁ → News g L h₁ news₁ → wpAny (model prog w) A (execs orelse env) Q E { s with heap := h₁, toks := tk₂ })
    (hE : PassesOwn (model prog w) A env E := by passes_own) :
    wpAny (model prog w) A (call (.type "enumerate") [.ref l]) (fun xv s₁ => wpAny (model prog w) A (pyIter xv) (fun it s₂ => codeAny (model prog w) A (.forLoop (.Tuple [.Name xi pi, tv] x1 pt) it body orelse env) (fun r s' => match r with | .ok f => Q f s' | .error e => cameBackBy (model prog w) A env E e s') s₂) E s₁) E s :=
  for_enum2 J hx hp hL hh hsn hsl hse F N hJ hl (fun i v m₁ news₁ h₁ tk₁ tk₂ ti own a1 a2 a3 a4 a5 a6 _ a7 a8 => turn i v m₁ news₁ h₁ tk₁ tk₂ ti own a1 a2 a3 a4 a5 a6 a7 a8) done hE

theorem for_range {x : Str} {px : Pos} {body orelse : List Stmt} {r : Addr} {a b : Int} {n : Nat} {ta tb tc : Tok} {m : Str → Option Value} {news : List (Addr × Obj)}
    (J : Nat → (Str → Option Value) → List (Addr × Obj) → Nat → Prop)
    (hx : env.kindOf x = some .local) (hp : (env.scope.kind == .class || (env.scope.kind == .module && env.locals != env.globals)) = false) (hL : env.locals = L) (hh : A.handled = none)
    (hr : IsRange s.heap r a b 1 ta tb tc) (ha : -(2 ^ 62) ≤ a) (ha' : a < 2 ^ 62) (hb : -(2 ^ 62) ≤ b) (hb' : b < 2 ^ 62) (hn : n = (b - a).toNat)
    (F : Fr g L s.heap m) (N : News g L s.heap news) (hJ : J 0 m news s.toks)
    (turn : ∀ (i : Nat) ti m₁ news₁ h₁ tk₁ tk₂ I o, i < n → J i m₁ news₁ tk₁ → tk₁ ≤ ti → ti < tk₂ → (∀ p ∈ news₁, p.1 ≠ I) →
      Fr g L h₁ (fun y => if y = x then some (.int (a + i) ti) else m₁ y) → News g L h₁ ((I, o) :: news₁) →
      wpAny (model prog w) A (execs body env) (LEnd g L s J Q (i + 1) [(I, o)]) E { s with heap := h₁, toks := tk₂ })
    (done : ∀ m₁ news₁ h₁ tk₁ tk₂, J n m₁ news₁ tk₁ → tk₁ ≤ tk₂ → Fr g L h₁ m₁ → News g L h₁ news₁ → wpAny (model prog w) A (execs orelse env) Q E { s with heap := h₁, toks := tk₂ })
    (hE : PassesOwn (model prog w) A env E := by passes_own) :
    wpAny (model prog w) A (pyIter (.ref r)) (fun it s₂ => codeAny (model prog w) A (.forLoop (.Name x px) it body orelse env) (fun r s' => match r with | .ok f => Q f s' | .error e => cameBackBy (model prog w) A env E e s') s₂) E s := by
  subst hL hn
  refine wpAny_pyIter_range hr (small_one ha ha' hb hb') ?_
  generalize hI : s.heap.objs.size = I at *
  have hLI : env.locals ≠ I := Nat.ne_of_lt (hI ▸ F.ns.lt)
  have hgI : g.get? I = none := hI ▸ news_none (news := news) F
  generalize ho : ({ cls := .type "range_iterator", data := .fields #[rawInt a, rawInt (Builtin.Range.rangeSize a b 1), rawInt 1] } : Obj) = o0
  have F0 := F.push o0
  have N0 : News g env.locals (s.heap.push o0) news := fun p hp => ⟨Heap.get?_push_of_some _ (N p hp).1, (N p hp).2⟩
  have hsz : Builtin.Range.rangeSize a b 1 = ((b - a).toNat : Int) := by rw [rangeSize_one]; split <;> omega
  have hit0 : IsRangeIter (s.heap.push o0) I (a + (0 : Nat)) (((b - a).toNat : Int) - (0 : Nat)) 1 := by
    rw [← hI, ← ho, hsz]
    have e := Heap.get?_push_size s.heap (o := { cls := .type "range_iterator", data := .fields #[rawInt a, rawInt ((b - a).toNat : Int), rawInt 1] }) rfl
    simpa using e
  have hna : ∀ p ∈ news, p.1 ≠ I := fun p hp => hI ▸ news_away N p hp
  refine codeAny_forLoop
    (ForI g env.locals s (fun h i => IsRangeIter h I (a + (i : Nat)) (((b - a).toNat : Int) - (i : Nat)) 1) (fun a => a ≠ I) J (b - a).toNat) ?_ ((b - a).toNat + 1)
    (.mk (i := 0) hit0 F0 N0 hna hJ (Nat.le_refl _) (Nat.zero_le _))
  rintro k s' (@⟨h', tk, m', news', i, tk₀, hit', F', N', hna', hJ', htk, hi⟩)
  have keepF : ∀ h₁ : Heap, Heap.ExtBut I h' h₁ → Fr g env.locals h₁ m' ∧ News g env.locals h₁ news' := fun h₁ k₁ =>
    ⟨⟨F'.ns.extBut k₁ hLI, fun b o e => k₁ b o (fun q => by rw [q, hgI] at e; cases e) (F'.keep b o e), F'.above⟩, fun p hp => ⟨k₁ _ _ (hna' p hp) (N' p hp).1, (N' p hp).2⟩⟩
  by_cases hlt : i < (b - a).toNat
  · refine wpAny_pyNext_range_item hit' (by omega) fun h₁ hit₁ hs₁ => ?_
    obtain ⟨F₁, N₁⟩ := keepF h₁ hs₁.extBut
    refine wpAny_assign_Name (wpAny_storeName_local hx F₁.ns (fun h₂ hn₂ hs₂ => ?_) hp)
    have F₂ := F₁.set hn₂ hs₂
    have N₂ := N₁.set hs₂
    have e1 : a + (i : Nat) + 1 = a + ((i + 1 : Nat) : Int) := by omega
    have e2 : ((b - a).toNat : Int) - (i : Nat) - 1 = ((b - a).toNat : Int) - ((i + 1 : Nat) : Int) := by omega
    rw [e1, e2] at hit₁
    have hoI2 : IsRangeIter h₂ I (a + ((i + 1 : Nat) : Int)) (((b - a).toNat : Int) - ((i + 1 : Nat) : Int)) 1 := (hs₂.2 I (Ne.symm hLI)).trans hit₁
    have N₃ : News g env.locals h₂ ((I, _) :: news') := fun p hp => by
      rcases List.mem_cons.mp hp with rfl | hp
      · exact ⟨hoI2, Ne.symm hLI, hgI⟩
      · exact N₂ p hp
    refine wpAny_mono (wpAny_passesOwn hE (turn i tk m' news' h₂ tk₀ (tk + 1 + 1) I _ hlt hJ' (by omega) (by omega) hna' F₂ N₃)) (fun f s₃ h₃ => ?_) fun _ _ e => e
    cases f with
    | ret v => exact h₃
    | brk => exact h₃
    | next => exact LGo.go h₃ hlt (fun h' q => q _ (.head _)) (fun a q => q _ (.head _))
    | cont => exact LGo.go h₃ hlt (fun h' q => q _ (.head _)) (fun a q => q _ (.head _))
  · have hin : i = (b - a).toNat := by omega
    subst hin
    refine wpAny_pyNext_range_end hh hit' (by omega) fun h₁ he₁ => ?_
    obtain ⟨F₁, N₁⟩ := keepF h₁ he₁
    exact wpAny_passesOwn hE (done m' news' h₁ tk₀ tk hJ' htk F₁ N₁)
end

section
variable {prog : Program} {w : World} {A : Around} {E : Value → Shared → Prop} {s : Shared} {Q : Value → Shared → Prop} {K : Frag}
/-- `is` between two ints or two strs whose tokens tell -/
theorem statics_none {t : Tok} {R : Bool → Shared → Prop} (X : K.In s.heap) (hc : K.lookup cStatics = some ⟨.none, none, .dict #[] 0, #[]⟩) (h : R false s) : wpAny (model prog w) A (sharingNotTold t) R E s := by
  unfold sharingNotTold
  have hn : s.heap.Ns cStatics (fun x => nsFind #[] x) := ⟨_, _, _, X _ _ hc, rfl, fun e he => by simp at he, fun _ => rfl⟩
  refine wpAny_bind (wpAny_nsGet hn ?_)
  exact wpAny_pure h
theorem created_any {eq : Bool} {t u : Tok} {R : Bool → Shared → Prop} (X : K.In s.heap) (hc : K.lookup cStatics = some ⟨.none, none, .dict #[] 0, #[]⟩) (ht : t ≠ 0) (hu : u ≠ 0) (he : t = u → eq = true)
    (h : ∀ b, (b = true → eq = true) → R b s) : wpAny (model prog w) A (isSame.created eq t u) R E s := by
  unfold isSame.created
  have h0 : (t == 0 || u == 0) = false := by simp [ht, hu]
  rw [if_neg (by simp [ht, hu])]
  by_cases e : t = u
  · rw [if_pos (by simp [e])]
    exact wpAny_pure (h true fun _ => he e)
  · rw [if_neg (by simp [e])]
    cases eq with
    | false => exact wpAny_pure (h false fun q => q)
    | true =>
      simp only [Bool.not_true, Bool.false_eq_true, if_false]
      refine wpAny_bind (statics_none X hc ?_)
      simp only [Bool.false_eq_true, if_false]
      refine wpAny_bind (statics_none X hc ?_)
      simp only [Bool.false_eq_true, if_false]
      refine wpAny_bind (wpAny_rule (wpAny_bind (wpAny_askSetting (wpAny_pure (h _ fun _ => rfl)))))
theorem is_int {p q : Int} {t u : Tok} (X : K.In s.heap) (hc : K.lookup cStatics = some ⟨.none, none, .dict #[] 0, #[]⟩) (ht : t ≠ 0) (hu : u ≠ 0) (he : t = u → p = q)
    (h : ∀ b, (b = true → p = q) → Q (.bool b) s) : wpAny (model prog w) A (compareOp .Is (.int p t) (.int q u)) Q E s := by
  show wpAny _ A (do return .bool (← isSame (.int p t) (.int q u))) Q E s
  refine wpAny_bind ?_
  show wpAny _ A (if p == q && smallInt p then isSame.cachedInt t u else isSame.created (p == q) t u) _ E s
  split
  · rename_i c
    unfold isSame.cachedInt
    rw [if_neg (by simp [ht, hu])]
    refine wpAny_bind (wpAny_rule (wpAny_pure (wpAny_pure (h true fun _ => ?_))))
    simp at c
    exact c.1
  · refine created_any X hc ht hu (fun e => by simpa using he e) fun b hb => wpAny_pure (h b fun e => by simpa using hb e)
theorem is_str {p q : Str} {t u : Tok} (X : K.In s.heap) (hc : K.lookup cStatics = some ⟨.none, none, .dict #[] 0, #[]⟩) (ht : t ≠ 0) (hu : u ≠ 0) (he : t = u → p = q)
    (h : ∀ b, (b = true → p = q) → Q (.bool b) s) : wpAny (model prog w) A (compareOp .Is (.str p t) (.str q u)) Q E s := by
  show wpAny _ A (do return .bool (← isSame (.str p t) (.str q u))) Q E s
  refine wpAny_bind ?_
  show wpAny _ A (isSame.created (p == q) t u) _ E s
  refine created_any X hc ht hu (fun e => by simpa using he e) fun b hb => wpAny_pure (h b fun e => by simpa using hb e)
end
end Mine
end

section
open PySem PySem.W PyProof.Rows
open PySem.Calls PySem.Spec
namespace Mine

/-- a frame's map: the names ps at their values, stored ones forgotten, the others as in m₀ -/
def Loc (m₀ : Str → Option Value) (stored : List Str) (ps : List (Str × Value)) (m : Str → Option Value) : Prop := ∃ u : Str → Option Value, m = kstB (fun z => if stored.contains z then u z else m₀ z) ps
theorem fr_name {g h : Heap} {L : Addr} {m : Str → Option Value} {P : Prop} (F : Fr g L h m) (k : ∀ m', m' = m → Fr g L h m' → P) : P := k m rfl F
theorem Loc.mk {m₀ m : Str → Option Value} {stored : List Str} {ps : List (Str × Value)} (h1 : ∀ p ∈ ps, m p.1 = some p.2) (h2 : ∀ z, (∀ p ∈ ps, z ≠ p.1) → stored.contains z = false → m z = m₀ z) : Loc m₀ stored ps m :=
  ⟨m, by
    funext y
    refine (kstB_eq h1 fun hn => ?_).symm
    show (if stored.contains y = true then m y else m₀ y) = m y
    cases h3 : stored.contains y with
    | true => simp
    | false => simp only [Bool.false_eq_true, if_false]; exact (h2 y hn h3).symm⟩

/-- ints with their tokens -/
abbrev tInts (ps : List (Int × Tok)) : List Value := ps.map fun p => .int p.1 p.2
abbrev nums (ps : List (Int × Tok)) : List Int := ps.map (·.1)
theorem ints_are : ∀ ps : List (Int × Tok), IntsAre (tInts ps) (nums ps)
  | [] => .nil
  | p :: r => .cons p.1 p.2 (ints_are r)
abbrev strsT (ps : List (Str × Tok)) : List Value := ps.map fun p => .str p.1 p.2

abbrev strsOf (ps : List (Str × Tok)) : List Str := ps.map (·.1)
theorem count_next {α : Type} [BEq α] [LawfulBEq α] {ps : List α} {b v : α} {i : Nat} (h : ps[i]? = some v) : (ps.take (i + 1)).count b = (ps.take i).count b + (if v == b then 1 else 0) := by
  rw [List.take_add_one, h, List.count_append]
  simp [List.count_cons]

set_option maxRecDepth 100000 in
set_option maxHeartbeats 4000000 in
theorem count_int {w : World} {loose : List Str} {mean : ExcName → Option Value} {mg mb : Str → Option Value} {A : Around} {s : Shared} {Q E : Value → Shared → Prop} {l : Addr} {ps : List (Int × Tok)} {b : Int} {tb : Tok}
    (X : (hd.heap_39 w.params).In s.heap) (T : Top topProg loose mean mg mb s.heap) (R : Room A 1 40)
    (hl : s.heap.IsList l (tInts ps).toArray) (hlen : ps.length < 2 ^ 20) (hb : tb ≠ 0) (hp : ∀ p ∈ ps, p.2 ≠ 0 ∧ (p.2 = tb → p.1 = b))
    (hQ : ∀ (h' : Heap) (tk : Nat) (t : Tok), s.heap.StaysIn h' → Q (.int ((nums ps).count b : Nat) t) { s with heap := h', toks := tk }) :
    wpAny (model pw w) A (call (.ref 107) [.ref l, .int b tb] []) Q E s := by
  refine wpAny_call ?_
  refine' enter (binds := [("a", .ref l), ("b", .int b tb)]) [] ?hroom X T.nolimit ?ho ?hcd ?hbind ?hco ?hgen ?hk ?hcell ?hloc ?_
  case hroom => exact (R.le (d' := 0) (u' := 0) (Nat.zero_le _) (Nat.zero_le _)).dep
  case ho => k_is
  case hcd => k_is
  case hbind => exact BindsTo.of_eq rfl
  case hco => rfl
  case hgen => rfl
  case hk => rfl
  case hcell => decide
  case hloc => exact locs rfl
  intro g L h₁ hg F HN
  have hgs : g = s.heap := hg
  subst hgs
  have N := HN [] (by intro p hp; cases hp)
  clear HN hg
  try dsimp only [List.reverse, List.reverseAux] at F
  try dsimp only
  show wpAny _ _ _ _ _ _
  k_fold
  repeat' ((fail_if_success (with_reducible show wpAny _ _ (exec (Stmt.For _ _ _ _ _) _) _ _ _)); (first | walk1 | (dsimp only; walk1)))
  refine wpAny_For ?_
  repeat' ((fail_if_success (with_reducible show wpAny _ _ (pyIter _) _ _ _)); (first | walk1 | (dsimp only; walk1)))
  rename Fr _ _ _ _ => F2
  rename News _ _ _ _ => N2
  refine fr_name F2 fun m0 em0 F2 => ?_
  refine for_list (L := L) (items := tInts ps) (fun i m news _ => news = [] ∧ ∃ tc, Loc m0 ["i"] [("count", .int (((nums ps).take i).count b : Nat) tc)] m) rfl rfl rfl R.hh F2 N2 ?h0 ?hl ?turn ?done
  case h0 => subst em0; exact ⟨rfl, _, Loc.mk (by kst_all) (fun _ _ _ => rfl)⟩
  case hl => exact fun _ _ _ h _ _ F _ => let ⟨o, a, r⟩ := hl; ⟨o, F.keep _ _ a, r⟩
  case turn =>
    rintro i v m₁ news₁ h₂ tk₁ tk₂ I o hv ⟨rfl, tc, u, rfl⟩ htk hI - F3 N3
    subst em0
    obtain ⟨p, hp', rfl⟩ : ∃ p, ps[i]? = some p ∧ v = .int p.1 p.2 := by
      rw [List.getElem?_map] at hv
      obtain ⟨p, a, b⟩ := Option.map_eq_some_iff.mp hv
      exact ⟨p, a, b.symm⟩
    have hpp := hp p (List.mem_of_getElem? hp')
    have hnx : (nums ps)[i]? = some p.1 := by rw [List.getElem?_map, hp']; rfl
    have hc := count_next (b := b) hnx
    dsimp only [kstB] at F3
    show wpAny _ _ _ _ _ _
    k_fold
    repeat' ((fail_if_success (with_reducible show wpAny _ _ (compareOp CmpOp.Is _ _) _ _ _)); (first | walk1 | (dsimp only; walk1)))
    rename Fr _ _ _ _ => F4
    refine is_int (X.keeps F4.keep) (by k_is) hpp.1 hb hpp.2 ?_
    intro bb hbb
    repeat' (first | walk1 | (dsimp only; walk1))
    · rename Fr _ _ _ _ => F6
      rename News _ _ _ _ => N6
      rename bb = true => hbt
      k_unfold
      exact LEnd.mk (nx := []) F6 N6 (fun _ h => h) (fun _ h => nomatch h) (fun _ h => nomatch h) ⟨rfl, _, Loc.mk (by rw [hc, hbb hbt, beq_self_eq_true]; kst_all) (by ksw_same)⟩
    · rename Fr _ _ _ _ => F6
      rename News _ _ _ _ => N6
      rename p.fst = b => hbt
      k_unfold
      exact LEnd.mk (nx := []) F6 N6 (fun _ h => h) (fun _ h => nomatch h) (fun _ h => nomatch h) ⟨rfl, _, Loc.mk (by rw [hc, hbt, beq_self_eq_true]; kst_all) (by ksw_same)⟩
    · rename Fr _ _ _ _ => F6
      rename News _ _ _ _ => N6
      rename p.fst ≠ b => hbt
      k_unfold
      exact LEnd.mk (nx := []) F6 N6 (fun _ h => h) (fun _ h => nomatch h) (fun _ h => nomatch h) ⟨rfl, _, Loc.mk (by rw [hc, beq_eq_false_iff_ne.mpr hbt]; kst_all) (by ksw_same)⟩
  case done =>
    rintro m₁ news₁ h₂ tk₁ tk₂ ⟨rfl, tc, u, rfl⟩ htk F3 N3
    subst em0
    dsimp only [kstB] at F3
    show wpAny _ _ _ _ _ _
    k_fold
    repeat' (first | walk1 | (dsimp only; walk1))
    rename Fr _ _ _ _ => F6
    have q := hQ _ tk₂ tc F6.keep
    rw [show (tInts ps).length = (nums ps).length by simp, List.take_length]
    exact q
set_option maxRecDepth 100000 in
set_option maxHeartbeats 4000000 in
theorem count_str {w : World} {loose : List Str} {mean : ExcName → Option Value} {mg mb : Str → Option Value} {A : Around} {s : Shared} {Q E : Value → Shared → Prop} {l : Addr} {ps : List (Str × Tok)} {b : Str} {tb : Tok}
    (X : (hd.heap_39 w.params).In s.heap) (T : Top topProg loose mean mg mb s.heap) (R : Room A 1 40)
    (hl : s.heap.IsList l (strsT ps).toArray) (hlen : ps.length < 2 ^ 20) (hb : tb ≠ 0) (hp : ∀ p ∈ ps, p.2 ≠ 0 ∧ (p.2 = tb → p.1 = b))
    (hQ : ∀ (h' : Heap) (tk : Nat) (t : Tok), s.heap.StaysIn h' → Q (.int ((strsOf ps).count b : Nat) t) { s with heap := h', toks := tk }) :
    wpAny (model pw w) A (call (.ref 107) [.ref l, .str b tb] []) Q E s := by
  refine wpAny_call ?_
  refine' enter (binds := [("a", .ref l), ("b", .str b tb)]) [] ?hroom X T.nolimit ?ho ?hcd ?hbind ?hco ?hgen ?hk ?hcell ?hloc ?_
  case hroom => exact (R.le (d' := 0) (u' := 0) (Nat.zero_le _) (Nat.zero_le _)).dep
  case ho => k_is
  case hcd => k_is
  case hbind => exact BindsTo.of_eq rfl
  case hco => rfl
  case hgen => rfl
  case hk => rfl
  case hcell => decide
  case hloc => exact locs rfl
  intro g L h₁ hg F HN
  have hgs : g = s.heap := hg
  subst hgs
  have N := HN [] (by intro p hp; cases hp)
  clear HN hg
  try dsimp only [List.reverse, List.reverseAux] at F
  try dsimp only
  show wpAny _ _ _ _ _ _
  k_fold
  repeat' ((fail_if_success (with_reducible show wpAny _ _ (exec (Stmt.For _ _ _ _ _) _) _ _ _)); (first | walk1 | (dsimp only; walk1)))
  refine wpAny_For ?_
  repeat' ((fail_if_success (with_reducible show wpAny _ _ (pyIter _) _ _ _)); (first | walk1 | (dsimp only; walk1)))
  rename Fr _ _ _ _ => F2
  rename News _ _ _ _ => N2
  refine fr_name F2 fun m0 em0 F2 => ?_
  refine for_list (L := L) (items := strsT ps) (fun i m news _ => news = [] ∧ ∃ tc, Loc m0 ["i"] [("count", .int (((strsOf ps).take i).count b : Nat) tc)] m) rfl rfl rfl R.hh F2 N2 ?h0 ?hl ?turn ?done
  case h0 => subst em0; exact ⟨rfl, _, Loc.mk (by kst_all) (fun _ _ _ => rfl)⟩
  case hl => exact fun _ _ _ h _ _ F _ => let ⟨o, a, r⟩ := hl; ⟨o, F.keep _ _ a, r⟩
  case turn =>
    rintro i v m₁ news₁ h₂ tk₁ tk₂ I o hv ⟨rfl, tc, u, rfl⟩ htk hI - F3 N3
    subst em0
    obtain ⟨p, hp', rfl⟩ : ∃ p, ps[i]? = some p ∧ v = .str p.1 p.2 := by
      rw [List.getElem?_map] at hv
      obtain ⟨p, a, b⟩ := Option.map_eq_some_iff.mp hv
      exact ⟨p, a, b.symm⟩
    have hpp := hp p (List.mem_of_getElem? hp')
    have hnx : (strsOf ps)[i]? = some p.1 := by rw [List.getElem?_map, hp']; rfl
    have hc := count_next (b := b) hnx
    dsimp only [kstB] at F3
    show wpAny _ _ _ _ _ _
    k_fold
    repeat' ((fail_if_success (with_reducible show wpAny _ _ (compareOp CmpOp.Is _ _) _ _ _)); (first | walk1 | (dsimp only; walk1)))
    rename Fr _ _ _ _ => F4
    refine is_str (X.keeps F4.keep) (by k_is) hpp.1 hb hpp.2 ?_
    intro bb hbb
    repeat' (first | walk1 | (dsimp only; walk1))
    · rename Fr _ _ _ _ => F6
      rename News _ _ _ _ => N6
      rename bb = true => hbt
      k_unfold
      exact LEnd.mk (nx := []) F6 N6 (fun _ h => h) (fun _ h => nomatch h) (fun _ h => nomatch h) ⟨rfl, _, Loc.mk (by rw [hc, hbb hbt, beq_self_eq_true]; kst_all) (by ksw_same)⟩
    · rename Fr _ _ _ _ => F6
      rename News _ _ _ _ => N6
      rename (p.fst == b) = true => hbt
      k_unfold
      exact LEnd.mk (nx := []) F6 N6 (fun _ h => h) (fun _ h => nomatch h) (fun _ h => nomatch h) ⟨rfl, _, Loc.mk (by rw [hc, hbt]; kst_all) (by ksw_same)⟩
    · rename Fr _ _ _ _ => F6
      rename News _ _ _ _ => N6
      rename (p.fst == b) = false => hbt
      k_unfold
      exact LEnd.mk (nx := []) F6 N6 (fun _ h => h) (fun _ h => nomatch h) (fun _ h => nomatch h) ⟨rfl, _, Loc.mk (by rw [hc, hbt]; kst_all) (by ksw_same)⟩
  case done =>
    rintro m₁ news₁ h₂ tk₁ tk₂ ⟨rfl, tc, u, rfl⟩ htk F3 N3
    subst em0
    dsimp only [kstB] at F3
    show wpAny _ _ _ _ _ _
    k_fold
    repeat' (first | walk1 | (dsimp only; walk1))
    rename Fr _ _ _ _ => F6
    have q := hQ _ tk₂ tc F6.keep
    rw [show (strsT ps).length = (strsOf ps).length by simp, List.take_length]
    exact q

theorem idx_first {α : Type} [BEq α] [LawfulBEq α] {l : List α} {b v : α} {i : Nat} (h : l[i]? = some v) (hv : v = b) (hn : b ∉ l.take i) : l.idxOf b = i := by
  subst hv
  induction l generalizing i with
  | nil => simp at h
  | cons a r ih =>
    cases i with
    | zero => simp at h; subst h; simp [List.idxOf_cons]
    | succ i =>
      simp only [List.take_succ_cons, List.mem_cons, not_or] at hn
      rw [List.idxOf_cons]
      have : (a == v) = false := by simpa using fun e : a = v => hn.1 e.symm
      rw [this]
      simp only [cond_false]
      rw [ih (by simpa using h) hn.2]
theorem not_next {α : Type} {l : List α} {b v : α} {i : Nat} (h : l[i]? = some v) (hv : v ≠ b) (hn : b ∉ l.take i) : b ∉ l.take (i + 1) := by
  rw [List.take_add_one, h]
  simp only [Option.toList_some, List.mem_append, List.mem_singleton, not_or]
  exact ⟨hn, fun e => hv e.symm⟩
set_option maxRecDepth 100000 in
set_option maxHeartbeats 4000000 in
theorem index_int {w : World} {loose : List Str} {mean : ExcName → Option Value} {mg mb : Str → Option Value} {A : Around} {s : Shared} {Q E : Value → Shared → Prop} {l : Addr} {ps : List (Int × Tok)} {b : Int} {tb : Tok}
    (X : (hd.heap_39 w.params).In s.heap) (T : Top topProg loose mean mg mb s.heap) (R : Room A 1 40)
    (hl : s.heap.IsList l (tInts ps).toArray) (hlen : ps.length < 2 ^ 20) (hb : tb ≠ 0) (hp : ∀ p ∈ ps, p.2 ≠ 0 ∧ (p.2 = tb → p.1 = b)) (hm : b ∈ nums ps)
    (hQ : ∀ (h' : Heap) (tk : Nat) (t : Tok), s.heap.StaysIn h' → Q (.int ((nums ps).idxOf b : Nat) t) { s with heap := h', toks := tk }) :
    wpAny (model pw w) A (call (.ref 114) [.ref l, .int b tb] []) Q E s := by
  refine wpAny_call ?_
  refine' enter (binds := [("a", .ref l), ("b", .int b tb)]) [] ?hroom X T.nolimit ?ho ?hcd ?hbind ?hco ?hgen ?hk ?hcell ?hloc ?_
  case hroom => exact (R.le (d' := 0) (u' := 0) (Nat.zero_le _) (Nat.zero_le _)).dep
  case ho => k_is
  case hcd => k_is
  case hbind => exact BindsTo.of_eq rfl
  case hco => rfl
  case hgen => rfl
  case hk => rfl
  case hcell => decide
  case hloc => exact locs rfl
  intro g L h₁ hg F HN
  have hgs : g = s.heap := hg
  subst hgs
  have N := HN [] (by intro p hp; cases hp)
  clear HN hg
  try dsimp only [List.reverse, List.reverseAux] at F
  try dsimp only
  show wpAny _ _ _ _ _ _
  k_fold
  repeat' ((fail_if_success (with_reducible show wpAny _ _ (exec (Stmt.For _ _ _ _ _) _) _ _ _)); (first | walk1 | (dsimp only; walk1)))
  refine wpAny_For ?_
  repeat' ((fail_if_success (with_reducible show wpAny _ _ (call (Value.type _) _ _) _ _ _)); (first | walk1 | (dsimp only; walk1)))
  rename Fr _ _ _ _ => F2
  rename News _ _ _ _ => N2
  refine fr_name F2 fun m0 em0 F2 => ?_
  refine for_enum (L := L) (items := tInts ps) (fun i m news _ => news = [] ∧ b ∉ (nums ps).take i ∧ Loc m0 ["i", "j"] [] m) rfl rfl rfl R.hh rfl rfl rfl F2 N2 ?h0 ?hl ?turn ?done
  case h0 => subst em0; exact ⟨rfl, by simp, Loc.mk (by kst_all) (fun _ _ _ => rfl)⟩
  case hl => exact fun _ _ _ h _ _ F _ => let ⟨o, a, r⟩ := hl; ⟨o, F.keep _ _ a, r⟩
  case turn =>
    rintro i v m₁ news₁ h₂ tk₁ tk₂ ti own hv ⟨rfl, hnot, u, rfl⟩ hti htk hI - F3 N3
    subst em0
    obtain ⟨p, hp', rfl⟩ : ∃ p, ps[i]? = some p ∧ v = .int p.1 p.2 := by
      rw [List.getElem?_map] at hv
      obtain ⟨p, a, b⟩ := Option.map_eq_some_iff.mp hv
      exact ⟨p, a, b.symm⟩
    have hpp := hp p (List.mem_of_getElem? hp')
    have hnx : (nums ps)[i]? = some p.1 := by rw [List.getElem?_map, hp']; rfl
    dsimp only [kstB] at F3
    refine wpAny_assign_Name ?_
    show wpAny _ _ _ _ _ _
    k_fold
    repeat' ((fail_if_success (with_reducible show wpAny _ _ (compareOp CmpOp.Is _ _) _ _ _)); (first | walk1 | (dsimp only; walk1)))
    rename Fr _ _ _ _ => F4
    refine is_int (X.keeps F4.keep) (by k_is) hpp.1 hb hpp.2 ?_
    intro bb hbb
    repeat' (first | k_unfold | walk1 | (dsimp only; walk1))
    · rename Fr _ _ _ _ => F6
      rename bb = true => hbt
      rw [idx_first hnx (hbb hbt) hnot] at hQ
      exact hQ _ _ _ F6.keep
    · rename Fr _ _ _ _ => F6
      rename p.fst = b => hbt
      rw [idx_first hnx hbt hnot] at hQ
      exact hQ _ _ _ F6.keep
    · rename Fr _ _ _ _ => F6
      rename News _ _ _ _ => N6
      rename p.fst ≠ b => hbt
      exact LEnd.mk (nx := []) F6 N6 (fun _ h => List.mem_append_left _ h) (fun _ h => nomatch h) (fun _ h => nomatch h) ⟨rfl, not_next hnx hbt hnot, Loc.mk (by kst_all) (by ksw_same)⟩
  case done =>
    rintro m₁ news₁ h₂ tk₁ tk₂ ⟨rfl, hnot, u, rfl⟩ htk F3 N3
    rw [show (tInts ps).length = (nums ps).length by simp, List.take_length] at hnot
    exact absurd hm hnot
end Mine
end

section
open PySem PySem.W PyProof.Rows
open PySem.Calls PySem.Spec
namespace Mine
theorem bitAnd_nat (a b : Nat) : Builtin.bitAnd (a : Int) (b : Int) = ((a &&& b : Nat) : Int) := by
  first | rfl | simp [Builtin.bitAnd]
theorem bitOr_nat (a b : Nat) : Builtin.bitOr (a : Int) (b : Int) = ((a ||| b : Nat) : Int) := by
  have n0 : ∀ x : Int, Builtin.bitNot (Builtin.bitNot x) = x := fun x => by unfold Builtin.bitNot; omega
  have n1 : ∀ x : Nat, decide (0 ≤ Builtin.bitNot (x : Int)) = false := fun x => decide_eq_false (by unfold Builtin.bitNot; omega)
  unfold Builtin.bitOr Builtin.bitAnd
  rw [n1 a, n1 b]
  simp only [n0, Int.toNat_natCast]
theorem shl_nat (a k : Nat) : (a : Int) * 2 ^ ((k : Int).toNat) = ((a <<< k : Nat) : Int) := by
  rw [Int.toNat_natCast, Nat.shiftLeft_eq]; norm_cast
theorem shr_nat (a k : Nat) : (a : Int).fdiv (2 ^ ((k : Int).toNat)) = ((a >>> k : Nat) : Int) := by
  rw [Int.toNat_natCast, Nat.shiftRight_eq_div_pow, Int.fdiv_eq_ediv_of_nonneg _ (by exact Int.le_of_lt (Int.pow_pos (by decide)))]; norm_cast

set_option maxRecDepth 100000 in
set_option maxHeartbeats 4000000 in
theorem ge_call {w : World} {loose : List Str} {mean : ExcName → Option Value} {mg mb : Str → Option Value} {A : Around} {s : Shared} {Q E : Value → Shared → Prop} {x y : Int} {tx ty : Tok}
    (X : (hd.heap_39 w.params).In s.heap) (T : Top topProg loose mean mg mb s.heap) (R : Room A 1 10)
    (hQ : ∀ (h' : Heap) (tk : Nat), s.heap.StaysIn h' → Q (.bool (decide (y ≤ x))) { s with heap := h', toks := tk }) :
    wpAny (model pw w) A (call (.ref 65) [.int x tx, .int y ty] []) Q E s := by
  refine wpAny_call ?_
  refine' enter (binds := [("a", .int x tx), ("b", .int y ty)]) [] ?hroom X T.nolimit ?ho ?hcd ?hbind ?hco ?hgen ?hk ?hcell ?hloc ?_
  case hroom => exact (R.le (d' := 0) (u' := 0) (Nat.zero_le _) (Nat.zero_le _)).dep
  case ho => k_is
  case hcd => k_is
  case hbind => exact BindsTo.of_eq rfl
  case hco => rfl
  case hgen => rfl
  case hk => rfl
  case hcell => decide
  case hloc => exact locs rfl
  intro g L h₁ hg F HN
  have hgs : g = s.heap := hg
  subst hgs
  have N := HN [] (by intro p hp; cases hp)
  clear HN hg
  try dsimp only [List.reverse, List.reverseAux] at F
  try dsimp only
  show wpAny _ _ _ _ _ _
  repeat' (first | walk1 | (dsimp only; walk1))
  rename Fr _ _ _ _ => F2
  exact hQ _ _ F2.keep

set_option maxRecDepth 100000 in
set_option maxHeartbeats 4000000 in
theorem and_call {w : World} {loose : List Str} {mean : ExcName → Option Value} {mg mb : Str → Option Value} {A : Around} {s : Shared} {Q E : Value → Shared → Prop} {a b : Nat} {tx ty : Tok}
    (X : (hd.heap_39 w.params).In s.heap) (T : Top topProg loose mean mg mb s.heap) (R : Room A 1 10)
    (hQ : ∀ (h' : Heap) (tk : Nat) (t : Tok), s.heap.StaysIn h' → Q (.int ((a &&& b : Nat) : Int) t) { s with heap := h', toks := tk }) :
    wpAny (model pw w) A (call (.ref 72) [.int (a : Int) tx, .int (b : Int) ty] []) Q E s := by
  refine wpAny_call ?_
  refine' enter (binds := [("a", .int (a : Int) tx), ("b", .int (b : Int) ty)]) [] ?hroom X T.nolimit ?ho ?hcd ?hbind ?hco ?hgen ?hk ?hcell ?hloc ?_
  case hroom => exact (R.le (d' := 0) (u' := 0) (Nat.zero_le _) (Nat.zero_le _)).dep
  case ho => k_is
  case hcd => k_is
  case hbind => exact BindsTo.of_eq rfl
  case hco => rfl
  case hgen => rfl
  case hk => rfl
  case hcell => decide
  case hloc => exact locs rfl
  intro g L h₁ hg F HN
  have hgs : g = s.heap := hg
  subst hgs
  have N := HN [] (by intro p hp; cases hp)
  clear HN hg
  try dsimp only [List.reverse, List.reverseAux] at F
  try dsimp only
  show wpAny _ _ _ _ _ _
  repeat' (first | walk1 | (dsimp only; walk1))
  rename Fr _ _ _ _ => F2
  rw [← bitAnd_nat] at hQ
  exact hQ _ _ _ F2.keep

set_option maxRecDepth 100000 in
set_option maxHeartbeats 4000000 in
theorem lshift_call {w : World} {loose : List Str} {mean : ExcName → Option Value} {mg mb : Str → Option Value} {A : Around} {s : Shared} {Q E : Value → Shared → Prop} {a b : Nat} {tx ty : Tok}
    (X : (hd.heap_39 w.params).In s.heap) (T : Top topProg loose mean mg mb s.heap) (R : Room A 1 10) (ha : a < 2 ^ 40) (hb : b < 40)
    (hQ : ∀ (h' : Heap) (tk : Nat) (t : Tok), s.heap.StaysIn h' → Q (.int ((a <<< b : Nat) : Int) t) { s with heap := h', toks := tk }) :
    wpAny (model pw w) A (call (.ref 79) [.int (a : Int) tx, .int (b : Int) ty] []) Q E s := by
  refine wpAny_call ?_
  refine' enter (binds := [("a", .int (a : Int) tx), ("b", .int (b : Int) ty)]) [] ?hroom X T.nolimit ?ho ?hcd ?hbind ?hco ?hgen ?hk ?hcell ?hloc ?_
  case hroom => exact (R.le (d' := 0) (u' := 0) (Nat.zero_le _) (Nat.zero_le _)).dep
  case ho => k_is
  case hcd => k_is
  case hbind => exact BindsTo.of_eq rfl
  case hco => rfl
  case hgen => rfl
  case hk => rfl
  case hcell => decide
  case hloc => exact locs rfl
  intro g L h₁ hg F HN
  have hgs : g = s.heap := hg
  subst hgs
  have N := HN [] (by intro p hp; cases hp)
  clear HN hg
  try dsimp only [List.reverse, List.reverseAux] at F
  try dsimp only
  show wpAny _ _ _ _ _ _
  repeat' (first | walk1 | (dsimp only; walk1))
  rename Fr _ _ _ _ => F2
  rw [← shl_nat] at hQ
  exact hQ _ _ _ F2.keep

set_option maxRecDepth 100000 in
set_option maxHeartbeats 4000000 in
theorem or_call {w : World} {loose : List Str} {mean : ExcName → Option Value} {mg mb : Str → Option Value} {A : Around} {s : Shared} {Q E : Value → Shared → Prop} {a b : Nat} {tx ty : Tok}
    (X : (hd.heap_39 w.params).In s.heap) (T : Top topProg loose mean mg mb s.heap) (R : Room A 1 10)
    (hQ : ∀ (h' : Heap) (tk : Nat) (t : Tok), s.heap.StaysIn h' → Q (.int ((a ||| b : Nat) : Int) t) { s with heap := h', toks := tk }) :
    wpAny (model pw w) A (call (.ref 86) [.int (a : Int) tx, .int (b : Int) ty] []) Q E s := by
  refine wpAny_call ?_
  refine' enter (binds := [("a", .int (a : Int) tx), ("b", .int (b : Int) ty)]) [] ?hroom X T.nolimit ?ho ?hcd ?hbind ?hco ?hgen ?hk ?hcell ?hloc ?_
  case hroom => exact (R.le (d' := 0) (u' := 0) (Nat.zero_le _) (Nat.zero_le _)).dep
  case ho => k_is
  case hcd => k_is
  case hbind => exact BindsTo.of_eq rfl
  case hco => rfl
  case hgen => rfl
  case hk => rfl
  case hcell => decide
  case hloc => exact locs rfl
  intro g L h₁ hg F HN
  have hgs : g = s.heap := hg
  subst hgs
  have N := HN [] (by intro p hp; cases hp)
  clear HN hg
  try dsimp only [List.reverse, List.reverseAux] at F
  try dsimp only
  show wpAny _ _ _ _ _ _
  repeat' (first | walk1 | (dsimp only; walk1))
  rename Fr _ _ _ _ => F2
  rw [← bitOr_nat] at hQ
  exact hQ _ _ _ F2.keep

set_option maxRecDepth 100000 in
set_option maxHeartbeats 4000000 in
theorem rshift_call {w : World} {loose : List Str} {mean : ExcName → Option Value} {mg mb : Str → Option Value} {A : Around} {s : Shared} {Q E : Value → Shared → Prop} {a b : Nat} {tx ty : Tok}
    (X : (hd.heap_39 w.params).In s.heap) (T : Top topProg loose mean mg mb s.heap) (R : Room A 1 10) (ha : a < 2 ^ 40) (hb : b < 40)
    (hQ : ∀ (h' : Heap) (tk : Nat) (t : Tok), s.heap.StaysIn h' → Q (.int ((a >>> b : Nat) : Int) t) { s with heap := h', toks := tk }) :
    wpAny (model pw w) A (call (.ref 93) [.int (a : Int) tx, .int (b : Int) ty] []) Q E s := by
  refine wpAny_call ?_
  refine' enter (binds := [("a", .int (a : Int) tx), ("b", .int (b : Int) ty)]) [] ?hroom X T.nolimit ?ho ?hcd ?hbind ?hco ?hgen ?hk ?hcell ?hloc ?_
  case hroom => exact (R.le (d' := 0) (u' := 0) (Nat.zero_le _) (Nat.zero_le _)).dep
  case ho => k_is
  case hcd => k_is
  case hbind => exact BindsTo.of_eq rfl
  case hco => rfl
  case hgen => rfl
  case hk => rfl
  case hcell => decide
  case hloc => exact locs rfl
  intro g L h₁ hg F HN
  have hgs : g = s.heap := hg
  subst hgs
  have N := HN [] (by intro p hp; cases hp)
  clear HN hg
  try dsimp only [List.reverse, List.reverseAux] at F
  try dsimp only
  show wpAny _ _ _ _ _ _
  repeat' (first | walk1 | (dsimp only; walk1))
  rename Fr _ _ _ _ => F2
  rw [← shr_nat] at hQ
  exact hQ _ _ _ F2.keep

set_option maxRecDepth 100000 in
set_option maxHeartbeats 4000000 in
theorem sub_call {w : World} {loose : List Str} {mean : ExcName → Option Value} {mg mb : Str → Option Value} {A : Around} {s : Shared} {Q E : Value → Shared → Prop} {x y : Int} {tx ty : Tok}
    (X : (hd.heap_39 w.params).In s.heap) (T : Top topProg loose mean mg mb s.heap) (R : Room A 1 10)
    (hQ : ∀ (h' : Heap) (tk : Nat) (t : Tok), s.heap.StaysIn h' → Q (.int (x - y) t) { s with heap := h', toks := tk }) :
    wpAny (model pw w) A (call (.ref 100) [.int x tx, .int y ty] []) Q E s := by
  refine wpAny_call ?_
  refine' enter (binds := [("a", .int x tx), ("b", .int y ty)]) [] ?hroom X T.nolimit ?ho ?hcd ?hbind ?hco ?hgen ?hk ?hcell ?hloc ?_
  case hroom => exact (R.le (d' := 0) (u' := 0) (Nat.zero_le _) (Nat.zero_le _)).dep
  case ho => k_is
  case hcd => k_is
  case hbind => exact BindsTo.of_eq rfl
  case hco => rfl
  case hgen => rfl
  case hk => rfl
  case hcell => decide
  case hloc => exact locs rfl
  intro g L h₁ hg F HN
  have hgs : g = s.heap := hg
  subst hgs
  have N := HN [] (by intro p hp; cases hp)
  clear HN hg
  try dsimp only [List.reverse, List.reverseAux] at F
  try dsimp only
  show wpAny _ _ _ _ _ _
  repeat' (first | walk1 | (dsimp only; walk1))
  rename Fr _ _ _ _ => F2
  exact hQ _ _ _ F2.keep

end Mine
end

section
open PySem PySem.W PyProof.Rows
open PySem.Calls PySem.Spec
namespace Mine
def flagWords : List Str := ["OPTIMIZED", "NEWLOCALS", "VARARGS", "VARKEYWORDS", "NESTED", "GENERATOR", "NOFREE", "COROUTINE", "ITERABLE_COROUTINE", "ASYNC_GENERATOR"]
def flagName (i : Nat) : Str := flagWords.getD i (baseText "0x" 16 ((2 ^ i : Nat) : Int))
abbrev flagTab : List (Int × PyData) := [(1, PyData.str { cps := #[79, 80, 84, 73, 77, 73, 90, 69, 68] }), (2, PyData.str { cps := #[78, 69, 87, 76, 79, 67, 65, 76, 83] }), (4, PyData.str { cps := #[86, 65, 82, 65, 82, 71, 83] }), (8, PyData.str { cps := #[86, 65, 82, 75, 69, 89, 87, 79, 82, 68, 83] }), (16, PyData.str { cps := #[78, 69, 83, 84, 69, 68] }), (32, PyData.str { cps := #[71, 69, 78, 69, 82, 65, 84, 79, 82] }), (64, PyData.str { cps := #[78, 79, 70, 82, 69, 69] }), (128, PyData.str { cps := #[67, 79, 82, 79, 85, 84, 73, 78, 69] }), (256, PyData.str { cps := #[73, 84, 69, 82, 65, 66, 76, 69, 95, 67, 79, 82, 79, 85, 84, 73, 78, 69] }), (512, PyData.str { cps := #[65, 83, 89, 78, 67, 95, 71, 69, 78, 69, 82, 65, 84, 79, 82] })]
def flagLook (i : Nat) : Option Str := match KTD.datumAt ((2 ^ i : Nat) : Int) flagTab with
  | some (.str x) => some x
  | some _ => none
  | none => some (baseText "0x" 16 ((2 ^ i : Nat) : Int))
theorem flagLook_all : ∀ i, i < 32 → flagLook i = some (flagName i) := by decide +kernel
theorem flag_at {i : Nat} (h : i < 32) : (KTD.datumAt ((2 ^ i : Nat) : Int) flagTab).getD (PyData.str (baseText "0x" 16 ((2 ^ i : Nat) : Int))) = PyData.str (flagName i) := by
  have e := flagLook_all i h
  unfold flagLook at e
  split at e
  · rename_i h1; injection e with e; rw [h1, e]; rfl
  · cases e
  · rename_i h1; injection e with e; rw [h1, ← e]; rfl
theorem hex_len {i : Nat} (h : i < 32) : (baseText "0x" 16 ((2 ^ i : Nat) : Int)).length ≤ sizeLine := by
  revert i
  decide +kernel
/-- the bits from i on -/
def upper (f i : Nat) : Nat := (f >>> i) <<< i
theorem upper_zero (f : Nat) : upper f 0 = f := by simp [upper]
theorem upper_bit (f i j : Nat) : (upper f i).testBit j = (decide (i ≤ j) && f.testBit j) := by
  unfold upper
  rw [Nat.testBit_shiftLeft]
  by_cases h : i ≤ j
  · simp [h, Nat.testBit_shiftRight, Nat.add_sub_cancel' h]
  · simp [h]
theorem upper_off {f i : Nat} (h : f.testBit i = false) : upper f (i + 1) = upper f i := by
  apply Nat.eq_of_testBit_eq
  intro j
  rw [upper_bit, upper_bit]
  by_cases e : i = j
  · subst e; simp [h]
  · by_cases q : i ≤ j
    · have : i + 1 ≤ j := by omega
      simp [q, this]
    · have : ¬ i + 1 ≤ j := by omega
      simp [q, this]
theorem two_bit (i j : Nat) : (2 ^ i).testBit j = decide (i = j) := Nat.testBit_two_pow
theorem upper_and (f i : Nat) : upper f i &&& 2 ^ i = if f.testBit i then 2 ^ i else 0 := by
  apply Nat.eq_of_testBit_eq
  intro j
  rw [Nat.testBit_and, upper_bit, two_bit]
  by_cases e : i = j
  · subst e
    cases h : f.testBit i with
    | true => simp
    | false => simp
  · cases h : f.testBit i with
    | true => simp [e]
    | false => simp [e]
theorem upper_on {f i : Nat} (h : f.testBit i = true) : (upper f i ||| 2 ^ i) - (upper f i &&& 2 ^ i) = upper f (i + 1) := by
  have e1 : upper f i ||| 2 ^ i = upper f i := by
    apply Nat.eq_of_testBit_eq
    intro j
    rw [Nat.testBit_or, upper_bit, two_bit]
    by_cases e : i = j
    · subst e; simp [h]
    · simp [e]
  have e2 : upper f i = upper f (i + 1) ||| 2 ^ i := by
    apply Nat.eq_of_testBit_eq
    intro j
    rw [Nat.testBit_or, upper_bit, upper_bit, two_bit]
    by_cases e : i = j
    · subst e; simp [h]
    · by_cases q : i ≤ j
      · have : i + 1 ≤ j := by omega
        simp [q, this, e]
      · have : ¬ i + 1 ≤ j := by omega
        simp [q, this, e]
  have e3 : upper f (i + 1) &&& 2 ^ i = 0 := by
    apply Nat.eq_of_testBit_eq
    intro j
    rw [Nat.testBit_and, upper_bit, two_bit]
    by_cases e : i = j
    · subst e
      have : ¬ i + 1 ≤ i := by omega
      simp [this]
    · simp [e]
  rw [e1, upper_and, h]
  simp only [if_true]
  have e4 : upper f i = upper f (i + 1) + 2 ^ i := by
    rw [e2]
    unfold upper
    rw [← Nat.shiftLeft_add_eq_or_of_lt (by rw [Nat.pow_succ]; have := Nat.two_pow_pos i; omega)]
  omega
theorem upper_end {f n : Nat} (h : f < 2 ^ n) : upper f n = 0 := by
  unfold upper
  rw [Nat.shiftRight_eq_div_pow, Nat.div_eq_of_lt h]; simp
/-- the names of the bits below i -/
def fnames (f i : Nat) : List Str := ((List.range i).filter f.testBit).map flagName
theorem fnames_on {f i : Nat} (h : f.testBit i = true) : fnames f (i + 1) = fnames f i ++ [flagName i] := by
  unfold fnames
  rw [List.range_succ, List.filter_append]; simp [h]
theorem fnames_off {f i : Nat} (h : f.testBit i = false) : fnames f (i + 1) = fnames f i := by
  unfold fnames
  rw [List.range_succ, List.filter_append]; simp [h]
theorem fnames_add (f i : Nat) (h : upper f i = 0) : ∀ k, fnames f (i + k) = fnames f i := by
  intro k
  induction k with
  | zero => rfl
  | succ k ih =>
    have hb : f.testBit (i + k) = false := by
      have e := upper_bit f i (i + k)
      rw [h] at e
      simpa using e.symm
    rw [← Nat.add_assoc, fnames_off hb, ih]
theorem fnames_all {f i : Nat} (hi : i ≤ 32) (h : upper f i = 0) : fnames f 32 = fnames f i := by
  have := fnames_add f i h (32 - i)
  rwa [Nat.add_sub_cancel' hi] at this
theorem fnames_len (f i : Nat) : (fnames f i).length ≤ i := by
  unfold fnames
  rw [List.length_map]
  exact Nat.le_trans (List.length_filter_le _ _) (by simp)
theorem flagName_len : ∀ i, i < 32 → (flagName i).length ≤ 18 := by decide +kernel
theorem fnames_small (f : Nat) : ∀ x ∈ fnames f 32, x.length ≤ 18 := by
  intro x hx
  obtain ⟨i, hi, rfl⟩ := List.mem_map.mp hx
  exact flagName_len i (by simpa using (List.mem_filter.mp hi).1)
theorem sum_small {l : List Str} (h : ∀ x ∈ l, x.length ≤ 18) : (l.map (·.length)).sum ≤ 18 * l.length := by
  induction l with
  | nil => simp
  | cons a r ih =>
    have h1 := h a (.head _)
    have h2 := ih fun x hx => h x (.tail _ hx)
    simp only [List.map_cons, List.sum_cons, List.length_cons]
    omega
def prettyNames (f : Nat) : List Str := if f = 0 then [Str.ofString "0x0"] else fnames f 32
def prettyS (f : Nat) : Str := PySem.Txt.join (Str.ofString ", ") (prettyNames f)
theorem xor_int (a b : Nat) (h : a &&& b ≤ a ||| b) : Builtin.bitXor (a : Int) (b : Int) = (((a ||| b) - (a &&& b) : Nat) : Int) := by
  unfold Builtin.bitXor
  rw [bitOr_nat, bitAnd_nat]
  omega
theorem strs_are : ∀ qs : List (Str × Tok), StrsAre (strsT qs) (strsOf qs)
  | [] => .nil
  | q :: r => .cons q.1 q.2 (strs_are r)
end Mine
end

section
open PySem PySem.W PyProof.Rows
open PySem.Calls PySem.Spec PyProof.V PySem.Builtin PySem.Builtin.Str
namespace Mine
section
variable {prog : Program} {w : World} {A : Around} {E : Value → Shared → Prop} {s : Shared} {Q : Value → Shared → Prop}
theorem gen_toks {α : Type} {M : Model} {A : Around} {t : Sem α} {Q : α → Shared → Prop} {E : Value → Shared → Prop} {h : Heap} {g : Array GenState} {d : Drawn} {tk : Nat} {os : OsState} (k : ∀ tk', tk' = tk → wpAny M A t Q E ⟨h, g, d, tk', os⟩) : wpAny M A t Q E ⟨h, g, d, tk, os⟩ := k tk rfl
theorem numbered_ge : ∀ (tk : Nat) (xs : List Str), ∀ p ∈ numbered tk xs, tk ≤ p.2
  | _, [], _, h => nomatch h
  | tk, x :: r, p, h => by
    rcases List.mem_cons.mp (show p ∈ (x, tk) :: numbered (tk + 1) r from h) with rfl | h
    · exact Nat.le_refl _
    · exact Nat.le_trans (Nat.le_succ _) (numbered_ge (tk + 1) r p h)
theorem numbered_lt : ∀ (tk : Nat) (xs : List Str), ∀ p ∈ numbered tk xs, p.2 < tk + xs.length
  | _, [], _, h => nomatch h
  | tk, x :: r, p, h => by
    rcases List.mem_cons.mp (show p ∈ (x, tk) :: numbered (tk + 1) r from h) with rfl | h
    · show tk < tk + (r.length + 1); omega
    · exact Nat.lt_of_lt_of_le (numbered_lt (tk + 1) r p h) (Nat.le_of_eq (by rw [List.length_cons]; omega))
theorem strsT_eq (l : List (Str × Tok)) : strsT l = strValues l := rfl
/-- str.join: one item is handed out as it is -/
theorem join_listT {x : Str} {t : Tok} {D : Addr} {l : List (Str × Tok)} (hl : s.heap.IsList D (strsT l).toArray) (hsep : x.length ≤ 16) (hw : ((strsOf l).map (·.length)).sum + (strsOf l).length ≤ 1048576)
    (h : ∀ t' k, (∀ p, l = [p] → t' = p.2) → Q (.str (Txt.join x (strsOf l)) t') { s with toks := k }) : wpAny (model prog w) A (call (.builtin "str.join") [.str x t, .ref D]) Q E s := by
  have hok := joinOk_of (total_of_weight hw hsep)
  unfold JoinOk at hok
  rw [Bool.not_eq_true'] at hok
  refine call_meets F.slot_str_join (typeIs_str _ _ _) F.entry_str_join (F.args_str_join_2 _ _) (meets_str_join_list x t D l hok) ⟨hl, ?_⟩
  match l, h with
  | [], h => exact ⟨joinFit_length hok, h _ _ (fun p e => nomatch e)⟩
  | [p], h => exact h p.2 s.toks (fun q e => by cases e; rfl)
  | a :: b :: r, h => exact ⟨joinFit_length hok, h _ _ (fun p e => nomatch e)⟩
/-- str.split: fresh pieces, or the text itself -/
theorem split1T {x y : Str} {t u : Tok} {h₀ : Heap} {L : Addr} {m : Str → Option Value} {news : List (Addr × Obj)} (hF : Fr h₀ L s.heap m) (hN : News h₀ L s.heap news) (hy : (y.length == 0) = false)
    (h : ∀ D l h' k, l.map (·.1) = Txt.split x y → ((l = [(x, t)] ∧ k = s.toks) ∨ ∀ p ∈ l, s.toks ≤ p.2 ∧ p.2 < k) → (∀ p ∈ news, p.1 < D) → Fr h₀ L h' m → News h₀ L h' ((D, listOf (strsT l).toArray 0) :: news) → Q (.ref D) { s with heap := h', toks := k })
    (hsz : x.length + 2 ≤ sizeLine) :
    wpAny (model prog w) A (call (.builtin "str.split") [.str x t, .str y u]) Q E s := by
  have hlt : ∀ p ∈ news, p.1 < s.heap.objs.size := fun p hp => Heap.lt_size (hN p hp).1
  have hn : (partsBetween x (occurrences x y 0 x.length (x.length + 1)) y.length).length ≤ sizeLine := by
    have e1 := StrLaws.occ_length_le x y 0 x.length (x.length + 1)
    rw [length_partsBetween]; omega
  cases h1 : (decide (x.length < y.length) || decide (strKind x < strKind y))
  · cases hf : (occurrences x y 0 x.length (x.length + 1)).isEmpty
    · refine call_meets F.slot_str_split (typeIs_str _ _ _) F.entry_str_split (F.args_str_split_2 _ _) (meets_str_split_sep x y t u h1 hy hf (by omega) hn) ?_
      show wants Q E _ { s with toks := _, heap := s.heap.push { cls := .type "list", data := .seq (strsFrom s.toks (partsBetween x (occurrences x y 0 x.length (x.length + 1)) y.length)).toArray } }
      rw [strsFrom_eq]
      exact h _ (numbered s.toks _) _ _ ((numbered_texts _ _).trans ((if_neg (ne_true_of_eq_false h1)).trans (if_neg (ne_true_of_eq_false hf))).symm) (.inr (fun p hp => ⟨numbered_ge _ _ p hp, numbered_lt _ _ p hp⟩)) hlt (Fr.pushS hF _) (News.push hF hN _)
    · exact call_meets F.slot_str_split (typeIs_str _ _ _) F.entry_str_split (F.args_str_split_2 _ _) (meets_str_split_not_found x y t u h1 hy hf)
        (h _ [(x, t)] _ s.toks ((if_neg (ne_true_of_eq_false h1)).trans (if_pos hf)).symm (.inl ⟨rfl, rfl⟩) hlt (Fr.pushS hF _) (News.push hF hN _))
  · exact call_meets F.slot_str_split (typeIs_str _ _ _) F.entry_str_split (F.args_str_split_2 _ _) (meets_str_split_cannot_occur x y t u h1)
      (h _ [(x, t)] _ s.toks (if_pos h1).symm (.inl ⟨rfl, rfl⟩) hlt (Fr.pushS hF _) (News.push hF hN _))
theorem pairs_val {K : Type} [DecidableEq K] {knd : PySem.KeyKind prog w K} {es : List DictEntry} {kvs : List (K × Value)} (P : Pairs knd es kvs) {k : K} {v : Value} (h : valueAt kvs k = some v) : ∃ e ∈ es, e.val = v := by
  have e := P.find k
  rw [h] at e
  obtain ⟨a, b, c⟩ := Option.map_eq_some_iff.mp e
  exact ⟨a, List.mem_of_find?_eq_some b, c⟩
/-- dict.get: the entry's own value, or the other one -/
theorem get2T {i : Int} {t : Tok} {dflt : Value} {dd : PyData} {d : Addr} {D : List (Int × PyData)} {o : Obj} {es : Array DictEntry} {n : Nat} (ky : KTD.Keyed s.heap d D) (ho : s.heap.get? d = some o) (hd : o.data = .dict es n) (hx : Flat dflt dd)
    (h : ∀ v, Flat v ((KTD.datumAt i D).getD dd) → ((∃ e ∈ es.toList, e.val = v) ∨ KTD.datumAt i D = none) → Q v { s with toks := s.toks + 1 }) :
    wpAny (model prog w) A (call (.builtin "dict.get") [.ref d, .int i t, dflt]) Q E s := by
  obtain ⟨lo, kvs, hdo, hf⟩ := ky prog w
  obtain ⟨o', es', ep, ho', hex, hd', hk, hp, hnd⟩ := id hdo
  rw [ho] at ho'
  cases ho'
  rw [hd] at hd'
  cases hd'
  refine call_meetsIn PySem.F.slot_dict_get hdo.typeIs PySem.F.entry_dict_get (PySem.F.args_dict_get_3 _ _ _) (meets_dict_get_default _ d (intKind_is prog w i t) lo dflt) ⟨_, hdo.mapOf, h _ ?_ ?_⟩
  · have := hf.getD same_int i hx
    rwa [KTD.lookup_keyed] at this
  · cases hv : valueAt kvs i with
    | some v => exact .inl (by obtain ⟨e, he, hv'⟩ := pairs_val hp hv; exact ⟨e, he, hv'⟩)
    | none => exact .inr (by have := hf.absent same_int hv; rwa [KTD.lookup_keyed] at this)
end
end Mine
end

section
open PySem PySem.W PyProof.Rows
open PySem.Calls PySem.Spec
namespace Mine
theorem names_len {f i : Nat} {qs : List (Str × Tok)} (hq : strsOf qs = fnames f i) (hi : i ≤ 32) : qs.length ≤ 32 := by
  have e := congrArg List.length hq
  rw [List.length_map] at e
  have := fnames_len f i
  omega
theorem join_ok {f : Nat} {qs : List (Str × Tok)} (hq : strsOf qs = prettyNames f) : ((strsOf qs).map (·.length)).sum + (strsOf qs).length ≤ 1048576 := by
  rw [hq]
  unfold prettyNames
  by_cases h : f = 0
  · rw [if_pos h]; decide
  · rw [if_neg h]
    have h1 := sum_small (fnames_small f)
    have h2 := fnames_len f 32
    omega

theorem flag_some : ∀ i, i < 9 → KTD.datumAt ((2 ^ i : Nat) : Int) flagTab ≠ none := by
  have h : ∀ i, i < 9 → (KTD.datumAt ((2 ^ i : Nat) : Int) flagTab).isSome = true := by decide
  intro i hi e
  have := h i hi
  rw [e] at this
  cases this
theorem lt_of_bit {f i n : Nat} (hb : f.testBit i = true) (h : f < 2 ^ n) : i < n := by
  have h1 := Nat.ge_two_pow_of_testBit hb
  by_cases q : i < n
  · exact q
  · have := Nat.pow_le_pow_right (n := 2) (by decide) (Nat.le_of_not_lt q)
    omega
def okEntry (e : DictEntry) : Bool := match e.val with | .str _ t => decide (t ≠ 0 ∧ t ≤ 264) | _ => false
theorem tok_le {f i : Nat} {tv : Tok} {x : Str} {es : List DictEntry} (hb : f.testBit i = true) (h : f < 2 ^ 9) (hv : (∃ e ∈ es, e.val = .str x tv) ∨ KTD.datumAt ((2 ^ i : Nat) : Int) flagTab = none)
    (hes : es.all okEntry = true := by decide) : tv ≠ 0 ∧ tv ≤ 264 := by
  rcases hv with ⟨e, he, hv⟩ | hv
  · have h1 := List.all_eq_true.mp hes e he
    unfold okEntry at h1
    rw [hv] at h1
    exact of_decide_eq_true h1
  · exact absurd hv (flag_some i (lt_of_bit hb h))
set_option maxRecDepth 100000 in
set_option maxHeartbeats 4000000 in
theorem pf_call {w : World} {loose : List Str} {mean : ExcName → Option Value} {mg mb : Str → Option Value} {A : Around} {s : Shared} {Q E : Value → Shared → Prop} {f : Nat} {tf : Tok}
    (X : (hd.heap_39 w.params).In s.heap) (T : Top topProg loose mean mg mb s.heap) (R : Room A 1 60) (hf : f < 2 ^ 32) (h264 : 264 < s.toks)
    (hQ : ∀ (h' : Heap) (tk : Nat) (t : Tok), s.heap.StaysIn h' → (f < 2 ^ 9 → (prettyNames f).length = 1 → t ≠ 0 ∧ (f = 0 ∨ t ≤ 264)) → Q (.str (prettyS f) t) { s with heap := h', toks := tk }) :
    wpAny (model pw w) A (call (.ref 58) [.int (f : Int) tf] []) Q E s := by
  refine wpAny_call ?_
  refine' enter (binds := [("flags", .int (f : Int) tf)]) [] ?hroom X T.nolimit ?ho ?hcd ?hbind ?hco ?hgen ?hk ?hcell ?hloc ?_
  case hroom => exact (R.le (d' := 0) (u' := 0) (Nat.zero_le _) (Nat.zero_le _)).dep
  case ho => k_is
  case hcd => k_is
  case hbind => exact BindsTo.of_eq rfl
  case hco => rfl
  case hgen => rfl
  case hk => rfl
  case hcell => decide
  case hloc => exact locs rfl
  intro g L h₁ hg F HN
  have hgs : g = s.heap := hg
  subst hgs
  have N := HN [] (by intro p hp; cases hp)
  clear HN hg
  try dsimp only [List.reverse, List.reverseAux] at F
  try dsimp only
  show wpAny _ _ _ _ _ _
  refine gen_toks fun tk0 htk0 => ?_
  have h264' : 264 < tk0 := by rw [htk0]; exact Nat.lt_of_lt_of_le h264 (Nat.le_add_right _ _)
  show wpAny _ _ _ _ _ _
  k_fold
  repeat' ((fail_if_success (with_reducible show wpAny _ _ (execs (Stmt.For _ _ _ _ _ :: _) _) _ _ _)); (first | walk1 | (dsimp only; walk1)))
  dsimp only
  refine gen_toks fun tk1 htk1 => ?_
  have h264'' : 264 < tk1 := by omega
  show wpAny _ _ _ _ _ _
  repeat' ((fail_if_success (with_reducible show wpAny _ _ (exec (Stmt.For _ _ _ _ _) _) _ _ _)); (first | walk1 | (dsimp only; walk1)))
  refine wpAny_For ?_
  repeat' ((fail_if_success (with_reducible show wpAny _ _ (call (Value.type _) _ _) _ _ _)); (first | walk1 | (dsimp only; walk1)))
  refine call_range_1 ?_
  rename Fr _ _ _ _ => F2
  rename News _ _ _ _ => N2
  rename_i lN h9 l9 h10
  refine fr_name F2 fun m0 em0 F2 => ?_
  dsimp only
  have F3 := F2.push { cls := .type "range", data := .fields #[.int 0 (tk1 + 1), .int 32 tk1, .int 1 (tk1 + 1 + 1)] }
  have N3 : News s.heap L _ _ := fun p hp => (⟨Heap.get?_push_of_some { cls := .type "range", data := .fields #[.int 0 (tk1 + 1), .int 32 tk1, .int 1 (tk1 + 1 + 1)] } (N2 p hp).1, (N2 p hp).2⟩)
  refine for_range (L := L) (n := 32) (a := 0) (b := 32) (fun i m news tk => 264 < tk ∧ ∃ (qs : List (Str × Tok)) (n : Nat) (tf : Tok), news = [(lN, listOf (strsT qs).toArray n)] ∧ strsOf qs = fnames f i ∧ (f ≠ 0 → upper f i ≠ 0) ∧ (f < 2 ^ 9 → ∀ q ∈ qs, q.2 ≠ 0 ∧ q.2 ≤ 264) ∧ Loc m0 ["i", "flag"] [("flags", .int (upper f i : Nat) tf)] m) rfl rfl rfl R.hh (IsRange.new _ _ _ _ _ _ _) (by decide) (by decide) (by decide) (by decide) (by decide) F3 N3 ?h0 ?turn ?done
  case h0 =>
    subst em0
    exact ⟨by show 264 < tk1 + 1 + 1 + 1; omega, [], 0, tf, rfl, rfl, (fun h => by rw [upper_zero]; exact h), fun _ _ h => (nomatch h), Loc.mk (by rw [upper_zero]; kst_all) (fun _ _ _ => rfl)⟩
  case turn =>
    rintro i ti m₁ news₁ h₂ tk₁ tk₂ I o hi ⟨hkt, qs, n, tf, rfl, hq, hnz, hqt, u, rfl⟩ hti htk hI F4 N4
    subst em0
    have hne : lN ≠ I := hI _ (.head _)
    have epow : (1 * 2 ^ (0 + (i : Int)).toNat : Int) = ((2 ^ i : Nat) : Int) := by rw [Int.one_mul, Int.zero_add, Int.toNat_natCast]; norm_cast
    have hand : Builtin.bitAnd (upper f i : Nat) ((2 ^ i : Nat) : Int) = ((if f.testBit i then 2 ^ i else 0 : Nat) : Int) := by rw [bitAnd_nat, upper_and]
    have hlen : (strsT qs).toArray.size ≤ sizeLine := by
      have := names_len hq (by omega)
      rw [sizeLine_eq, List.size_toArray, List.length_map]
      omega
    dsimp only [kstB] at F4
    show wpAny _ _ _ _ _ _
    refine wpAny_with_toks (n := tk₂) (Nat.le_refl _) ?_
    k_fold
    repeat' ((fail_if_success (with_reducible show wpAny _ _ (call (Value.builtin "hex") _ _) _ _ _)); (first | k_unfold | walk1 | (dsimp only; walk1)))
    · rename Fr _ _ _ _ => F5
      rename News _ _ _ _ => N5
      rename KTD.Keyed _ _ _ => ky
      rename Builtin.bitAnd _ _ ≠ 0 => hbit
      rw [epow] at hbit F5
      rw [hand] at hbit
      rw [epow]
      have hb : f.testBit i = true := by
        cases h : f.testBit i with
        | true => rfl
        | false => rw [h] at hbit; exact absurd rfl hbit
      have hx : Builtin.bitXor (upper f i : Nat) ((2 ^ i : Nat) : Int) = ((upper f (i + 1) : Nat) : Int) := by
        rw [xor_int _ _ (Nat.le_trans Nat.and_le_left Nat.left_le_or), upper_on hb]
      refine P.hex_of_int ?_ (hex_len hi)
      repeat' ((fail_if_success (with_reducible show wpAny _ _ (call (Value.builtin "dict.get") _ _) _ _ _)); (first | k_unfold | walk1 | (dsimp only; walk1)))
      rename Fr _ _ _ _ => F5b
      refine get2T (ky.keep F5b.keep) ((X.keeps F5b.keep) 51 _ (by k_is)) rfl (PyProof.V.Flat.str _ _) fun v hv hvt => ?_
      have hv' : PyProof.V.Flat v (PyData.str (flagName i)) := flag_at hi ▸ hv
      obtain ⟨tv, rfl⟩ := hv'.str_inv
      have htv : f < 2 ^ 9 → tv ≠ 0 ∧ tv ≤ 264 := fun h => tok_le hb h hvt
      clear hv hv' hvt
      repeat' ((fail_if_success (with_reducible show wpAny _ _ (call (Value.builtin "list.append") _ _) _ _ _)); (first | k_unfold | walk1 | (dsimp only; walk1)))
      rename Fr _ _ _ _ => F6
      rename News _ _ _ _ => N6
      refine append_K F6 N6 (Upd.tail (Ne.symm hne) (Upd.head (fun _ h => nomatch h))) ?_ hlen
      intro h7 F7 N7
      have eN : (strsT qs).toArray.push (Value.str (flagName i) tv) = (strsT (qs ++ [(flagName i, tv)])).toArray := by simp
      have hq' : strsOf (qs ++ [(flagName i, tv)]) = fnames f (i + 1) := by rw [fnames_on hb, ← hq]; simp
      have hqt' : f < 2 ^ 9 → ∀ q ∈ qs ++ [(flagName i, tv)], q.2 ≠ 0 ∧ q.2 ≤ 264 := fun h q hq => by
        rcases List.mem_append.mp hq with hq | hq
        · exact hqt h q hq
        · rcases List.mem_singleton.mp hq with rfl; exact htv h
      repeat' ((first | k_unfold | walk1 | (dsimp only; walk1)))
      · rename Fr _ _ _ _ => F8
        rename News _ _ _ _ => N8
        rename Builtin.bitXor _ _ ≠ 0 => hxx
        rw [hx] at hxx F8
        rw [eN] at N8
        rename tk₂ ≤ _ => htt
        exact LEnd.mk (nx := [(lN, listOf (strsT (qs ++ [(flagName i, tv)])).toArray (n + 1))]) F8 N8 (fun _ h => by rcases List.mem_singleton.mp h with rfl; exact .head _) (fun _ h => .tail _ h)
          (fun p hp q hq => by rcases List.mem_singleton.mp hp with rfl; rcases List.mem_singleton.mp hq with rfl; exact hne)
          ⟨by dsimp only at htt; omega, qs ++ [(flagName i, tv)], n + 1, _, rfl, hq', (fun _ e => hxx (by rw [e]; rfl)), hqt', Loc.mk (by kst_all) (by ksw_same)⟩
      · rename Fr _ _ _ _ => F8
        rename News _ _ _ _ => N8
        rename Builtin.bitXor _ _ = 0 => hxx
        rw [hx] at hxx F8
        rw [eN] at N8
        have hu : upper f (i + 1) = 0 := by omega
        have hf0 : f ≠ 0 := by rintro rfl; simp at hb
        have hall : strsOf (qs ++ [(flagName i, tv)]) = prettyNames f := by
          unfold prettyNames
          rw [if_neg hf0, hq', fnames_all (by omega) hu]
        show wpAny _ _ (execs _ _) _ _ _
        try k_fold
        repeat' ((fail_if_success (with_reducible show wpAny _ _ (call (Value.builtin "str.join") _ _) _ _ _)); (first | k_unfold | walk1 | (dsimp only; walk1)))
        rename Fr _ _ _ _ => F9
        rename News _ _ _ _ => N9
        refine join_listT (l := qs ++ [(flagName i, tv)]) ⟨_, (N9 _ (.tail _ (.head _))).1, rfl, _, rfl⟩ (by decide) (join_ok hall) ?_
        intro t9 k9 ht9
        rw [hall]
        repeat' ((first | k_unfold | walk1 | (dsimp only; walk1)))
        refine hQ _ _ _ F9.keep fun h h1 => ?_
        rw [← hall, List.length_map] at h1
        obtain ⟨p, hp⟩ := List.length_eq_one_iff.mp h1
        rw [ht9 p hp]
        have := hqt' h p (by rw [hp]; exact .head _)
        exact ⟨this.1, .inr this.2⟩
    · rename Fr _ _ _ _ => F8
      rename News _ _ _ _ => N8
      rename Builtin.bitAnd _ _ = 0 => hbit
      rw [epow] at hbit F8
      rw [hand] at hbit
      have hb : f.testBit i = false := by
        cases h : f.testBit i with
        | false => rfl
        | true =>
          rw [h] at hbit
          simp only [if_true] at hbit
          have := Nat.two_pow_pos i
          omega
      rename tk₂ ≤ _ => htt
      exact LEnd.mk (nx := [(lN, listOf (strsT qs).toArray n)]) F8 N8 (fun _ h => by rcases List.mem_singleton.mp h with rfl; exact .head _) (fun _ h => .tail _ h)
        (fun p hp q hq => by rcases List.mem_singleton.mp hp with rfl; rcases List.mem_singleton.mp hq with rfl; exact hne)
        ⟨by dsimp only at htt; omega, qs, n, _, rfl, by rw [fnames_off hb]; exact hq, by rw [upper_off hb]; exact hnz, hqt, Loc.mk (by rw [upper_off hb]; kst_all) (by ksw_same)⟩
  case done =>
    rintro m₁ news₁ h₂ tk₁ tk₂ ⟨hkt, qs, n, tf, rfl, hq, hnz, hqt, u, rfl⟩ htk F4 N4
    subst em0
    have hu : upper f 32 = 0 := upper_end hf
    have hf0 : f = 0 := by
      by_cases h : f = 0
      · exact h
      · exact absurd hu (hnz h)
    have hqs : qs = [] := by
      subst hf0
      have : strsOf qs = [] := hq.trans (by decide)
      exact List.map_eq_nil_iff.mp this
    subst hqs
    rw [hu] at F4
    dsimp only [kstB] at F4
    show wpAny _ _ _ _ _ _
    k_fold
    repeat' ((fail_if_success (with_reducible show wpAny _ _ (call (Value.builtin "hex") _ _) _ _ _)); (first | k_unfold | walk1 | (dsimp only; walk1)))
    rename Fr _ _ _ _ => F6
    rename News _ _ _ _ => N6
    refine P.hex_of_int ?_ (by decide)
    repeat' ((fail_if_success (with_reducible show wpAny _ _ (call (Value.builtin "list.append") _ _) _ _ _)); (first | k_unfold | walk1 | (dsimp only; walk1)))
    rename Fr _ _ _ _ => F7
    rename News _ _ _ _ => N7
    refine append_K F7 N7 (Upd.head (fun _ h => nomatch h)) ?_ (by rw [sizeLine_eq]; decide)
    intro h7 F8 N8
    repeat' ((fail_if_success (with_reducible show wpAny _ _ (call (Value.builtin "str.join") _ _) _ _ _)); (first | k_unfold | walk1 | (dsimp only; walk1)))
    rename Fr _ _ _ _ => F9
    rename News _ _ _ _ => N9
    have hall : [baseText "0x" 16 ((0 : Nat) : Int)] = prettyNames f := by
      subst hf0
      decide
    refine join_listT (l := [(baseText "0x" 16 ((0 : Nat) : Int), tk₂)]) ⟨_, (N9 _ (.head _)).1, rfl, _, rfl⟩ (by decide) (show ([baseText "0x" 16 ((0 : Nat) : Int)].map (·.length)).sum + 1 ≤ 1048576 by decide) ?_
    intro t9 k9 ht9
    rw [show strsOf [(baseText "0x" 16 ((0 : Nat) : Int), tk₂)] = prettyNames f from hall]
    repeat' ((first | k_unfold | walk1 | (dsimp only; walk1)))
    refine hQ _ _ _ F9.keep fun _ _ => ?_
    rw [ht9 _ rfl]
    exact ⟨by show tk₂ ≠ 0; omega, .inl hf0⟩
end Mine
end

section
open PySem PySem.W PyProof.Rows
open PySem.Calls PySem.Spec
namespace Mine
/-- the number whose bits below n are b's -/
def bitsOf (b : Nat → Bool) : Nat → Nat
  | 0 => 0
  | n + 1 => bitsOf b n ||| (if b n then 1 <<< n else 0)
theorem bitsOf_bit (b : Nat → Bool) (n j : Nat) : (bitsOf b n).testBit j = (decide (j < n) && b j) := by
  induction n with
  | zero => simp [bitsOf]
  | succ n ih =>
    unfold bitsOf
    rw [Nat.testBit_or, ih]
    by_cases h : j = n
    · subst h
      cases hb : b j <;> simp [Nat.testBit_shiftLeft]
    · have h1 : decide (j < n + 1) = decide (j < n) := by
        apply decide_eq_decide.mpr; omega
      rw [h1]
      have h2 : (if b n = true then 1 <<< n else 0 : Nat).testBit j = false := by
        split
        · rw [Nat.one_shiftLeft, Nat.testBit_two_pow]
          simp; omega
        · simp
      rw [h2, Bool.or_false]
theorem bitsOf_lt (b : Nat → Bool) (n : Nat) : bitsOf b n < 2 ^ n := by
  apply Nat.lt_pow_two_of_testBit
  intro j hj
  rw [bitsOf_bit]
  have : ¬ j < n := by omega
  simp [this]
theorem bitsOf_mono (b : Nat → Bool) (n m : Nat) (h : n ≤ m) : bitsOf b n < 2 ^ m := Nat.lt_of_lt_of_le (bitsOf_lt b n) (Nat.pow_le_pow_right (by decide) h)
theorem bitsOf_on {b : Nat → Bool} {n : Nat} (h : b n = true) : bitsOf b (n + 1) = bitsOf b n ||| 1 <<< n := by
  rw [bitsOf, if_pos h]
theorem bitsOf_off {b : Nat → Bool} {n : Nat} (h : b n = false) : bitsOf b (n + 1) = bitsOf b n := by
  rw [bitsOf, if_neg (by rw [h]; decide), Nat.or_zero]
/-- which of ns reach the level -/
def reach (ns : List Int) (lv : Int) (j : Nat) : Bool := decide (lv ≤ ns.getD j 0)

set_option maxRecDepth 100000 in
set_option maxHeartbeats 4000000 in
theorem flags_call {w : World} {loose : List Str} {mean : ExcName → Option Value} {mg mb : Str → Option Value} {A : Around} {s : Shared} {Q E : Value → Shared → Prop} {l : Addr} {ps : List (Int × Tok)} {b : Int} {tb : Tok}
    (X : (hd.heap_39 w.params).In s.heap) (T : Top topProg loose mean mg mb s.heap) (R : Room A 2 60)
    (hl : s.heap.IsList l (tInts ps).toArray) (hlen : ps.length ≤ 32)
    (hQ : ∀ (h' : Heap) (tk : Nat) (t : Tok), s.heap.StaysIn h' → Q (.int (bitsOf (reach (nums ps) b) ps.length : Nat) t) { s with heap := h', toks := tk }) :
    wpAny (model pw w) A (call (.ref 149) [.ref l, .int b tb] []) Q E s := by
  refine wpAny_call ?_
  refine' enter (binds := [("row", .ref l), ("level", .int b tb)]) [] ?hroom X T.nolimit ?ho ?hcd ?hbind ?hco ?hgen ?hk ?hcell ?hloc ?_
  case hroom => exact (R.le (d' := 0) (u' := 0) (Nat.zero_le _) (Nat.zero_le _)).dep
  case ho => k_is
  case hcd => k_is
  case hbind => exact BindsTo.of_eq rfl
  case hco => rfl
  case hgen => rfl
  case hk => rfl
  case hcell => decide
  case hloc => exact locs rfl
  intro g L h₁ hg F HN
  have hgs : g = s.heap := hg
  subst hgs
  have N := HN [] (by intro p hp; cases hp)
  clear HN hg
  try dsimp only [List.reverse, List.reverseAux] at F
  try dsimp only
  show wpAny _ _ _ _ _ _
  k_fold
  repeat' ((fail_if_success (with_reducible show wpAny _ _ (exec (Stmt.For _ _ _ _ _) _) _ _ _)); (first | walk1 | (dsimp only; walk1)))
  refine wpAny_For ?_
  repeat' ((fail_if_success (with_reducible show wpAny _ _ (call (Value.type _) _ _) _ _ _)); (first | walk1 | (dsimp only; walk1)))
  rename Fr _ _ _ _ => F2
  rename News _ _ _ _ => N2
  refine fr_name F2 fun m0 em0 F2 => ?_
  refine for_enum (L := L) (items := tInts ps) (fun i m news _ => news = [] ∧ ∃ tc, Loc m0 ["place", "x"] [("flags", .int (bitsOf (reach (nums ps) b) i : Nat) tc)] m) rfl rfl rfl R.hh rfl rfl rfl F2 N2 ?h0 ?hl ?turn ?done
  case h0 => subst em0; exact ⟨rfl, _, Loc.mk (by kst_all) (fun _ _ _ => rfl)⟩
  case hl => exact fun _ _ _ h _ _ F _ => let ⟨o, a, r⟩ := hl; ⟨o, F.keep _ _ a, r⟩
  case turn =>
    rintro i v m₁ news₁ h₂ tk₁ tk₂ ti own hv ⟨rfl, tc, u, rfl⟩ hti htk hI - F3 N3
    subst em0
    obtain ⟨p, hp', rfl⟩ : ∃ p, ps[i]? = some p ∧ v = .int p.1 p.2 := by
      rw [List.getElem?_map] at hv
      obtain ⟨p, a, b⟩ := Option.map_eq_some_iff.mp hv
      exact ⟨p, a, b.symm⟩
    have hi : i < ps.length := (List.getElem?_eq_some_iff.mp hp').1
    have hnx : (nums ps).getD i 0 = p.1 := by rw [List.getD_eq_getElem?_getD, List.getElem?_map, hp']; rfl
    dsimp only [kstB] at F3
    refine wpAny_assign_Name ?_
    show wpAny _ _ _ _ _ _
    k_fold
    repeat' ((fail_if_success (with_reducible show wpAny _ _ (call (Value.ref _) _ _) _ _ _)); (first | walk1 | (dsimp only; walk1)))
    rename Fr _ _ _ _ => F4
    rename News _ _ _ _ => N4
    refine ge_call (X.keeps F4.keep) (T.keeps F4.keep) (R.deep.le (by decide) (by decide)) ?_
    intro h5 tk5 k5
    have F5 := stays_fr k5 F4
    have N5 := stays_news k5 N4
    clear F4 N4
    repeat' ((fail_if_success (with_reducible show wpAny _ _ (call (Value.ref _) _ _) _ _ _)); (first | k_unfold | walk1 | (dsimp only; walk1)))
    · rename Fr _ _ _ _ => F4
      rename News _ _ _ _ => N4
      rename (decide (b ≤ p.fst) == true) = true => hge
      rw [beq_true] at hge
      have hb : reach (nums ps) b i = true := by unfold reach; rw [hnx]; exact hge
      refine lshift_call (a := 1) (b := i) (X.keeps F4.keep) (T.keeps F4.keep) (R.deep.le (by decide) (by decide)) (by decide) (by omega) ?_
      intro h6 tk6 t6 k6
      have F6 := stays_fr k6 F4
      have N6 := stays_news k6 N4
      clear F4 N4
      repeat' ((fail_if_success (with_reducible show wpAny _ _ (call (Value.ref _) _ _) _ _ _)); (first | k_unfold | walk1 | (dsimp only; walk1)))
      rename Fr _ _ _ _ => F7
      rename News _ _ _ _ => N7
      refine or_call (X.keeps F7.keep) (T.keeps F7.keep) (R.deep.le (by decide) (by decide)) ?_
      intro h8 tk8 t8 k8
      have F8 := stays_fr k8 F7
      have N8 := stays_news k8 N7
      clear F7 N7
      repeat' (first | k_unfold | walk1 | (dsimp only; walk1))
      rename Fr _ _ _ _ => F9
      rename News _ _ _ _ => N9
      exact LEnd.mk (nx := []) F9 N9 (fun _ h => List.mem_append_left _ h) (fun _ h => nomatch h) (fun _ h => nomatch h) ⟨rfl, _, Loc.mk (by rw [bitsOf_on hb]; kst_all) (by ksw_same)⟩
    · rename Fr _ _ _ _ => F4
      rename News _ _ _ _ => N4
      rename (decide (b ≤ p.fst) == true) = false => hge
      rw [beq_true] at hge
      have hb : reach (nums ps) b i = false := by unfold reach; rw [hnx]; exact hge
      exact LEnd.mk (nx := []) F4 N4 (fun _ h => List.mem_append_left _ h) (fun _ h => nomatch h) (fun _ h => nomatch h) ⟨rfl, _, Loc.mk (by rw [bitsOf_off hb]; kst_all) (by ksw_same)⟩
  case done =>
    rintro m₁ news₁ h₂ tk₁ tk₂ ⟨rfl, tc, u, rfl⟩ htk F3 N3
    subst em0
    dsimp only [kstB] at F3
    show wpAny _ _ _ _ _ _
    k_fold
    repeat' (first | walk1 | (dsimp only; walk1))
    rename Fr _ _ _ _ => F6
    have q := hQ _ tk₂ tc F6.keep
    rw [show (tInts ps).length = ps.length by simp]
    exact q
/-- flags, each bit from where order says -/
def moved (f : Nat) (ns : List Int) (j : Nat) : Bool := f.testBit (ns.getD j 0).toNat
set_option maxRecDepth 100000 in
set_option maxHeartbeats 4000000 in
theorem moved_call {w : World} {loose : List Str} {mean : ExcName → Option Value} {mg mb : Str → Option Value} {A : Around} {s : Shared} {Q E : Value → Shared → Prop} {l : Addr} {ps : List (Int × Tok)} {f : Nat} {tf : Tok}
    (X : (hd.heap_39 w.params).In s.heap) (T : Top topProg loose mean mg mb s.heap) (R : Room A 2 60)
    (hl : s.heap.IsList l (tInts ps).toArray) (hlen : ps.length ≤ 32) (hf : f < 2 ^ 32) (hp : ∀ p ∈ ps, 0 ≤ p.1 ∧ p.1 < 32)
    (hQ : ∀ (h' : Heap) (tk : Nat) (t : Tok), s.heap.StaysIn h' → Q (.int (bitsOf (moved f (nums ps)) ps.length : Nat) t) { s with heap := h', toks := tk }) :
    wpAny (model pw w) A (call (.ref 142) [.int (f : Int) tf, .ref l] []) Q E s := by
  refine wpAny_call ?_
  refine' enter (binds := [("flags", .int (f : Int) tf), ("order", .ref l)]) [] ?hroom X T.nolimit ?ho ?hcd ?hbind ?hco ?hgen ?hk ?hcell ?hloc ?_
  case hroom => exact (R.le (d' := 0) (u' := 0) (Nat.zero_le _) (Nat.zero_le _)).dep
  case ho => k_is
  case hcd => k_is
  case hbind => exact BindsTo.of_eq rfl
  case hco => rfl
  case hgen => rfl
  case hk => rfl
  case hcell => decide
  case hloc => exact locs rfl
  intro g L h₁ hg F HN
  have hgs : g = s.heap := hg
  subst hgs
  have N := HN [] (by intro p hp; cases hp)
  clear HN hg
  try dsimp only [List.reverse, List.reverseAux] at F
  try dsimp only
  show wpAny _ _ _ _ _ _
  k_fold
  repeat' ((fail_if_success (with_reducible show wpAny _ _ (exec (Stmt.For _ _ _ _ _) _) _ _ _)); (first | walk1 | (dsimp only; walk1)))
  refine wpAny_For ?_
  repeat' ((fail_if_success (with_reducible show wpAny _ _ (call (Value.type _) _ _) _ _ _)); (first | walk1 | (dsimp only; walk1)))
  rename Fr _ _ _ _ => F2
  rename News _ _ _ _ => N2
  refine fr_name F2 fun m0 em0 F2 => ?_
  refine for_enum (L := L) (items := tInts ps) (fun i m news _ => news = [] ∧ ∃ tc, Loc m0 ["place", "source"] [("moved", .int (bitsOf (moved f (nums ps)) i : Nat) tc)] m) rfl rfl rfl R.hh rfl rfl rfl F2 N2 ?h0 ?hl ?turn ?done
  case h0 => subst em0; exact ⟨rfl, _, Loc.mk (by kst_all) (fun _ _ _ => rfl)⟩
  case hl => exact fun _ _ _ h _ _ F _ => let ⟨o, a, r⟩ := hl; ⟨o, F.keep _ _ a, r⟩
  case turn =>
    rintro i v m₁ news₁ h₂ tk₁ tk₂ ti own hv ⟨rfl, tc, u, rfl⟩ hti htk hI - F3 N3
    subst em0
    obtain ⟨p, hp', rfl⟩ : ∃ p, ps[i]? = some p ∧ v = .int p.1 p.2 := by
      rw [List.getElem?_map] at hv
      obtain ⟨p, a, b⟩ := Option.map_eq_some_iff.mp hv
      exact ⟨p, a, b.symm⟩
    have hi : i < ps.length := (List.getElem?_eq_some_iff.mp hp').1
    have hnx : (nums ps).getD i 0 = p.1 := by rw [List.getD_eq_getElem?_getD, List.getElem?_map, hp']; rfl
    dsimp only [kstB] at F3
    refine wpAny_assign_Name ?_
    show wpAny _ _ _ _ _ _
    k_fold
    repeat' ((fail_if_success (with_reducible show wpAny _ _ (call (Value.ref _) _ _) _ _ _)); (first | walk1 | (dsimp only; walk1)))
    rename Fr _ _ _ _ => F4
    rename News _ _ _ _ => N4
    obtain ⟨hp0, hp1⟩ := hp p (List.mem_of_getElem? hp')
    obtain ⟨src, hsrc⟩ := Int.eq_ofNat_of_zero_le hp0
    have hm : (moved f (nums ps) i) = f.testBit src := by unfold moved; rw [hnx, hsrc, Int.toNat_natCast]
    rw [hsrc] at F4 ⊢
    refine rshift_call (X.keeps F4.keep) (T.keeps F4.keep) (R.deep.le (by decide) (by decide)) (by omega) (by omega) ?_
    intro h5 tk5 t5 k5
    have F5 := stays_fr k5 F4
    have N5 := stays_news k5 N4
    clear F4 N4
    repeat' ((fail_if_success (with_reducible show wpAny _ _ (call (Value.ref _) _ _) _ _ _)); (first | k_unfold | walk1 | (dsimp only; walk1)))
    rename Fr _ _ _ _ => F7
    rename News _ _ _ _ => N7
    refine and_call (b := 1) (X.keeps F7.keep) (T.keeps F7.keep) (R.deep.le (by decide) (by decide)) ?_
    intro h8 tk8 t8 k8
    have F8 := stays_fr k8 F7
    have N8 := stays_news k8 N7
    clear F7 N7
    have hone : f >>> src &&& 1 = if f.testBit src then 1 else 0 := by
      rw [Nat.testBit_eq_decide_div_mod_eq, Nat.and_one_is_mod, Nat.shiftRight_eq_div_pow]
      rcases Nat.mod_two_eq_zero_or_one (f / 2 ^ src) with h | h <;> simp [h]
    repeat' ((fail_if_success (with_reducible show wpAny _ _ (call (Value.ref _) _ _) _ _ _)); (first | k_unfold | walk1 | (dsimp only; walk1)))
    rename Fr _ _ _ _ => F9
    rename News _ _ _ _ => N9
    refine lshift_call (b := i) (X.keeps F9.keep) (T.keeps F9.keep) (R.deep.le (by decide) (by decide)) (by rw [hone]; split <;> decide) (by omega) ?_
    intro h10 tk10 t10 k10
    have F10 := stays_fr k10 F9
    have N10 := stays_news k10 N9
    clear F9 N9
    repeat' ((fail_if_success (with_reducible show wpAny _ _ (call (Value.ref _) _ _) _ _ _)); (first | k_unfold | walk1 | (dsimp only; walk1)))
    rename Fr _ _ _ _ => F11
    rename News _ _ _ _ => N11
    refine or_call (X.keeps F11.keep) (T.keeps F11.keep) (R.deep.le (by decide) (by decide)) ?_
    intro h12 tk12 t12 k12
    have F12 := stays_fr k12 F11
    have N12 := stays_news k12 N11
    clear F11 N11
    repeat' (first | k_unfold | walk1 | (dsimp only; walk1))
    rename Fr _ _ _ _ => F13
    rename News _ _ _ _ => N13
    have hbits : bitsOf (moved f (nums ps)) i ||| (f >>> src &&& 1) <<< i = bitsOf (moved f (nums ps)) (i + 1) := by
      rw [hone]
      cases hb : f.testBit src with
      | true => rw [bitsOf_on (hm.trans hb)]; rfl
      | false => rw [bitsOf_off (hm.trans hb)]; simp
    exact LEnd.mk (nx := []) F13 N13 (fun _ h => List.mem_append_left _ h) (fun _ h => nomatch h) (fun _ h => nomatch h) ⟨rfl, _, Loc.mk (by rw [← hbits]; kst_all) (by ksw_same)⟩
  case done =>
    rintro m₁ news₁ h₂ tk₁ tk₂ ⟨rfl, tc, u, rfl⟩ htk F3 N3
    subst em0
    dsimp only [kstB] at F3
    show wpAny _ _ _ _ _ _
    k_fold
    repeat' (first | walk1 | (dsimp only; walk1))
    rename Fr _ _ _ _ => F6
    have q := hQ _ tk₂ tc F6.keep
    rw [show (tInts ps).length = ps.length by simp]
    exact q
end Mine
end

section
open PySem PySem.W PyProof.Rows
open PySem.Calls PySem.Spec PySem.Builtin PySem.Builtin.Str PySem.StrLaws
namespace Mine
abbrev sep2 : Str := Str.ofString ", "
theorem sep2_list : sep2.cps.toList = [44, 32] := by decide
theorem sep2_len : sep2.length = 2 := by decide
theorem at_iff (x : Str) (i : Nat) : At x sep2 x.length i ↔ ∃ r, x.cps.toList.drop i = 44 :: 32 :: r := by
  unfold At
  rw [subAt_eq, sep2_len, sep2_list]
  have hn : x.length = x.cps.toList.length := by simp [Str.length]
  rw [hn]
  generalize x.cps.toList = L
  constructor
  · rintro ⟨h1, h2⟩
    have h2 := eq_of_beq h2
    refine ⟨L.drop (i + 2), ?_⟩
    have := List.take_append_drop 2 (L.drop i)
    rw [h2, List.drop_drop] at this
    exact this.symm
  · rintro ⟨r, hr⟩
    refine ⟨?_, by rw [hr]; rfl⟩
    have := congrArg List.length hr
    simp at this
    omega
theorem parts_join (x : Str) : ∀ (names : List Str), names ≠ [] → (∀ n ∈ names, 44 ∉ n.cps.toList) → ∀ (a : Nat) (cuts : List Nat) (f : Nat), ChainG x sep2 x.length a cuts f → (∀ k, f ≤ k → ¬ At x sep2 x.length k) →
    x.cps.toList.drop a = (Str.join sep2 names).cps.toList → a ≤ x.length → partsFrom x 2 a cuts = names
  | [], h, _, _, _, _, _, _, _, _ => absurd rfl h
  | [n], _, hno, a, cuts, f, hc, hf, hd, ha => by
    have hd' : x.cps.toList.drop a = n.cps.toList := hd
    have hsub : strSub x a x.length = n := by
      apply Str.ext'
      apply Array.toList_inj.mp
      rw [strSub_toList, hd']
      apply List.take_of_length_le
      rw [← hd']
      simp [Str.length]
    cases cuts with
    | nil => show [strSub x a x.length] = [n]; rw [hsub]
    | cons c r =>
      exfalso
      obtain ⟨h1, h2, _⟩ := hc
      obtain ⟨r', hr⟩ := (at_iff x c).mp h2
      have : (44 : Nat) ∈ x.cps.toList.drop c := by rw [hr]; exact .head _
      have h3 : x.cps.toList.drop c = (x.cps.toList.drop a).drop (c - a) := by rw [List.drop_drop]; congr 1; omega
      rw [h3, hd'] at this
      exact hno n (.head _) (List.mem_of_mem_drop this)
  | n :: m :: rest, _, hno, a, cuts, f, hc, hf, hd, ha => by
    have hd' : x.cps.toList.drop a = n.cps.toList ++ (44 :: 32 :: (Str.join sep2 (m :: rest)).cps.toList) := by
      rw [hd]
      show (n ++ sep2 ++ Str.join sep2 (m :: rest)).cps.toList = _
      simp only [Str.cps_append, Array.toList_append, sep2_list, List.append_assoc]
      rfl
    have hdr : ∀ k, x.cps.toList.drop (a + k) = (n.cps.toList ++ (44 :: 32 :: (Str.join sep2 (m :: rest)).cps.toList)).drop k := fun k => by
      rw [← hd', List.drop_drop]
    have hat : At x sep2 x.length (a + n.cps.toList.length) := (at_iff x _).mpr ⟨(Str.join sep2 (m :: rest)).cps.toList, by rw [hdr, List.drop_left']; rfl⟩
    have hnat : ∀ k, a ≤ k → k < a + n.cps.toList.length → ¬ At x sep2 x.length k := by
      intro k h1 h2 h3
      obtain ⟨r', hr⟩ := (at_iff x k).mp h3
      have e : k = a + (k - a) := by omega
      rw [e, hdr, List.drop_append_of_le_length (by omega)] at hr
      have hlen : 0 < (n.cps.toList.drop (k - a)).length := by rw [List.length_drop]; omega
      cases hq : n.cps.toList.drop (k - a) with
      | nil => rw [hq] at hlen; simp at hlen
      | cons b q =>
        rw [hq] at hr
        have : b = 44 := (List.cons.inj hr).1
        subst this
        exact hno n (.head _) (List.mem_of_mem_drop (by rw [hq]; exact .head _))
    cases cuts with
    | nil =>
      have e : f = a := hc
      exact absurd hat (hf _ (by omega))
    | cons c r =>
      obtain ⟨h1, h2, h3, h4⟩ := hc
      have hcc : c = a + n.cps.toList.length := by
        rcases Nat.lt_trichotomy c (a + n.cps.toList.length) with h | h | h
        · exact absurd h2 (hnat c h1 h)
        · exact h
        · exact absurd hat (h3 _ (by omega) h)
      have hx2 : c + 2 ≤ x.length := by have := h2.1; rwa [sep2_len] at this
      rw [sep2_len] at h4
      have ih := parts_join x (m :: rest) (by simp) (fun q hq => hno q (.tail _ hq)) (c + 2) r f h4 hf (by
        rw [hcc, Nat.add_assoc, hdr, List.drop_append]
        simp) hx2
      show strSub x a c :: partsFrom x 2 (c + 2) r = n :: m :: rest
      rw [ih]
      congr 1
      apply Str.ext'
      apply Array.toList_inj.mp
      rw [strSub_toList, hd', hcc, Nat.add_sub_cancel_left, List.take_left']
      rfl
theorem kind_low (x : Str) : ¬ PySem.Builtin.Str.strKind x < PySem.Builtin.Str.strKind sep2 := by
  have : PySem.Builtin.Str.strKind sep2 = 1 := by decide +kernel
  rw [this]
  unfold PySem.Builtin.Str.strKind
  split
  · omega
  · split <;> omega
theorem split_join {names : List Str} (hne : names ≠ []) (hno : ∀ n ∈ names, 44 ∉ n.cps.toList) : Txt.split (Txt.join sep2 names) sep2 = names := by
  have hx : Txt.join sep2 names = Str.join sep2 names := glued_eq_join _ _
  rw [hx]
  generalize hX : Str.join sep2 names = x
  obtain ⟨f, hG, hn⟩ := occ_tight x sep2 (by decide)
  have key := parts_join x names hne hno 0 _ f hG hn (by rw [hX]; rfl) (Nat.zero_le _)
  unfold Txt.split
  split
  · rename_i h
    have hk : decide (PySem.Builtin.Str.strKind x < PySem.Builtin.Str.strKind sep2) = false := decide_eq_false (kind_low x)
    rw [hk, Bool.or_false, decide_eq_true_eq, sep2_len] at h
    match names, hX, hne with
    | [], _, h => exact absurd rfl h
    | [n], hX, _ => rw [← hX]; rfl
    | n :: m :: r, hX, _ =>
      exfalso
      rw [← hX] at h
      have : (n ++ sep2 ++ Str.join sep2 (m :: r)).length < 2 := h
      rw [Str.length_append, Str.length_append, sep2_len] at this
      omega
  · split
    · rename_i h
      rw [List.isEmpty_iff.mp h] at key
      rw [← key]
      show [x] = [strSub x 0 x.length]
      rw [sub_whole]
    · rw [partsBetween_eq, sep2_len, key]
theorem names_no : ∀ i, i < 32 → 44 ∉ (flagName i).cps.toList ∧ flagName i ≠ Str.ofString "0x0" := by decide +kernel
theorem mem_fnames {f n : Nat} {x : Str} (h : x ∈ fnames f n) : ∃ i, i < n ∧ x = flagName i := by
  obtain ⟨i, hi, rfl⟩ := List.mem_map.mp h
  exact ⟨i, by simpa using (List.mem_filter.mp hi).1, rfl⟩
theorem split_pretty {g : Nat} (h32 : g < 2 ^ 32) : Txt.split (prettyS g) sep2 = prettyNames g := by
  refine split_join ?_ ?_
  · unfold prettyNames
    split
    · simp
    · rename_i h
      intro e
      apply h
      unfold fnames at e
      have e := List.map_eq_nil_iff.mp e
      apply Nat.eq_of_testBit_eq
      intro j
      rw [Nat.zero_testBit]
      by_cases hj : j < 32
      · cases hb : g.testBit j with
        | false => rfl
        | true =>
          have : j ∈ (List.range 32).filter g.testBit := List.mem_filter.mpr ⟨by simpa using hj, hb⟩
          rw [e] at this
          cases this
      · exact Nat.testBit_lt_two_pow (Nat.lt_of_lt_of_le h32 (Nat.pow_le_pow_right (by decide) (by omega)))
  · intro n hn
    unfold prettyNames at hn
    split at hn
    · rw [List.mem_singleton.mp hn]; decide
    · obtain ⟨i, hi, rfl⟩ := mem_fnames hn
      exact (names_no i hi).1
/-- how many of the bits below n stand -/
def pops (g n : Nat) : Nat := ((List.range n).filter g.testBit).length
theorem pops_le (g n : Nat) : pops g n ≤ n := Nat.le_trans (List.length_filter_le _ _) (by simp)
theorem pops_pretty (g : Nat) : ((prettyNames g).length : Int) - ((prettyNames g).count (Str.ofString "0x0") : Nat) = (pops g 32 : Nat) := by
  unfold prettyNames pops
  split
  · rename_i h
    subst h
    decide
  · have : (fnames g 32).count (Str.ofString "0x0") = 0 := List.count_eq_zero.mpr fun h => by
      obtain ⟨i, hi, e⟩ := mem_fnames h
      exact (names_no i hi).2 e.symm
    rw [this]
    unfold fnames
    simp
theorem pretty_len (g : Nat) : (prettyS g).length + 2 ≤ 4096 := by
  have e := join_length_le sep2 (prettyNames g)
  have hx : Txt.join sep2 (prettyNames g) = Str.join sep2 (prettyNames g) := glued_eq_join _ _
  unfold prettyS
  rw [hx]
  rw [sep2_len] at e
  unfold prettyNames at e ⊢
  split
  · decide
  · rename_i h
    rw [if_neg h] at e
    have h1 := sum_small (fnames_small g)
    have h2 := fnames_len g 32
    omega
end Mine
end

section
open PySem PySem.W PyProof.Rows
open PySem.Calls PySem.Spec
namespace Mine
/-- the field of flags from a on, z wide -/
def field (f a z : Nat) : Nat := (f >>> a) &&& (1 <<< z - 1)
/-- the field pressed: its ones at the top -/
def pressed (f a z : Nat) : Nat := (1 <<< pops (field f a z) 32 - 1) <<< (a + z - pops (field f a z) 32)
theorem field_lt (f a : Nat) {z : Nat} (hz : z ≤ 9) : field f a z < 2 ^ 9 := by
  unfold field
  have h1 := Nat.and_le_right (n := f >>> a) (m := 1 <<< z - 1)
  rw [Nat.one_shiftLeft] at h1 ⊢
  have h2 := Nat.two_pow_pos z
  have h3 := Nat.pow_le_pow_right (n := 2) (by decide) hz
  omega
theorem field_pops (f a : Nat) {z : Nat} (hz : z ≤ 9) : pops (field f a z) 32 ≤ z := by
  have : pops (field f a z) 32 ≤ ((List.range z).length) := by
    unfold pops
    apply List.Nodup.length_le_of_subset
    · exact (List.nodup_range).filter _
    · intro j hj
      have hb := (List.mem_filter.mp hj).2
      simp only [List.mem_range]
      unfold field at hb
      rw [Nat.testBit_and, Nat.one_shiftLeft, Nat.testBit_two_pow_sub_one] at hb
      simp at hb
      exact hb.2
  simpa using this

set_option maxRecDepth 100000 in
set_option maxHeartbeats 4000000 in
theorem pressed_call {w : World} {loose : List Str} {mean : ExcName → Option Value} {mg mb : Str → Option Value} {A : Around} {s : Shared} {Q E : Value → Shared → Prop} {f a z : Nat} {tf ta tz : Tok}
    (X : (hd.heap_39 w.params).In s.heap) (T : Top topProg loose mean mg mb s.heap) (R : Room A 2 70) (hf : f < 2 ^ 32) (hz : z ≤ 9) (ha : a + z ≤ 32) (h264 : 264 < s.toks)
    (hQ : ∀ (h' : Heap) (tk : Nat) (t : Tok), s.heap.StaysIn h' → Q (.int (pressed f a z : Nat) t) { s with heap := h', toks := tk }) :
    wpAny (model pw w) A (call (.ref 135) [.int (f : Int) tf, .int (a : Int) ta, .int (z : Int) tz] []) Q E s := by
  refine wpAny_call ?_
  refine' enter (binds := [("flags", .int (f : Int) tf), ("first", .int (a : Int) ta), ("size", .int (z : Int) tz)]) [] ?hroom X T.nolimit ?ho ?hcd ?hbind ?hco ?hgen ?hk ?hcell ?hloc ?_
  case hroom => exact (R.le (d' := 0) (u' := 0) (Nat.zero_le _) (Nat.zero_le _)).dep
  case ho => k_is
  case hcd => k_is
  case hbind => exact BindsTo.of_eq rfl
  case hco => rfl
  case hgen => rfl
  case hk => rfl
  case hcell => decide
  case hloc => exact locs rfl
  intro g L h₁ hg F HN
  have hgs : g = s.heap := hg
  subst hgs
  have N := HN [] (by intro p hp; cases hp)
  clear HN hg
  try dsimp only [List.reverse, List.reverseAux] at F
  try dsimp only
  show wpAny _ _ _ _ _ _
  refine gen_toks fun tk0 htk0 => ?_
  have h264' : 265 ≤ tk0 := by rw [htk0]; exact Nat.le_trans h264 (Nat.le_add_right _ _)
  show wpAny _ _ _ _ _ _
  k_fold
  repeat' ((fail_if_success (with_reducible show wpAny _ _ (call (Value.ref _) _ _) _ _ _)); (first | walk1 | (dsimp only; walk1)))
  rename Fr _ _ _ _ => F2
  rename News _ _ _ _ => N2
  refine wpAny_with_toks (n := 265) h264' ?_
  refine rshift_call (X.keeps F2.keep) (T.keeps F2.keep) (R.deep.le (by decide) (by decide)) (by omega) (by omega) ?_
  intro h3 tk3 t3 k3 hk3
  have F3 := stays_fr k3 F2
  have N3 := stays_news k3 N2
  clear F2 N2
  dsimp only at hk3
  repeat' ((fail_if_success (with_reducible show wpAny _ _ (call (Value.ref _) _ _) _ _ _)); (first | k_unfold | walk1 | (dsimp only; walk1)))
  rename Fr _ _ _ _ => F4
  rename News _ _ _ _ => N4
  refine wpAny_with_toks (n := 265) (by show 265 ≤ _ + 1; omega) ?_
  refine lshift_call (a := 1) (X.keeps F4.keep) (T.keeps F4.keep) (R.deep.le (by decide) (by decide)) (by decide) (by omega) ?_
  intro h5 tk5 t5 k5 hk5
  have F5 := stays_fr k5 F4
  have N5 := stays_news k5 N4
  clear F4 N4
  dsimp only at hk5
  repeat' ((fail_if_success (with_reducible show wpAny _ _ (call (Value.ref _) _ _) _ _ _)); (first | k_unfold | walk1 | (dsimp only; walk1)))
  rename Fr _ _ _ _ => F6
  rename News _ _ _ _ => N6
  refine wpAny_with_toks (n := 265) (by show 265 ≤ _ + 1; omega) ?_
  refine sub_call (X.keeps F6.keep) (T.keeps F6.keep) (R.deep.le (by decide) (by decide)) ?_
  intro h7 tk7 t7 k7 hk7
  have F7 := stays_fr k7 F6
  have N7 := stays_news k7 N6
  clear F6 N6
  dsimp only at hk7
  have hm : ((1 <<< z : Nat) : Int) - (1 : Int) = ((1 <<< z - 1 : Nat) : Int) := by
    have := Nat.two_pow_pos z
    rw [Nat.one_shiftLeft]
    exact (Int.natCast_sub this).symm
  rw [hm]
  repeat' ((fail_if_success (with_reducible show wpAny _ _ (call (Value.ref _) _ _) _ _ _)); (first | k_unfold | walk1 | (dsimp only; walk1)))
  rename Fr _ _ _ _ => F8
  rename News _ _ _ _ => N8
  refine wpAny_with_toks (n := 265) hk7 ?_
  refine and_call (X.keeps F8.keep) (T.keeps F8.keep) (R.deep.le (by decide) (by decide)) ?_
  intro h9 tk9 t9 k9 hk9
  have F9 := stays_fr k9 F8
  have N9 := stays_news k9 N8
  clear F8 N8
  dsimp only at hk9
  repeat' ((fail_if_success (with_reducible show wpAny _ _ (call (Value.ref _) _ _) _ _ _)); (first | k_unfold | walk1 | (dsimp only; walk1)))
  rename Fr _ _ _ _ => F10
  rename News _ _ _ _ => N10
  refine wpAny_with_toks (n := 265) hk9 ?_
  refine pf_call (f := field f a z) (X.keeps F10.keep) (T.keeps F10.keep) (R.deep.le (by decide) (by decide)) (Nat.lt_trans (field_lt f a hz) (by decide)) hk9 ?_
  intro h11 tk11 t11 k11 ht11 hk11
  have F11 := stays_fr k11 F10
  have N11 := stays_news k11 N10
  clear F10 N10
  dsimp only at hk11
  repeat' ((fail_if_success (with_reducible show wpAny _ _ (call (Value.builtin "str.split") _ _) _ _ _)); (first | k_unfold | walk1 | (dsimp only; walk1)))
  rename Fr _ _ _ _ => F12
  rename News _ _ _ _ => N12
  refine split1T F12 N12 (by decide) ?_ (Nat.le_trans (pretty_len _) (by rw [sizeLine_eq]; decide))
  intro D l h13 k hl hlt hnD F13 N13
  dsimp only at hlt
  repeat' ((fail_if_success (with_reducible show wpAny _ _ (execs (Stmt.Assign _ _ _ :: _) _) _ _ _)); (first | k_unfold | walk1 | (dsimp only; walk1)))
  dsimp only
  refine gen_toks fun tk14 htk14 => ?_
  show wpAny _ _ _ _ _ _
  rename Fr _ _ _ _ => F14
  rename News _ _ _ _ => N14
  have hsp : l.map (·.1) = prettyNames (field f a z) := hl.trans (split_pretty (Nat.lt_trans (field_lt f a hz) (by decide)))
  have htok : ∀ tb, tk14 ≤ tb → ∀ p ∈ l, p.2 ≠ 0 ∧ (p.2 = tb → p.1 = Str.ofString "0x0") := by
    intro tb htb p hp
    rcases hlt with ⟨rfl, hk⟩ | hlt
    · rcases List.mem_singleton.mp hp with rfl
      have h1 := ht11 (field_lt f a hz) (by rw [← hsp]; rfl)
      refine ⟨h1.1, fun e => ?_⟩
      rcases h1.2 with h0 | h0
      · show prettyS (field f a z) = _
        rw [h0]; decide
      · exfalso
        have h3 : tk14 ≤ 264 := Nat.le_trans htb (by rw [← e]; exact h0)
        omega
    · have h1 := hlt p hp
      refine ⟨fun e => ?_, fun e => ?_⟩
      · rw [e] at h1
        exact absurd h1.1 (Nat.not_succ_le_zero _)
      · exfalso
        rw [e] at h1
        exact absurd (Nat.lt_of_lt_of_le h1.2 (Nat.le_trans (show k ≤ tk14 by omega) htb)) (Nat.lt_irrefl _)
  repeat' ((fail_if_success (with_reducible show wpAny _ _ (call (Value.ref _) _ _) _ _ _)); (first | k_unfold | walk1 | (dsimp only; walk1)))
  have hll : l.length ≤ 32 := by
    have := congrArg List.length hsp
    rw [List.length_map] at this
    rw [this]
    unfold prettyNames
    split
    · decide
    · exact fnames_len _ _
  refine call_len_list ⟨_, (N14 _ (.head _)).1, rfl, _, rfl⟩ (by simp; omega) ?_
  repeat' ((fail_if_success (with_reducible show wpAny _ _ (call (Value.ref _) _ _) _ _ _)); (first | k_unfold | walk1 | (dsimp only; walk1)))
  rename Fr _ _ _ _ => F15
  rename News _ _ _ _ => N15
  refine count_str (X.keeps F15.keep) (T.keeps F15.keep) (R.deep.le (by decide) (by decide)) ⟨_, (N15 _ (.head _)).1, rfl, _, rfl⟩ (by omega) ?_ (htok _ ?_) ?_
  · show tk14 + 1 + 1 ≠ 0; omega
  · exact Nat.le_trans (Nat.le_succ _) (Nat.le_succ _)
  intro h16 tk16 t16 k16
  have F16 := stays_fr k16 F15
  have N16 := stays_news k16 N15
  clear F15 N15
  have heq : ((strsT l).toArray.size : Int) - ((strsOf l).count (Str.ofString "0x0") : Nat) = (pops (field f a z) 32 : Nat) := by
    rw [← pops_pretty, ← hsp]
    simp
  have hpz := field_pops f a hz
  unfold pressed at hQ
  generalize pops (field f a z) 32 = o at *
  repeat' ((fail_if_success (with_reducible show wpAny _ _ (call (Value.ref _) _ _) _ _ _)); (first | k_unfold | walk1 | (dsimp only; walk1)))
  rename Fr _ _ _ _ => F17
  rename News _ _ _ _ => N17
  refine sub_call (X.keeps F17.keep) (T.keeps F17.keep) (R.deep.le (by decide) (by decide)) ?_
  intro h18 tk18 t18 k18
  have F18 := stays_fr k18 F17
  have N18 := stays_news k18 N17
  clear F17 N17
  rw [heq]
  repeat' ((fail_if_success (with_reducible show wpAny _ _ (call (Value.ref _) _ _) _ _ _)); (first | k_unfold | walk1 | (dsimp only; walk1)))
  rename Fr _ _ _ _ => F19
  rename News _ _ _ _ => N19
  refine lshift_call (a := 1) (X.keeps F19.keep) (T.keeps F19.keep) (R.deep.le (by decide) (by decide)) (by decide) (by omega) ?_
  intro h20 tk20 t20 k20
  have F20 := stays_fr k20 F19
  have N20 := stays_news k20 N19
  clear F19 N19
  repeat' ((fail_if_success (with_reducible show wpAny _ _ (call (Value.ref _) _ _) _ _ _)); (first | k_unfold | walk1 | (dsimp only; walk1)))
  rename Fr _ _ _ _ => F21
  rename News _ _ _ _ => N21
  refine sub_call (X.keeps F21.keep) (T.keeps F21.keep) (R.deep.le (by decide) (by decide)) ?_
  intro h22 tk22 t22 k22
  have F22 := stays_fr k22 F21
  have N22 := stays_news k22 N21
  clear F21 N21
  have ho : ((1 <<< o : Nat) : Int) - (1 : Int) = ((1 <<< o - 1 : Nat) : Int) := by
    have := Nat.two_pow_pos o
    rw [Nat.one_shiftLeft]
    exact (Int.natCast_sub this).symm
  rw [ho]
  repeat' ((fail_if_success (with_reducible show wpAny _ _ (call (Value.ref _) _ _) _ _ _)); (first | k_unfold | walk1 | (dsimp only; walk1)))
  rename Fr _ _ _ _ => F23
  rename News _ _ _ _ => N23
  have he : (a : Int) + z - o = ((a + z - o : Nat) : Int) := by omega
  rw [he]
  refine lshift_call (X.keeps F23.keep) (T.keeps F23.keep) (R.deep.le (by decide) (by decide)) ?_ (by omega) ?_
  · rw [Nat.one_shiftLeft]
    have h1 := Nat.pow_le_pow_right (n := 2) (by decide) (show o ≤ 9 by omega)
    have h2 : (2 : Nat) ^ 9 < 2 ^ 40 := by decide
    omega
  intro h24 tk24 t24 k24
  have F24 := stays_fr k24 F23
  repeat' (first | k_unfold | walk1 | (dsimp only; walk1))
  exact hQ _ _ _ F24.keep
end Mine
end

section
open PySem PySem.W PyProof.Rows
namespace Mine
section
variable {α : Type}
theorem while_pos (P : α → Bool) : ∀ (l : List α) (r : Nat), r ≤ l.length → (∀ j (h : j < l.length), j < r → P l[j] = true) → (∀ j (h : j < l.length), r ≤ j → P l[j] = false) → l.takeWhile P = l.take r ∧ l.dropWhile P = l.drop r
  | [], r, _, _, _ => by simp
  | a :: t, 0, _, _, h2 => by
    have := h2 0 (by simp) (Nat.le_refl 0)
    have e : P a = false := this
    simp [List.takeWhile_cons, List.dropWhile_cons, e]
  | a :: t, r + 1, hr, h1, h2 => by
    have e : P a = true := h1 0 (by simp) (by omega)
    have ih := while_pos P t r (by simpa using hr) (fun j h hj => h1 (j + 1) (by simpa using h) (by omega)) (fun j h hj => h2 (j + 1) (by simpa using h) (by omega))
    simp [List.takeWhile_cons, List.dropWhile_cons, e, ih.1, ih.2]
theorem while_app (P : α → Bool) (l : List α) : l.takeWhile P ++ l.dropWhile P = l := List.takeWhile_append_dropWhile
end
/-- to the right of what is not above -/
def insR (f : Int → Int) (p : Int × Tok) (acc : List (Int × Tok)) : List (Int × Tok) := acc.takeWhile (fun q => decide (f q.1 ≤ f p.1)) ++ p :: acc.dropWhile (fun q => decide (f q.1 ≤ f p.1))
/-- to the left of what is not below -/
def insL (f : Int → Int) (p : Int × Tok) (acc : List (Int × Tok)) : List (Int × Tok) := acc.takeWhile (fun q => decide (f q.1 < f p.1)) ++ p :: acc.dropWhile (fun q => decide (f q.1 < f p.1))
def layR (f : Int → Int) (ps : List (Int × Tok)) : List (Int × Tok) := ps.foldl (fun acc p => insR f p acc) []
def layL (f : Int → Int) (ps : List (Int × Tok)) : List (Int × Tok) := ps.foldl (fun acc p => insL f p acc) []
def Sorted (f : Int → Int) (ps : List (Int × Tok)) : Prop := ps.Pairwise fun a b => f a.1 ≤ f b.1
theorem nums_getD (ps : List (Int × Tok)) (j : Nat) (h : j < ps.length) : (nums ps).getD j 0 = ps[j].1 := by
  rw [List.getD_eq_getElem?_getD, List.getElem?_map, List.getElem?_eq_getElem h]; rfl
theorem Sorted.ord {f : Int → Int} {ps : List (Int × Tok)} (h : Sorted f ps) : Ord f (nums ps) := by
  intro i j hij hj
  rw [List.length_map] at hj
  rw [nums_getD ps i (by omega), nums_getD ps j hj]
  by_cases e : i = j
  · subst e; exact Int.le_refl _
  · exact List.pairwise_iff_getElem.mp h i j (by omega) hj (by omega)
theorem insR_pos {f : Int → Int} {acc : List (Int × Tok)} {p : Int × Tok} {r : Nat} (h : PosR f (nums acc) (f p.1) r) : acc.take r ++ p :: acc.drop r = insR f p acc := by
  have hl := h.le
  rw [List.length_map] at hl
  have e := while_pos (fun q : Int × Tok => decide (f q.1 ≤ f p.1)) acc r hl (fun j hj hr => by
    have := h.lo j hr
    rw [nums_getD acc j hj] at this
    exact decide_eq_true this) (fun j hj hr => by
    have := h.hi j hr (by rw [List.length_map]; exact hj)
    rw [nums_getD acc j hj] at this
    exact decide_eq_false (by omega))
  unfold insR
  rw [e.1, e.2]
theorem insL_pos {f : Int → Int} {acc : List (Int × Tok)} {p : Int × Tok} {r : Nat} (h : PosL f (nums acc) (f p.1) r) : acc.take r ++ p :: acc.drop r = insL f p acc := by
  have hl := h.le
  rw [List.length_map] at hl
  have e := while_pos (fun q : Int × Tok => decide (f q.1 < f p.1)) acc r hl (fun j hj hr => by
    have := h.lo j hr
    rw [nums_getD acc j hj] at this
    exact decide_eq_true this) (fun j hj hr => by
    have := h.hi j hr (by rw [List.length_map]; exact hj)
    rw [nums_getD acc j hj] at this
    exact decide_eq_false (by omega))
  unfold insL
  rw [e.1, e.2]
theorem insR_perm (f : Int → Int) (p : Int × Tok) (acc : List (Int × Tok)) : (insR f p acc).Perm (p :: acc) := by
  unfold insR
  refine List.perm_middle.trans ?_
  rw [while_app]
theorem insL_perm (f : Int → Int) (p : Int × Tok) (acc : List (Int × Tok)) : (insL f p acc).Perm (p :: acc) := by
  unfold insL
  refine List.perm_middle.trans ?_
  rw [while_app]
theorem drop_head {α : Type} (P : α → Bool) : ∀ (l : List α) {a : α} {t : List α}, l.dropWhile P = a :: t → P a = false
  | b :: r, a, t, h => by
    rw [List.dropWhile_cons] at h
    split at h
    · exact drop_head P r h
    · rename_i hb
      cases h
      simpa using hb
theorem insR_sorted {f : Int → Int} {p : Int × Tok} {acc : List (Int × Tok)} (h : Sorted f acc) : Sorted f (insR f p acc) := by
  unfold insR Sorted at *
  have h' := h
  rw [← while_app (fun q : Int × Tok => decide (f q.1 ≤ f p.1)) acc] at h'
  obtain ⟨h1, h2, h3⟩ := List.pairwise_append.mp h'
  have hlo : ∀ a ∈ acc.takeWhile (fun q : Int × Tok => decide (f q.1 ≤ f p.1)), f a.1 ≤ f p.1 := fun a ha => by
    have := List.all_takeWhile (l := acc) (p := fun q : Int × Tok => decide (f q.1 ≤ f p.1))
    exact of_decide_eq_true (List.all_eq_true.mp this a ha)
  have hhi : ∀ b ∈ acc.dropWhile (fun q : Int × Tok => decide (f q.1 ≤ f p.1)), f p.1 ≤ f b.1 := fun b hb => by
    cases hd : acc.dropWhile (fun q : Int × Tok => decide (f q.1 ≤ f p.1)) with
    | nil => rw [hd] at hb; cases hb
    | cons c t =>
      have hc := drop_head _ _ hd
      have hc : ¬ f c.1 ≤ f p.1 := of_decide_eq_false hc
      rw [hd] at hb h2
      rcases List.mem_cons.mp hb with rfl | hb
      · omega
      · have := (List.pairwise_cons.mp h2).1 b hb
        omega
  refine List.pairwise_append.mpr ⟨h1, List.pairwise_cons.mpr ⟨hhi, h2⟩, fun a ha b hb => ?_⟩
  rcases List.mem_cons.mp hb with rfl | hb
  · exact hlo a ha
  · exact h3 a ha b hb
theorem insL_sorted {f : Int → Int} {p : Int × Tok} {acc : List (Int × Tok)} (h : Sorted f acc) : Sorted f (insL f p acc) := by
  unfold insL Sorted at *
  have h' := h
  rw [← while_app (fun q : Int × Tok => decide (f q.1 < f p.1)) acc] at h'
  obtain ⟨h1, h2, h3⟩ := List.pairwise_append.mp h'
  have hlo : ∀ a ∈ acc.takeWhile (fun q : Int × Tok => decide (f q.1 < f p.1)), f a.1 ≤ f p.1 := fun a ha => by
    have := List.all_takeWhile (l := acc) (p := fun q : Int × Tok => decide (f q.1 < f p.1))
    have := of_decide_eq_true (List.all_eq_true.mp this a ha)
    omega
  have hhi : ∀ b ∈ acc.dropWhile (fun q : Int × Tok => decide (f q.1 < f p.1)), f p.1 ≤ f b.1 := fun b hb => by
    cases hd : acc.dropWhile (fun q : Int × Tok => decide (f q.1 < f p.1)) with
    | nil => rw [hd] at hb; cases hb
    | cons c t =>
      have hc := drop_head _ _ hd
      have hc : ¬ f c.1 < f p.1 := of_decide_eq_false hc
      rw [hd] at hb h2
      rcases List.mem_cons.mp hb with rfl | hb
      · omega
      · have := (List.pairwise_cons.mp h2).1 b hb
        omega
  refine List.pairwise_append.mpr ⟨h1, List.pairwise_cons.mpr ⟨hhi, h2⟩, fun a ha b hb => ?_⟩
  rcases List.mem_cons.mp hb with rfl | hb
  · exact hlo a ha
  · exact h3 a ha b hb
theorem lay_step {g : (Int × Tok) → List (Int × Tok) → List (Int × Tok)} {ps : List (Int × Tok)} {i : Nat} {p : Int × Tok} (h : ps[i]? = some p) : (ps.take (i + 1)).foldl (fun acc p => g p acc) [] = g p ((ps.take i).foldl (fun acc p => g p acc) []) := by
  rw [List.take_add_one, h]
  simp
theorem layR_step {f : Int → Int} {ps : List (Int × Tok)} {i : Nat} {p : Int × Tok} (h : ps[i]? = some p) : layR f (ps.take (i + 1)) = insR f p (layR f (ps.take i)) := lay_step h
theorem layL_step {f : Int → Int} {ps : List (Int × Tok)} {i : Nat} {p : Int × Tok} (h : ps[i]? = some p) : layL f (ps.take (i + 1)) = insL f p (layL f (ps.take i)) := lay_step h
theorem fold_perm {g : (Int × Tok) → List (Int × Tok) → List (Int × Tok)} (hg : ∀ p acc, (g p acc).Perm (p :: acc)) : ∀ (ps acc : List (Int × Tok)), (ps.foldl (fun acc p => g p acc) acc).Perm (ps ++ acc)
  | [], acc => List.Perm.refl _
  | p :: r, acc => by
    rw [List.foldl_cons]
    refine (fold_perm hg r (g p acc)).trans ?_
    refine ((hg p acc).append_left r).trans ?_
    exact List.perm_middle
theorem layR_perm (f : Int → Int) (ps : List (Int × Tok)) : (layR f ps).Perm ps := by
  have := fold_perm (insR_perm f) ps []
  rwa [List.append_nil] at this
theorem layL_perm (f : Int → Int) (ps : List (Int × Tok)) : (layL f ps).Perm ps := by
  have := fold_perm (insL_perm f) ps []
  rwa [List.append_nil] at this
theorem fold_sorted {f : Int → Int} {g : (Int × Tok) → List (Int × Tok) → List (Int × Tok)} (hg : ∀ p acc, Sorted f acc → Sorted f (g p acc)) : ∀ (ps acc : List (Int × Tok)), Sorted f acc → Sorted f (ps.foldl (fun acc p => g p acc) acc)
  | [], _, h => h
  | p :: r, acc, h => fold_sorted hg r (g p acc) (hg p acc h)
theorem layR_sorted (f : Int → Int) (ps : List (Int × Tok)) : Sorted f (layR f ps) := fold_sorted (fun _ _ h => insR_sorted h) ps [] List.Pairwise.nil
theorem layL_sorted (f : Int → Int) (ps : List (Int × Tok)) : Sorted f (layL f ps) := fold_sorted (fun _ _ h => insL_sorted h) ps [] List.Pairwise.nil
end Mine
end

section
open PySem PySem.W PyProof.Rows
open PySem.Calls PySem.Spec
namespace Mine
/-- enter, where the def keeps cells -/
theorem enterC {prog : Program} {w : World} {A : Around} {s : Shared} {K : Frag} {R : Result → Shared → Prop} {f : Addr}
    {name qual : Str} {params : Arguments} {body : List Stmt} {scope : Scope} {dV kV doc pm cdv ct oc : Value} {an od : Option Addr} {osl : Array (Option Value)} {args : Args} {binds : List (Str × Value)} (ex : List Addr)
    (hroom : A.depth < recursionLimit) (X : K.In s.heap) (hlim : s.heap.NoLimit)
    (ho : K.lookup f = some ⟨oc, od, .func (fnX name qual params body scope [] dV kV doc pm an cdv ct), osl⟩) (hcd : codeIn K cdv qual = true)
    (hbind : BindsTo s (fnX name qual params body scope [] dV kV doc pm an cdv ct) args binds)
    (hco : scope.isCoroutine = false) (hgen : scope.isGenerator = false) (hk : scope.kind = .function)
    (hkind : ∀ n, ∀ x ∈ binds, scope.names.lookup x.1 = some .local ∨ (scope.names.lookup x.1 = some .cell ∧ ((cellsFrom n scope.names []).lookup x.1).isSome = true))
    (hnd : ((cellsFrom 0 scope.names []).map (·.1)).Nodup)
    (h : ∀ g L h₁ tk cells, g = hideAll s.heap ex → Fr g L h₁ (bindL (envOfC qual scope L f cdv).kindOf binds fun _ => none) →
      CellsAre (bindC (envOfC qual scope L f cdv).kindOf binds fun _ => none) (cellsFrom (L + 1) scope.names []) cells →
      (∀ news : List (Addr × Obj), (∀ p ∈ news, p.1 ∈ ex ∧ s.heap.get? p.1 = some p.2) → News g L h₁ (cells ++ news)) → L = s.heap.objs.size →
      wpAny (model prog w) (A.deeper (envOfC qual scope L f cdv)) (execs body (envOfC qual scope L f cdv)) (fun fl s' => R (.ok (.ret (match fl with | .ret v => v | _ => .none))) s')
        (fun e s' => wpAny (model prog w) (A.deeper (envOfC qual scope L f cdv)) (leaving (envOfC qual scope L f cdv) e) (fun _ s'' => R (.error e) s'') (fun e' s'' => R (.error e') s'') s')
        { s with heap := h₁, toks := tk }) :
    codeAny (model prog w) A (.call (.ref f) args) R s := by
  refine codeAny_call_function hroom (X _ _ ho) rfl hco hgen rfl (codeRec_of X hcd) (hbind _ _ _ _ ?_)
  refine wpAny_newFunctionEnv_cells hk (hkind _) fun env' he s' x => ?_
  subst he
  refine ⟨hlim.keeps x.toInCall.keep, codeAny_func ?_⟩
  obtain ⟨h₁, tk, rfl, _⟩ := x.done
  have hk₁ := x.toInCall.keep
  obtain ⟨cells, NC, Y⟩ := Cl.news (h₀ := s.heap) (Nat.le_refl _) fun n c hm => ⟨x.cell n c (lookup_of_mem_nodup (cellsFrom_names scope.names 0 (s.heap.objs.size + 1) [] [] rfl ▸ hnd) hm), x.above n c hm⟩
  refine h _ s.heap.objs.size h₁ tk cells rfl ⟨x.toInCall.ns, fun b o e => hk₁ b o (of_hideAll _ e), Nat.le_of_eq (hideAll_size _ _)⟩ Y (fun news hn p hp => ?_) rfl
  rcases List.mem_append.mp hp with hp | hp
  · refine ⟨(NC p hp).1, (NC p hp).2.1, ?_⟩
    cases q : (hideAll s.heap ex).get? p.1 with
    | none => rfl
    | some o => have := of_hideAll _ q; rw [(NC p hp).2.2] at this; cases this
  · have q := hn p hp
    exact ⟨hk₁ _ _ q.2, Nat.ne_of_lt (Heap.lt_size q.2), hideAll_none _ q.1⟩

theorem triples_snoc (a b : Int) (t u : Tok) (c : Value) : ∀ (l : List Value), TriplesOk l → TriplesOk (l ++ [.int a t, .int b u, c])
  | [], _ => trivial
  | [.int _ _], h => h.elim
  | .int _ _ :: .int _ _ :: _ :: rest, h => triples_snoc a b t u c rest h
theorem among_snoc (pos : Pos) (a b : Int) (t u : Tok) (c v : Value) : ∀ (l : List Value), TriplesOk l → codeAmong pos (l ++ [.int a t, .int b u, c]) = some v → codeAmong pos l = some v ∨ v = c
  | [], _, h => by
    show codeAmong pos [] = some v ∨ _
    simp only [List.nil_append] at h
    unfold codeAmong at h
    split at h
    · right; cases h; rfl
    · cases h
  | [.int _ _], h, _ => h.elim
  | .int x _ :: .int y _ :: d :: rest, h, e => by
    simp only [List.cons_append] at e
    unfold codeAmong at e ⊢
    split at e
    · rename_i hc; left; rw [if_pos hc]; exact e
    · rename_i hc
      rw [if_neg hc]
      exact among_snoc pos a b t u c v rest h e
/-- the codes of a def's own table: what stands in it is the lambdas' -/
abbrev lamQual : Str := Str.ofString "_law_lay.<locals>.<lambda>"
def IsRec (o : Obj) : Prop := ∃ vs t, o.data = .fields vs ∧ vs[1]? = some (.str lamQual t)
structure TabIn (g : Heap) (ps : Array Value) (extra : List (Addr × Obj)) : Prop where
  ok : TriplesOk ps.toList
  codes : ∀ pos v, codeAmong pos ps.toList = some v → ∃ c o, v = .ref c ∧ IsRec o ∧ (g.get? c = some o ∨ (c, o) ∈ extra)
theorem TabIn.none (g : Heap) : TabIn g #[] [] := ⟨trivial, fun pos v h => by unfold codeAmong at h; cases h⟩
theorem TabIn.add {g : Heap} {ps : Array Value} {extra : List (Addr × Obj)} (T : TabIn g ps extra) {a b : Int} {t u : Tok} {c : Addr} {o : Obj} (ho : IsRec o) :
    TabIn g (ps ++ #[.int a t, .int b u, .ref c]) ((c, o) :: extra) :=
  ⟨by rw [Array.toList_append]; exact triples_snoc _ _ _ _ _ _ T.ok, fun pos v h => by
    rw [Array.toList_append] at h
    rcases among_snoc pos a b t u (.ref c) v _ T.ok h with h | h
    · obtain ⟨c', o', h1, h2, h3⟩ := T.codes pos v h
      exact ⟨c', o', h1, h2, h3.imp id fun m => .tail _ m⟩
    · exact ⟨c, o, h, ho, .inr (.head _)⟩⟩
theorem tab_norec {ps : Array Value} (h : TriplesOk ps.toList) : ¬ IsRec (tabObj ps) := by
  rintro ⟨vs, t, hd, hv⟩
  cases hd
  rw [← Array.getElem?_toList] at hv
  match hl : ps.toList, h with
  | [], _ => rw [hl] at hv; cases hv
  | [.int _ _], h => exact h.elim
  | .int _ _ :: .int _ _ :: _ :: rest, _ => rw [hl] at hv; cases hv
theorem TabIn.hide {h : Heap} {ps : Array Value} (T : TabIn h ps []) (e : h.get? 116 = some (tabObj ps)) : TabIn (hideAll h [116]) ps [] :=
  ⟨T.ok, fun pos v q => by
    obtain ⟨c, o, h1, h2, h3⟩ := T.codes pos v q
    rcases h3 with h3 | h3
    · refine ⟨c, o, h1, h2, .inl (hideAll_get _ h3 fun m => ?_)⟩
      rw [List.mem_singleton.mp m, e] at h3
      cases h3
      exact tab_norec T.ok h2
    · cases h3⟩
theorem updF_mid {d : Addr} {o : Obj} : ∀ (pre post : List (Addr × Obj)), (∀ p ∈ pre, p.1 ≠ d) → (∀ p ∈ post, p.1 ≠ d) → UpdF d o (pre ++ (d, o) :: post) (fun o' => pre ++ (d, o') :: post)
  | [], _, _, h => .head h
  | p :: r, post, h1, h2 => .tail (h1 p (.head _)) (updF_mid r post (fun q hq => h1 q (.tail _ hq)) h2)

section
variable {M : Model} {A : Around} {E : Value → Shared → Prop} {s : Shared} {g : Heap} {L a : Addr} {m mg mb : Str → Option Value} {cn : Str} {cs : Scope} {cl : List (Str × Addr)}
  {p : Program} {loose : List Str} {mean : ExcName → Option Value} {params : Arguments} {body : Expr} {scope : Scope} {tb : Array Value} {pos : Pos} {clos : List (Str × Addr)} {pre extra : List (Addr × Obj)} {Q : Value → Shared → Prop}
/-- a lambda of _law_lay is made -/
theorem lam_eval (F : Fr g L s.heap m) (N : News g L s.heap (pre ++ (116, tabObj tb) :: extra)) (T : Top p loose mean mg mb g) (C : CodeHd g 120 116) (hT : TabIn g tb extra) (hpre : ∀ p ∈ pre, p.1 ≠ 116) (hex : ∀ p ∈ extra, p.1 ≠ 116)
    (hdef : defaultsOf params (envX cn cs L a (.ref 120) cl) = ([], [])) (hq : (envX cn cs L a (.ref 120) cl).qual ++ "<lambda>" = lamQual) (hcl : closureFor scope (envX cn cs L a (.ref 120) cl) = pure clos)
    (h : ∀ f c' ctv h' tk tb' extra', Fr g L h' m → News g L h' ((f, kla_obj "<lambda>" lamQual params body scope clos ((mg "__name__").getD .none) c' ctv) :: (pre ++ (116, tabObj tb') :: extra')) → TabIn g tb' extra' →
      (∃ o, IsRec o ∧ (g.get? c' = some o ∨ (c', o) ∈ extra')) → (∀ q ∈ extra', q ∈ extra ∨ ∀ r ∈ pre ++ (116, tabObj tb) :: extra, r.1 < q.1) → (∀ r ∈ pre ++ (116, tabObj tb') :: extra', r.1 < f) → Q (.ref f) { s with heap := h', toks := tk }) :
    wpAny M A (eval (.Lambda params body scope pos) (envX cn cs L a (.ref 120) cl)) Q E s := by
  refine kla_eval hdef ?_
  rw [hq]
  cases hc : codeAmong pos tb.toList with
  | none =>
    refine kla_nest F N T C rfl (updF_mid pre extra hpre hex) hT.ok hc hcl ?_
    intro f c' oc vs t ctv h' tk F' N' hd hv l1 l2
    have ho : IsRec oc := ⟨vs, t, hd, hv⟩
    refine h f c' ctv h' tk (tb ++ #[rawInt pos.line, rawInt pos.col, .ref c']) ((c', oc) :: extra) F' ?_ (TabIn.add (a := pos.line) (b := pos.col) (t := 0) (u := 0) hT ho) ⟨oc, ho, .inr (.head _)⟩ ?_ ?_
    · intro q hq
      rcases List.mem_cons.mp hq with rfl | hq
      · exact N' _ (.head _)
      · rcases List.mem_append.mp hq with hq | hq
        · exact N' _ (.tail _ (.tail _ (List.mem_append_left _ hq)))
        · rcases List.mem_cons.mp hq with rfl | hq
          · exact N' _ (.tail _ (.tail _ (List.mem_append_right _ (.head _))))
          · rcases List.mem_cons.mp hq with rfl | hq
            · exact N' _ (.tail _ (.head _))
            · exact N' _ (.tail _ (.tail _ (List.mem_append_right _ (.tail _ hq))))
    · intro q hq
      rcases List.mem_cons.mp hq with rfl | hq
      · exact .inr l1
      · exact .inl hq
    · intro r hr
      rcases List.mem_append.mp hr with hr | hr
      · exact Nat.lt_trans (l1 r (List.mem_append_left _ hr)) l2
      · rcases List.mem_cons.mp hr with rfl | hr
        · exact Nat.lt_trans (l1 (116, tabObj tb) (List.mem_append_right _ (.head _))) l2
        · rcases List.mem_cons.mp hr with rfl | hr
          · exact l2
          · exact Nat.lt_trans (l1 r (List.mem_append_right _ (.tail _ hr))) l2
  | some v =>
    obtain ⟨c, o, rfl, ho, hm⟩ := hT.codes _ _ hc
    refine kla_hit F N T C rfl (List.mem_append_right _ (.head _)) hT.ok hc hcl ?_
    intro f ctv h' tk F' N' l1
    exact h f c ctv h' tk tb extra F' N' hT ⟨o, ho, hm⟩ (fun q hq => .inl hq) l1
end

abbrev lamParams (pp : Pos) : Arguments := { posonlyargs := [], args := [{ arg := Str.ofString "place", annotation := none, pos := pp }], vararg := none, kwonlyargs := [], kw_defaults := [], kwarg := none, defaults := [] }
abbrev lamBody (p1 p2 p3 : Pos) : Expr := (Expr.Name (Str.ofString "row") p1).Subscript (Expr.Name (Str.ofString "place") p2) p3
abbrev lamScope : Scope := { kind := ScopeKind.function, names := [(Str.ofString "place", NameKind.local), (Str.ofString "row", NameKind.free)], isGenerator := false, isCoroutine := false }
/-- the lambda of _law_lay: its key -/
structure LamOk (w : World) (loose : List Str) (mean : ExcName → Option Value) (mg mb : Str → Option Value) (fo : Obj) (f c' cell : Addr) (rowA : Addr) (ns : List Int) (h : Heap) : Prop where
  T : Top topProg loose mean mg mb h
  ho : h.get? f = some fo
  hc : h.CodeRec (.ref c') lamQual
  hcell : ∃ o, h.get? cell = some o ∧ o.data = .cell (some (.ref rowA))
  row : ∃ vs, h.IsList rowA vs.toArray ∧ IntsAre vs ns
set_option maxRecDepth 100000 in
set_option maxHeartbeats 4000000 in
theorem lam_key {w : World} {loose : List Str} {mean : ExcName → Option Value} {mg mb : Str → Option Value} {pp p1 p2 p3 : Pos} {pm ctv : Value} {f c' cell rowA : Addr} {ns : List Int} (hn : ns.length < 2 ^ 20) :
    KeyOk w (LamOk w loose mean mg mb (kla_obj "<lambda>" lamQual (lamParams pp) (lamBody p1 p2 p3) lamScope [("row", cell)] pm c' ctv) f c' cell rowA ns) f (fun p => ns.getD p.toNat 0) (fun p => 0 ≤ p ∧ p < ns.length) where
  stays h h' ok k := ⟨ok.T.keeps k, k _ _ ok.ho, by obtain ⟨c, oc, vs, t, e, a, r⟩ := ok.hc; exact ⟨c, oc, vs, t, e, k _ _ a, r⟩, by obtain ⟨o, a, r⟩ := ok.hcell; exact ⟨o, k _ _ a, r⟩, by obtain ⟨vs, ⟨o, a, r⟩, b⟩ := ok.row; exact ⟨vs, ⟨o, k _ _ a, r⟩, b⟩⟩
  looks M h ok := keeps_F h ⟨_, _, _, _, ok.ho⟩
  call A s Q E p t R ok dm hQ := by
    obtain ⟨co, hco, hcd⟩ := ok.hcell
    obtain ⟨rvs, hl, hi⟩ := ok.row
    have T := ok.T
    obtain ⟨d1, d2⟩ := dm
    refine wpAny_call ?_
    refine kla_callFunE (R.le (d' := 0) (u' := 0) (by omega) (by omega)).dep ok.ho rfl rfl rfl rfl ok.hc ?_
    rw [show bindArgs (kla_fn (Str.ofString "<lambda>") lamQual (lamParams pp) (lamBody p1 p2 p3) lamScope [(Str.ofString "row", cell)] pm (Value.ref c') ctv) { pos := [Value.int p t] } = (pure [(Str.ofString "place", Value.int p t)] : Sem (List (Str × Value))) from rfl]
    refine wpAny_pure (wpAny_newFunctionEnv (show ∀ x ∈ lamScope.names, x.2 ≠ .cell by decide) (locs rfl) (fun h₁ hns hsb => ⟨T.nolimit.fresh _ hsb, ?_⟩) rfl)
    show codeAny _ _ (.expr (lamBody p1 p2 p3) (envX lamQual lamScope s.heap.objs.size f (.ref c') [("row", cell)])) _ _
    refine kla_codeExpr ?_
    have hk₁ : ∀ b o, s.heap.get? b = some o → h₁.get? b = some o := fun b o e => hsb.extBut b o (Nat.ne_of_lt (Heap.lt_size e)) (Heap.get?_push_of_some _ e)
    have F : Fr s.heap s.heap.objs.size h₁ (fun y => [(Str.ofString "place", Value.int p t)].reverse.lookup y) := ⟨hns, hk₁, Nat.le_refl _⟩
    have N : News s.heap s.heap.objs.size h₁ [] := fun p hp => nomatch hp
    try dsimp only [List.reverse, List.reverseAux] at F
    generalize hL : s.heap.objs.size = L at *
    show wpAny _ _ _ _ _ _
    k_fold
    walk1
    refine wpAny_Name (wpAny_loadName_free (c := cell) rfl rfl rfl ⟨co, F.keep _ _ hco, hcd⟩ ?_ (by decide)) (by decide)
    refine nameX_L F rfl ?_
    repeat' (first | k_unfold | walk1 | (dsimp only; walk1))
    exact hQ _ _ _ F.keep
end Mine
end

section
open PySem PySem.W PyProof.Rows
open PySem.Calls PySem.Spec
namespace Mine
inductive LayJ (g : Heap) (m0 : Str → Option Value) (L lN : Addr) (co : Obj) (lay : List (Int × Tok) → List (Int × Tok)) (ps : List (Int × Tok)) (i : Nat) (m : Str → Option Value) (news : List (Addr × Obj)) (tk : Nat) : Prop
  | mk (n : Nat) (tb : Array Value) (extra : List (Addr × Obj)) (hn : news = (lN, listOf (tInts (lay (ps.take i))).toArray n) :: (L + 1, co) :: (116, tabObj tb) :: extra) (hT : TabIn g tb extra) (hx : ∀ p ∈ extra, p.1 ≠ lN ∧ p.1 ≠ L + 1 ∧ p.1 ≠ 116) (hl : Loc m0 ["x"] [] m) : LayJ g m0 L lN co lay ps i m news tk
set_option maxRecDepth 100000 in
set_option maxHeartbeats 4000000 in
theorem lay0_call {w : World} {loose : List Str} {mean : ExcName → Option Value} {mg mb : Str → Option Value} {A : Around} {s : Shared} {Q E : Value → Shared → Prop} {pA rowA : Addr} {ps : List (Int × Tok)} {ns : List Int} {rvs : List Value} {tt : Tok} {tab : Array Value} {g₀ : Heap}
    (X : (hd.heap_39 w.params).In g₀) (T : Top topProg loose mean mg mb g₀) (C : CodeHd g₀ 120 116) (kg : g₀.StaysIn s.heap) (h116 : g₀.get? 116 = none) (R : Room A 4 90)
    (htab : s.heap.get? 116 = some (tabObj tab)) (hT : TabIn s.heap tab []) (hrl : ns.length < 2 ^ 20)
    (hp : s.heap.IsList pA (tInts ps).toArray) (hp6 : pA ≠ 116) (hr : s.heap.IsList rowA rvs.toArray) (hr6 : rowA ≠ 116) (hi : IntsAre rvs ns) (hdom : ∀ p ∈ ps, 0 ≤ p.1 ∧ p.1 < ns.length) (hpl : ps.length ≤ 32)
    (hQ : ∀ (h' : Heap) (tk : Nat) (lA : Addr) (n : Nat) (tab' : Array Value) (extra' : List (Addr × Obj)), Kept [116] s.heap h' → s.heap.get? lA = none → h'.get? lA = some (listOf (tInts (layR (fun p => ns.getD p.toNat 0) ps)).toArray n) →
      h'.get? 116 = some (tabObj tab') → (∀ p ∈ extra', s.heap.get? p.1 = none ∧ p.1 ≠ lA ∧ h'.get? p.1 = some p.2) → TabIn s.heap tab' extra' → Q (.ref lA) { s with heap := h', toks := tk }) :
    wpAny (model pw w) A (call (.ref 121) [.ref pA, .ref rowA, .int 0 tt] []) Q E s := by
  refine wpAny_call ?_
  refine' enterC (binds := [("piece", .ref pA), ("row", .ref rowA), ("turn", .int 0 tt)]) [116] ?hroom (X.keeps kg) (T.keeps kg).nolimit ?ho ?hcd ?hbind ?hco ?hgen ?hk ?hkind ?hnd ?_
  case hroom => exact (R.le (d' := 0) (u' := 0) (Nat.zero_le _) (Nat.zero_le _)).dep
  case ho => k_is
  case hcd => k_is
  case hbind => exact BindsTo.of_eq rfl
  case hco => rfl
  case hgen => rfl
  case hk => rfl
  case hkind => intro n x hx; rcases List.mem_cons.mp hx with rfl | hx; exact .inl rfl; rcases List.mem_cons.mp hx with rfl | hx; exact .inr ⟨rfl, rfl⟩; rcases List.mem_cons.mp hx with rfl | hx; exact .inl rfl; cases hx
  case hnd => decide
  intro g L h₁ tk cells hg F Y HN hL
  have N := HN [(116, tabObj tab)] (by intro p hp; rcases List.mem_singleton.mp hp with rfl; exact ⟨.head _, htab⟩)
  clear HN
  obtain ⟨co, rfl, hco⟩ := Y.one
  clear Y
  replace hco : co.data = .cell (some (.ref rowA)) := hco
  replace F : Fr g L h₁ (fun y => if y = "turn" then some (.int 0 tt) else if y = "piece" then some (.ref pA) else none) := F
  have Xg : (hd.heap_39 w.params).In g := by subst hg; exact X.keeps (stays_hide1 kg h116)
  have Tg : Top topProg loose mean mg mb g := by subst hg; exact T.keeps (stays_hide1 kg h116)
  show wpAny _ _ _ _ _ _
  have Cg : CodeHd g 120 116 := by subst hg; exact C.keeps (stays_hide1 kg h116)
  have hTg : TabIn g tab [] := by subst hg; exact hT.hide htab
  have hrg : g.IsList rowA rvs.toArray := by subst hg; exact let ⟨o, a, r⟩ := hr; ⟨o, hideAll_get _ a (by simpa using hr6), r⟩
  have hpg : g.IsList pA (tInts ps).toArray := by subst hg; exact let ⟨o, a, r⟩ := hp; ⟨o, hideAll_get _ a (by simpa using hp6), r⟩
  show wpAny _ _ _ _ _ _
  k_fold
  repeat' ((fail_if_success (with_reducible show wpAny _ _ (exec (Stmt.For _ _ _ _ _) _) _ _ _)); (first | walk1 | (dsimp only; walk1)))
  refine wpAny_For ?_
  repeat' ((fail_if_success (with_reducible show wpAny _ _ (pyIter _) _ _ _)); (first | walk1 | (dsimp only; walk1)))
  rename Fr _ _ _ _ => F2
  rename News _ _ _ _ => N2
  rename_i lN h9 l9 h10
  have hnl : ∀ p ∈ ([(L + 1, co), (116, tabObj tab)] : List (Addr × Obj)), p.1 ≠ lN := fun p hp => Nat.ne_of_lt (l9 p hp)
  refine fr_name F2 fun m0 em0 F2 => ?_
  refine for_list (L := L) (items := tInts ps) (LayJ g m0 L lN co (layR fun p => ns.getD p.toNat 0) ps) rfl rfl rfl R.hh F2 N2 ?h0 ?hl ?turn ?done
  case h0 => subst em0; exact ⟨0, tab, [], rfl, hTg, (fun _ h => nomatch h), Loc.mk (by kst_all) (fun _ _ _ => rfl)⟩
  case hl => exact fun _ _ _ h _ _ F _ => let ⟨o, a, r⟩ := hpg; ⟨o, F.keep _ _ a, r⟩
  case turn =>
    rintro i v m₁ news₁ h₂ tk₁ tk₂ I o hv ⟨n, tb, extra, rfl, hTb, hex, u, rfl⟩ htk hI hIl F3 N3
    subst em0
    obtain ⟨p, hp', rfl⟩ : ∃ p, ps[i]? = some p ∧ v = .int p.1 p.2 := by
      rw [List.getElem?_map] at hv
      obtain ⟨p, a, b⟩ := Option.map_eq_some_iff.mp hv
      exact ⟨p, a, b.symm⟩
    dsimp only [kstB] at F3
    show wpAny _ _ _ _ _ _
    k_fold
    repeat' ((fail_if_success (with_reducible show wpAny _ _ (eval (Expr.Lambda _ _ _ _) _) _ _ _)); (first | walk1 | (dsimp only; walk1)))
    rename Fr _ _ _ _ => F4
    rename News _ _ _ _ => N4
    have hL1 : L + 1 ≠ 116 := Nat.ne_of_gt (show 116 < L + 1 from Nat.lt_succ_of_lt (by rw [hL]; exact Heap.lt_size htab))
    have hlN : ∀ p ∈ ([(L + 1, co), (116, tabObj tab)] : List (Addr × Obj)), p.1 < lN := l9
    have hlN1 : L + 1 < lN := hlN _ (.head _)
    have hlN6 : 116 < lN := hlN (116, tabObj tab) (.tail _ (.head _))
    have hIlN : lN ≠ I := hI _ (.head _)
    have hIL1 : L + 1 ≠ I := hI (L + 1, co) (.tail _ (.head _))
    have hI6 : 116 ≠ I := hI (116, tabObj tb) (.tail _ (.tail _ (.head _)))
    have hIex : ∀ p ∈ extra, p.1 ≠ I := fun p hp => hI p (.tail _ (.tail _ (.tail _ hp)))
    refine lam_eval (pre := [(I, o), (lN, _), (L + 1, co)]) F4 N4 Tg Cg hTb ?_ (fun p hp => (hex p hp).2.2) rfl rfl rfl ?_
    · intro p hp
      rcases List.mem_cons.mp hp with rfl | hp
      · exact hI6.symm
      · rcases List.mem_cons.mp hp with rfl | hp
        · exact Nat.ne_of_gt hlN6
        · rcases List.mem_cons.mp hp with rfl | hp
          · exact hL1
          · cases hp
    intro f c' ctv h5 tk5 tb' extra' F5 N5 hT5 hc5 hx5 hf5
    repeat' ((fail_if_success (with_reducible show wpAny _ _ (call (Value.ref _) _ _) _ _ _)); (first | k_unfold | walk1 | (dsimp only; walk1)))
    rename Fr _ _ _ _ => F6
    rename News _ _ _ _ => N6
    have hglN : g.get? lN = none := (N6 (lN, _) (.tail _ (.tail _ (.head _)))).2.2
    have hflN : f ≠ lN := Nat.ne_of_gt (hf5 (lN, _) (.tail _ (.head _)))
    have hex' : ∀ q ∈ extra', q.1 ≠ I ∧ q.1 ≠ lN ∧ q.1 ≠ L + 1 ∧ q.1 ≠ 116 := fun q hq => by
      rcases hx5 q hq with h | h
      · exact ⟨hIex q h, hex q h⟩
      · exact ⟨Nat.ne_of_gt (h (I, o) (.head _)), Nat.ne_of_gt (h (lN, _) (.tail _ (.head _))), Nat.ne_of_gt (h (L + 1, co) (.tail _ (.tail _ (.head _)))), Nat.ne_of_gt (h (116, tabObj tb) (.tail _ (.tail _ (.tail _ (.head _)))))⟩
    have hmem : ∀ q ∈ layR (fun p => ns.getD p.toNat 0) (ps.take i), 0 ≤ q.1 ∧ q.1 < ns.length := fun q hq => hdom q (List.mem_of_mem_take ((layR_perm _ _).mem_iff.mp hq))
    have hlay := (layR_sorted (fun p => ns.getD p.toNat 0) (ps.take i)).ord
    have hll : (layR (fun p => ns.getD p.toNat 0) (ps.take i)).length ≤ 32 := by
      rw [(layR_perm _ _).length_eq, List.length_take]; omega
    have hst := layR_step (f := fun p => ns.getD p.toNat 0) hp'
    generalize hacc : layR (fun p => ns.getD p.toNat 0) (ps.take i) = acc at *
    have k1 := Tg.keeps (stays_hide1 F6.keep hglN)
    have k2 := hideAll_get [lN] (N6 _ (.head _)).1 (by simpa using hflN)
    have k3 : (hideAll h5 [lN]).CodeRec (.ref c') lamQual := by
      obtain ⟨oc, ⟨vs, t, hd, hv⟩, h | h⟩ := hc5
      · exact ⟨c', oc, vs, t, rfl, hideAll_get _ (F6.keep _ _ h) (fun m => by rw [List.mem_singleton.mp m, hglN] at h; cases h), hd, hv⟩
      · exact ⟨c', oc, vs, t, rfl, hideAll_get _ (N6 (c', oc) (.tail _ (.tail _ (.tail _ (.tail _ (.tail _ h)))))).1 (fun m => (hex' _ h).2.1 (List.mem_singleton.mp m)), hd, hv⟩
    have k4 : ∃ o, (hideAll h5 [lN]).get? (L + 1) = some o ∧ o.data = .cell (some (.ref rowA)) := ⟨co, hideAll_get _ (N6 (L + 1, co) (.tail _ (.tail _ (.tail _ (.head _))))).1 (by simpa using Nat.ne_of_lt hlN1), hco⟩
    have k5 : ∃ vs, (hideAll h5 [lN]).IsList rowA vs.toArray ∧ IntsAre vs ns := ⟨rvs, (let ⟨o, a, r⟩ := hrg; ⟨o, hideAll_get _ (F6.keep _ _ a) (fun m => by rw [List.mem_singleton.mp m, hglN] at a; cases a), r⟩), hi⟩
    have hok := LamOk.mk (w := w) k1 k2 k3 k4 k5
    refine irk_call (lam_key hrl) hok ?hdm ?hdx Xg Tg F6.keep hglN (R.deep.le (by decide) (by decide)) (N6 (lN, _) (.tail _ (.tail _ (.head _)))).1 (ints_are acc) (by rw [List.length_map]; omega) hlay ?_
    case hdm =>
      intro j hj
      rw [List.length_map] at hj
      rw [nums_getD acc j hj]
      exact hmem _ (List.getElem_mem hj)
    case hdx => exact hdom p (List.mem_of_getElem? hp')
    intro r h7 tk7 hr7 k7 e7
    have hnew : (tInts acc).take r ++ Value.int p.1 p.2 :: (tInts acc).drop r = tInts (insR (fun p => ns.getD p.toNat 0) p acc) := by
      rw [← insR_pos hr7]
      simp [List.map_take, List.map_drop]
    rw [hnew] at e7
    obtain ⟨F7, N7⟩ := kept_one (pre := [(f, _), (I, o)]) (post := (L + 1, co) :: (116, tabObj tb') :: extra') k7 F6 N6 (fun q hq => by
      rcases List.mem_cons.mp hq with rfl | hq
      · exact hflN
      · rcases List.mem_cons.mp hq with rfl | hq
        · exact hIlN.symm
        · cases hq) (fun q hq => by
      rcases List.mem_cons.mp hq with rfl | hq
      · exact Nat.ne_of_lt hlN1
      · rcases List.mem_cons.mp hq with rfl | hq
        · exact Nat.ne_of_lt hlN6
        · exact (hex' q hq).2.1) e7
    clear F6 N6
    repeat' ((first | k_unfold | walk1 | (dsimp only; walk1)))
    rename Fr _ _ _ _ => F8
    rename News _ _ _ _ => N8
    refine LEnd.mk (nx := (lN, listOf (tInts (insR (fun p => ns.getD p.toNat 0) p acc)).toArray (n + 1)) :: (L + 1, co) :: (116, tabObj tb') :: extra') F8 N8 (fun q hq => ?_) (fun q hq => .tail _ (.tail _ hq)) (fun q hq r hr => ?_) ⟨n + 1, tb', extra', by rw [hst], hT5, fun q hq => (hex' q hq).2, Loc.mk (fun _ h => nomatch h) (by ksw_same)⟩
    · rcases List.mem_singleton.mp hq with rfl; exact .tail _ (.head _)
    · rcases List.mem_singleton.mp hr with rfl
      rcases List.mem_cons.mp hq with rfl | hq
      · exact hIlN
      · rcases List.mem_cons.mp hq with rfl | hq
        · exact hIL1
        · rcases List.mem_cons.mp hq with rfl | hq
          · exact hI6
          · exact (hex' q hq).1
  case done =>
    rintro m₁ news₁ h₂ tk₁ tk₂ ⟨n, tb, extra, rfl, hTb, hex, u, rfl⟩ htk F3 N3
    subst em0
    dsimp only [kstB] at F3
    show wpAny _ _ _ _ _ _
    k_fold
    repeat' ((first | k_unfold | walk1 | (dsimp only; walk1)))
    rename Fr _ _ _ _ => F8
    rename News _ _ _ _ => N8
    have hlN6 : 116 < lN := l9 (116, tabObj tab) (.tail _ (.head _))
    have none_of : ∀ b, b ≠ 116 → g.get? b = none → s.heap.get? b = none := fun b hb e => by
      cases q : s.heap.get? b with
      | none => rfl
      | some o =>
        have := hideAll_get [116] q (by simpa using hb)
        rw [← hg, e] at this
        cases this
    have e1 := N8 (lN, _) (.head _)
    have e2 := N8 (116, tabObj tb) (.tail _ (.tail _ (.head _)))
    rw [show (tInts ps).length = ps.length by simp, List.take_length] at e1
    refine hQ _ _ lN n tb extra (kept_of_fr (hg ▸ F8)) (none_of _ (Nat.ne_of_gt hlN6) e1.2.2) e1.1 e2.1 (fun q hq => ?_) ⟨hTb.ok, fun pos v q => ?_⟩
    · have e3 := N8 q (.tail _ (.tail _ (.tail _ hq)))
      exact ⟨none_of _ (hex q hq).2.2 e3.2.2, (hex q hq).1, e3.1⟩
    · obtain ⟨c, o, q1, q2, q3⟩ := hTb.codes pos v q
      exact ⟨c, o, q1, q2, q3.imp (fun q => of_hideAll _ (hg ▸ q)) id⟩
set_option maxRecDepth 100000 in
set_option maxHeartbeats 4000000 in
theorem lay1_call {w : World} {loose : List Str} {mean : ExcName → Option Value} {mg mb : Str → Option Value} {A : Around} {s : Shared} {Q E : Value → Shared → Prop} {pA rowA : Addr} {ps : List (Int × Tok)} {ns : List Int} {rvs : List Value} {tt : Tok} {tab : Array Value} {g₀ : Heap}
    (X : (hd.heap_39 w.params).In g₀) (T : Top topProg loose mean mg mb g₀) (C : CodeHd g₀ 120 116) (kg : g₀.StaysIn s.heap) (h116 : g₀.get? 116 = none) (R : Room A 4 90)
    (htab : s.heap.get? 116 = some (tabObj tab)) (hT : TabIn s.heap tab []) (hrl : ns.length < 2 ^ 20)
    (hp : s.heap.IsList pA (tInts ps).toArray) (hp6 : pA ≠ 116) (hr : s.heap.IsList rowA rvs.toArray) (hr6 : rowA ≠ 116) (hi : IntsAre rvs ns) (hdom : ∀ p ∈ ps, 0 ≤ p.1 ∧ p.1 < ns.length) (hpl : ps.length ≤ 32)
    (hQ : ∀ (h' : Heap) (tk : Nat) (lA : Addr) (n : Nat) (tab' : Array Value) (extra' : List (Addr × Obj)), Kept [116] s.heap h' → s.heap.get? lA = none → h'.get? lA = some (listOf (tInts (layL (fun p => ns.getD p.toNat 0) ps)).toArray n) →
      h'.get? 116 = some (tabObj tab') → (∀ p ∈ extra', s.heap.get? p.1 = none ∧ p.1 ≠ lA ∧ h'.get? p.1 = some p.2) → TabIn s.heap tab' extra' → Q (.ref lA) { s with heap := h', toks := tk }) :
    wpAny (model pw w) A (call (.ref 121) [.ref pA, .ref rowA, .int 1 tt] []) Q E s := by
  refine wpAny_call ?_
  refine' enterC (binds := [("piece", .ref pA), ("row", .ref rowA), ("turn", .int 1 tt)]) [116] ?hroom (X.keeps kg) (T.keeps kg).nolimit ?ho ?hcd ?hbind ?hco ?hgen ?hk ?hkind ?hnd ?_
  case hroom => exact (R.le (d' := 0) (u' := 0) (Nat.zero_le _) (Nat.zero_le _)).dep
  case ho => k_is
  case hcd => k_is
  case hbind => exact BindsTo.of_eq rfl
  case hco => rfl
  case hgen => rfl
  case hk => rfl
  case hkind => intro n x hx; rcases List.mem_cons.mp hx with rfl | hx; exact .inl rfl; rcases List.mem_cons.mp hx with rfl | hx; exact .inr ⟨rfl, rfl⟩; rcases List.mem_cons.mp hx with rfl | hx; exact .inl rfl; cases hx
  case hnd => decide
  intro g L h₁ tk cells hg F Y HN hL
  have N := HN [(116, tabObj tab)] (by intro p hp; rcases List.mem_singleton.mp hp with rfl; exact ⟨.head _, htab⟩)
  clear HN
  obtain ⟨co, rfl, hco⟩ := Y.one
  clear Y
  replace hco : co.data = .cell (some (.ref rowA)) := hco
  replace F : Fr g L h₁ (fun y => if y = "turn" then some (.int 1 tt) else if y = "piece" then some (.ref pA) else none) := F
  have Xg : (hd.heap_39 w.params).In g := by subst hg; exact X.keeps (stays_hide1 kg h116)
  have Tg : Top topProg loose mean mg mb g := by subst hg; exact T.keeps (stays_hide1 kg h116)
  show wpAny _ _ _ _ _ _
  have Cg : CodeHd g 120 116 := by subst hg; exact C.keeps (stays_hide1 kg h116)
  have hTg : TabIn g tab [] := by subst hg; exact hT.hide htab
  have hrg : g.IsList rowA rvs.toArray := by subst hg; exact let ⟨o, a, r⟩ := hr; ⟨o, hideAll_get _ a (by simpa using hr6), r⟩
  have hpg : g.IsList pA (tInts ps).toArray := by subst hg; exact let ⟨o, a, r⟩ := hp; ⟨o, hideAll_get _ a (by simpa using hp6), r⟩
  show wpAny _ _ _ _ _ _
  k_fold
  repeat' ((fail_if_success (with_reducible show wpAny _ _ (exec (Stmt.For _ _ _ _ _) _) _ _ _)); (first | walk1 | (dsimp only; walk1)))
  refine wpAny_For ?_
  repeat' ((fail_if_success (with_reducible show wpAny _ _ (pyIter _) _ _ _)); (first | walk1 | (dsimp only; walk1)))
  rename Fr _ _ _ _ => F2
  rename News _ _ _ _ => N2
  rename_i lN h9 l9 h10
  have hnl : ∀ p ∈ ([(L + 1, co), (116, tabObj tab)] : List (Addr × Obj)), p.1 ≠ lN := fun p hp => Nat.ne_of_lt (l9 p hp)
  refine fr_name F2 fun m0 em0 F2 => ?_
  refine for_list (L := L) (items := tInts ps) (LayJ g m0 L lN co (layL fun p => ns.getD p.toNat 0) ps) rfl rfl rfl R.hh F2 N2 ?h0 ?hl ?turn ?done
  case h0 => subst em0; exact ⟨0, tab, [], rfl, hTg, (fun _ h => nomatch h), Loc.mk (by kst_all) (fun _ _ _ => rfl)⟩
  case hl => exact fun _ _ _ h _ _ F _ => let ⟨o, a, r⟩ := hpg; ⟨o, F.keep _ _ a, r⟩
  case turn =>
    rintro i v m₁ news₁ h₂ tk₁ tk₂ I o hv ⟨n, tb, extra, rfl, hTb, hex, u, rfl⟩ htk hI hIl F3 N3
    subst em0
    obtain ⟨p, hp', rfl⟩ : ∃ p, ps[i]? = some p ∧ v = .int p.1 p.2 := by
      rw [List.getElem?_map] at hv
      obtain ⟨p, a, b⟩ := Option.map_eq_some_iff.mp hv
      exact ⟨p, a, b.symm⟩
    dsimp only [kstB] at F3
    show wpAny _ _ _ _ _ _
    k_fold
    repeat' ((fail_if_success (with_reducible show wpAny _ _ (eval (Expr.Lambda _ _ _ _) _) _ _ _)); (first | walk1 | (dsimp only; walk1)))
    rename Fr _ _ _ _ => F4
    rename News _ _ _ _ => N4
    have hL1 : L + 1 ≠ 116 := Nat.ne_of_gt (show 116 < L + 1 from Nat.lt_succ_of_lt (by rw [hL]; exact Heap.lt_size htab))
    have hlN : ∀ p ∈ ([(L + 1, co), (116, tabObj tab)] : List (Addr × Obj)), p.1 < lN := l9
    have hlN1 : L + 1 < lN := hlN _ (.head _)
    have hlN6 : 116 < lN := hlN (116, tabObj tab) (.tail _ (.head _))
    have hIlN : lN ≠ I := hI _ (.head _)
    have hIL1 : L + 1 ≠ I := hI (L + 1, co) (.tail _ (.head _))
    have hI6 : 116 ≠ I := hI (116, tabObj tb) (.tail _ (.tail _ (.head _)))
    have hIex : ∀ p ∈ extra, p.1 ≠ I := fun p hp => hI p (.tail _ (.tail _ (.tail _ hp)))
    refine lam_eval (pre := [(I, o), (lN, _), (L + 1, co)]) F4 N4 Tg Cg hTb ?_ (fun p hp => (hex p hp).2.2) rfl rfl rfl ?_
    · intro p hp
      rcases List.mem_cons.mp hp with rfl | hp
      · exact hI6.symm
      · rcases List.mem_cons.mp hp with rfl | hp
        · exact Nat.ne_of_gt hlN6
        · rcases List.mem_cons.mp hp with rfl | hp
          · exact hL1
          · cases hp
    intro f c' ctv h5 tk5 tb' extra' F5 N5 hT5 hc5 hx5 hf5
    repeat' ((fail_if_success (with_reducible show wpAny _ _ (call (Value.ref _) _ _) _ _ _)); (first | k_unfold | walk1 | (dsimp only; walk1)))
    rename Fr _ _ _ _ => F6
    rename News _ _ _ _ => N6
    have hglN : g.get? lN = none := (N6 (lN, _) (.tail _ (.tail _ (.head _)))).2.2
    have hflN : f ≠ lN := Nat.ne_of_gt (hf5 (lN, _) (.tail _ (.head _)))
    have hex' : ∀ q ∈ extra', q.1 ≠ I ∧ q.1 ≠ lN ∧ q.1 ≠ L + 1 ∧ q.1 ≠ 116 := fun q hq => by
      rcases hx5 q hq with h | h
      · exact ⟨hIex q h, hex q h⟩
      · exact ⟨Nat.ne_of_gt (h (I, o) (.head _)), Nat.ne_of_gt (h (lN, _) (.tail _ (.head _))), Nat.ne_of_gt (h (L + 1, co) (.tail _ (.tail _ (.head _)))), Nat.ne_of_gt (h (116, tabObj tb) (.tail _ (.tail _ (.tail _ (.head _)))))⟩
    have hmem : ∀ q ∈ layL (fun p => ns.getD p.toNat 0) (ps.take i), 0 ≤ q.1 ∧ q.1 < ns.length := fun q hq => hdom q (List.mem_of_mem_take ((layL_perm _ _).mem_iff.mp hq))
    have hlay := (layL_sorted (fun p => ns.getD p.toNat 0) (ps.take i)).ord
    have hll : (layL (fun p => ns.getD p.toNat 0) (ps.take i)).length ≤ 32 := by
      rw [(layL_perm _ _).length_eq, List.length_take]; omega
    have hst := layL_step (f := fun p => ns.getD p.toNat 0) hp'
    generalize hacc : layL (fun p => ns.getD p.toNat 0) (ps.take i) = acc at *
    have k1 := Tg.keeps (stays_hide1 F6.keep hglN)
    have k2 := hideAll_get [lN] (N6 _ (.head _)).1 (by simpa using hflN)
    have k3 : (hideAll h5 [lN]).CodeRec (.ref c') lamQual := by
      obtain ⟨oc, ⟨vs, t, hd, hv⟩, h | h⟩ := hc5
      · exact ⟨c', oc, vs, t, rfl, hideAll_get _ (F6.keep _ _ h) (fun m => by rw [List.mem_singleton.mp m, hglN] at h; cases h), hd, hv⟩
      · exact ⟨c', oc, vs, t, rfl, hideAll_get _ (N6 (c', oc) (.tail _ (.tail _ (.tail _ (.tail _ (.tail _ h)))))).1 (fun m => (hex' _ h).2.1 (List.mem_singleton.mp m)), hd, hv⟩
    have k4 : ∃ o, (hideAll h5 [lN]).get? (L + 1) = some o ∧ o.data = .cell (some (.ref rowA)) := ⟨co, hideAll_get _ (N6 (L + 1, co) (.tail _ (.tail _ (.tail _ (.head _))))).1 (by simpa using Nat.ne_of_lt hlN1), hco⟩
    have k5 : ∃ vs, (hideAll h5 [lN]).IsList rowA vs.toArray ∧ IntsAre vs ns := ⟨rvs, (let ⟨o, a, r⟩ := hrg; ⟨o, hideAll_get _ (F6.keep _ _ a) (fun m => by rw [List.mem_singleton.mp m, hglN] at a; cases a), r⟩), hi⟩
    have hok := LamOk.mk (w := w) k1 k2 k3 k4 k5
    refine ilk_call (lam_key hrl) hok ?hdm ?hdx Xg Tg F6.keep hglN (R.deep.le (by decide) (by decide)) (N6 (lN, _) (.tail _ (.tail _ (.head _)))).1 (ints_are acc) (by rw [List.length_map]; omega) hlay ?_
    case hdm =>
      intro j hj
      rw [List.length_map] at hj
      rw [nums_getD acc j hj]
      exact hmem _ (List.getElem_mem hj)
    case hdx => exact hdom p (List.mem_of_getElem? hp')
    intro r h7 tk7 hr7 k7 e7
    have hnew : (tInts acc).take r ++ Value.int p.1 p.2 :: (tInts acc).drop r = tInts (insL (fun p => ns.getD p.toNat 0) p acc) := by
      rw [← insL_pos hr7]
      simp [List.map_take, List.map_drop]
    rw [hnew] at e7
    obtain ⟨F7, N7⟩ := kept_one (pre := [(f, _), (I, o)]) (post := (L + 1, co) :: (116, tabObj tb') :: extra') k7 F6 N6 (fun q hq => by
      rcases List.mem_cons.mp hq with rfl | hq
      · exact hflN
      · rcases List.mem_cons.mp hq with rfl | hq
        · exact hIlN.symm
        · cases hq) (fun q hq => by
      rcases List.mem_cons.mp hq with rfl | hq
      · exact Nat.ne_of_lt hlN1
      · rcases List.mem_cons.mp hq with rfl | hq
        · exact Nat.ne_of_lt hlN6
        · exact (hex' q hq).2.1) e7
    clear F6 N6
    repeat' ((first | k_unfold | walk1 | (dsimp only; walk1)))
    rename Fr _ _ _ _ => F8
    rename News _ _ _ _ => N8
    refine LEnd.mk (nx := (lN, listOf (tInts (insL (fun p => ns.getD p.toNat 0) p acc)).toArray (n + 1)) :: (L + 1, co) :: (116, tabObj tb') :: extra') F8 N8 (fun q hq => ?_) (fun q hq => .tail _ (.tail _ hq)) (fun q hq r hr => ?_) ⟨n + 1, tb', extra', by rw [hst], hT5, fun q hq => (hex' q hq).2, Loc.mk (fun _ h => nomatch h) (by ksw_same)⟩
    · rcases List.mem_singleton.mp hq with rfl; exact .tail _ (.head _)
    · rcases List.mem_singleton.mp hr with rfl
      rcases List.mem_cons.mp hq with rfl | hq
      · exact hIlN
      · rcases List.mem_cons.mp hq with rfl | hq
        · exact hIL1
        · rcases List.mem_cons.mp hq with rfl | hq
          · exact hI6
          · exact (hex' q hq).1
  case done =>
    rintro m₁ news₁ h₂ tk₁ tk₂ ⟨n, tb, extra, rfl, hTb, hex, u, rfl⟩ htk F3 N3
    subst em0
    dsimp only [kstB] at F3
    show wpAny _ _ _ _ _ _
    k_fold
    repeat' ((first | k_unfold | walk1 | (dsimp only; walk1)))
    rename Fr _ _ _ _ => F8
    rename News _ _ _ _ => N8
    have hlN6 : 116 < lN := l9 (116, tabObj tab) (.tail _ (.head _))
    have none_of : ∀ b, b ≠ 116 → g.get? b = none → s.heap.get? b = none := fun b hb e => by
      cases q : s.heap.get? b with
      | none => rfl
      | some o =>
        have := hideAll_get [116] q (by simpa using hb)
        rw [← hg, e] at this
        cases this
    have e1 := N8 (lN, _) (.head _)
    have e2 := N8 (116, tabObj tb) (.tail _ (.tail _ (.head _)))
    rw [show (tInts ps).length = ps.length by simp, List.take_length] at e1
    refine hQ _ _ lN n tb extra (kept_of_fr (hg ▸ F8)) (none_of _ (Nat.ne_of_gt hlN6) e1.2.2) e1.1 e2.1 (fun q hq => ?_) ⟨hTb.ok, fun pos v q => ?_⟩
    · have e3 := N8 q (.tail _ (.tail _ (.tail _ hq)))
      exact ⟨none_of _ (hex q hq).2.2 e3.2.2, (hex q hq).1, e3.1⟩
    · obtain ⟨c, o, q1, q2, q3⟩ := hTb.codes pos v q
      exact ⟨c, o, q1, q2, q3.imp (fun q => of_hideAll _ (hg ▸ q)) id⟩
set_option maxRecDepth 100000 in
set_option maxHeartbeats 4000000 in
theorem lay2_call {w : World} {loose : List Str} {mean : ExcName → Option Value} {mg mb : Str → Option Value} {A : Around} {s : Shared} {Q E : Value → Shared → Prop} {pA rowA : Addr} {ps : List (Int × Tok)} {tt : Tok}
    (X : (hd.heap_39 w.params).In s.heap) (T : Top topProg loose mean mg mb s.heap) (R : Room A 4 90)
    (hp : s.heap.IsList pA (tInts ps).toArray) (hpl : ps.length ≤ 32)
    (hQ : ∀ (h' : Heap) (tk : Nat) (lA : Addr) (n : Nat), s.heap.StaysIn h' → s.heap.get? lA = none → h'.get? lA = some (listOf (tInts (layR id ps)).toArray n) → Q (.ref lA) { s with heap := h', toks := tk }) :
    wpAny (model pw w) A (call (.ref 121) [.ref pA, .ref rowA, .int 2 tt] []) Q E s := by
  refine wpAny_call ?_
  refine' enterC (binds := [("piece", .ref pA), ("row", .ref rowA), ("turn", .int 2 tt)]) [] ?hroom X T.nolimit ?ho ?hcd ?hbind ?hco ?hgen ?hk ?hkind ?hnd ?_
  case hroom => exact (R.le (d' := 0) (u' := 0) (Nat.zero_le _) (Nat.zero_le _)).dep
  case ho => k_is
  case hcd => k_is
  case hbind => exact BindsTo.of_eq rfl
  case hco => rfl
  case hgen => rfl
  case hk => rfl
  case hkind => intro n x hx; rcases List.mem_cons.mp hx with rfl | hx; exact .inl rfl; rcases List.mem_cons.mp hx with rfl | hx; exact .inr ⟨rfl, rfl⟩; rcases List.mem_cons.mp hx with rfl | hx; exact .inl rfl; cases hx
  case hnd => decide
  intro g L h₁ tk cells hg F Y HN hL
  have hgs : g = s.heap := hg
  subst hgs
  have N := HN [] (by intro p hp; cases hp)
  clear HN
  obtain ⟨co, rfl, hco⟩ := Y.one
  clear Y
  replace hco : co.data = .cell (some (.ref rowA)) := hco
  replace F : Fr s.heap L h₁ (fun y => if y = "turn" then some (.int 2 tt) else if y = "piece" then some (.ref pA) else none) := F
  show wpAny _ _ _ _ _ _
  k_fold
  repeat' ((fail_if_success (with_reducible show wpAny _ _ (exec (Stmt.For _ _ _ _ _) _) _ _ _)); (first | walk1 | (dsimp only; walk1)))
  refine wpAny_For ?_
  repeat' ((fail_if_success (with_reducible show wpAny _ _ (pyIter _) _ _ _)); (first | walk1 | (dsimp only; walk1)))
  rename Fr _ _ _ _ => F2
  rename News _ _ _ _ => N2
  rename_i lN h9 l9 h10
  refine fr_name F2 fun m0 em0 F2 => ?_
  refine for_list (L := L) (items := tInts ps) (fun i m news _ => ∃ n, news = [(lN, listOf (tInts (layR id (ps.take i))).toArray n)] ∧ Loc m0 ["x"] [] m) rfl rfl rfl R.hh F2 (fun p hp => N2 p (by rcases List.mem_singleton.mp hp with rfl; exact .head _)) ?h0 ?hl ?turn ?done
  case h0 => subst em0; exact ⟨0, rfl, Loc.mk (by kst_all) (fun _ _ _ => rfl)⟩
  case hl => exact fun _ _ _ h _ _ F _ => let ⟨o, a, r⟩ := hp; ⟨o, F.keep _ _ a, r⟩
  case turn =>
    rintro i v m₁ news₁ h₂ tk₁ tk₂ I o hv ⟨n, rfl, u, rfl⟩ htk hI hIl F3 N3
    subst em0
    obtain ⟨p, hp', rfl⟩ : ∃ p, ps[i]? = some p ∧ v = .int p.1 p.2 := by
      rw [List.getElem?_map] at hv
      obtain ⟨p, a, b⟩ := Option.map_eq_some_iff.mp hv
      exact ⟨p, a, b.symm⟩
    dsimp only [kstB] at F3
    show wpAny _ _ _ _ _ _
    k_fold
    have hIlN : lN ≠ I := hI _ (.head _)
    repeat' ((fail_if_success (with_reducible show wpAny _ _ (call (Value.ref _) _ _) _ _ _)); (first | k_unfold | walk1 | (dsimp only; walk1)))
    rename Fr _ _ _ _ => F6
    rename News _ _ _ _ => N6
    have hglN : s.heap.get? lN = none := (N6 (lN, _) (.tail _ (.head _))).2.2
    have hlay := (layR_sorted id (ps.take i)).ord
    have hll : (layR id (ps.take i)).length ≤ 32 := by
      rw [(layR_perm _ _).length_eq, List.length_take]; omega
    have hst := layR_step (f := id) hp'
    generalize hacc : layR id (ps.take i) = acc at *
    refine ir_call X T F6.keep hglN (R.deep.le (by decide) (by decide)) (N6 (lN, _) (.tail _ (.head _))).1 (ints_are acc) (by rw [List.length_map]; omega) hlay ?_
    intro r h7 tk7 hr7 k7 e7
    have hnew : (tInts acc).take r ++ Value.int p.1 p.2 :: (tInts acc).drop r = tInts (insR id p acc) := by
      rw [← insR_pos hr7]
      simp [List.map_take, List.map_drop]
    rw [hnew] at e7
    obtain ⟨F7, N7⟩ := kept_one (pre := [(I, o)]) (post := []) k7 F6 N6 (fun q hq => by rcases List.mem_singleton.mp hq with rfl; exact hIlN.symm) (fun q hq => nomatch hq) e7
    clear F6 N6
    repeat' ((first | k_unfold | walk1 | (dsimp only; walk1)))
    rename Fr _ _ _ _ => F8
    rename News _ _ _ _ => N8
    refine LEnd.mk (nx := [(lN, listOf (tInts (insR id p acc)).toArray (n + 1))]) F8 N8 (fun q hq => ?_) (fun q hq => .tail _ hq) (fun q hq r hr => ?_) ⟨n + 1, by rw [hst], Loc.mk (fun _ h => nomatch h) (by ksw_same)⟩
    · rcases List.mem_singleton.mp hq with rfl; exact .head _
    · rcases List.mem_singleton.mp hr with rfl
      rcases List.mem_singleton.mp hq with rfl
      exact hIlN
  case done =>
    rintro m₁ news₁ h₂ tk₁ tk₂ ⟨n, rfl, u, rfl⟩ htk F3 N3
    subst em0
    dsimp only [kstB] at F3
    show wpAny _ _ _ _ _ _
    k_fold
    repeat' ((first | k_unfold | walk1 | (dsimp only; walk1)))
    rename Fr _ _ _ _ => F8
    rename News _ _ _ _ => N8
    have e1 := N8 (lN, _) (.head _)
    rw [show (tInts ps).length = ps.length by simp, List.take_length] at e1
    exact hQ _ _ lN n F8.keep e1.2.2 e1.1
set_option maxRecDepth 100000 in
set_option maxHeartbeats 4000000 in
theorem lay3_call {w : World} {loose : List Str} {mean : ExcName → Option Value} {mg mb : Str → Option Value} {A : Around} {s : Shared} {Q E : Value → Shared → Prop} {pA rowA : Addr} {ps : List (Int × Tok)} {tt : Tok}
    (X : (hd.heap_39 w.params).In s.heap) (T : Top topProg loose mean mg mb s.heap) (R : Room A 4 90)
    (hp : s.heap.IsList pA (tInts ps).toArray) (hpl : ps.length ≤ 32)
    (hQ : ∀ (h' : Heap) (tk : Nat) (lA : Addr) (n : Nat), s.heap.StaysIn h' → s.heap.get? lA = none → h'.get? lA = some (listOf (tInts (layL id ps)).toArray n) → Q (.ref lA) { s with heap := h', toks := tk }) :
    wpAny (model pw w) A (call (.ref 121) [.ref pA, .ref rowA, .int 3 tt] []) Q E s := by
  refine wpAny_call ?_
  refine' enterC (binds := [("piece", .ref pA), ("row", .ref rowA), ("turn", .int 3 tt)]) [] ?hroom X T.nolimit ?ho ?hcd ?hbind ?hco ?hgen ?hk ?hkind ?hnd ?_
  case hroom => exact (R.le (d' := 0) (u' := 0) (Nat.zero_le _) (Nat.zero_le _)).dep
  case ho => k_is
  case hcd => k_is
  case hbind => exact BindsTo.of_eq rfl
  case hco => rfl
  case hgen => rfl
  case hk => rfl
  case hkind => intro n x hx; rcases List.mem_cons.mp hx with rfl | hx; exact .inl rfl; rcases List.mem_cons.mp hx with rfl | hx; exact .inr ⟨rfl, rfl⟩; rcases List.mem_cons.mp hx with rfl | hx; exact .inl rfl; cases hx
  case hnd => decide
  intro g L h₁ tk cells hg F Y HN hL
  have hgs : g = s.heap := hg
  subst hgs
  have N := HN [] (by intro p hp; cases hp)
  clear HN
  obtain ⟨co, rfl, hco⟩ := Y.one
  clear Y
  replace hco : co.data = .cell (some (.ref rowA)) := hco
  replace F : Fr s.heap L h₁ (fun y => if y = "turn" then some (.int 3 tt) else if y = "piece" then some (.ref pA) else none) := F
  show wpAny _ _ _ _ _ _
  k_fold
  repeat' ((fail_if_success (with_reducible show wpAny _ _ (exec (Stmt.For _ _ _ _ _) _) _ _ _)); (first | walk1 | (dsimp only; walk1)))
  refine wpAny_For ?_
  repeat' ((fail_if_success (with_reducible show wpAny _ _ (pyIter _) _ _ _)); (first | walk1 | (dsimp only; walk1)))
  rename Fr _ _ _ _ => F2
  rename News _ _ _ _ => N2
  rename_i lN h9 l9 h10
  refine fr_name F2 fun m0 em0 F2 => ?_
  refine for_list (L := L) (items := tInts ps) (fun i m news _ => ∃ n, news = [(lN, listOf (tInts (layL id (ps.take i))).toArray n)] ∧ Loc m0 ["x"] [] m) rfl rfl rfl R.hh F2 (fun p hp => N2 p (by rcases List.mem_singleton.mp hp with rfl; exact .head _)) ?h0 ?hl ?turn ?done
  case h0 => subst em0; exact ⟨0, rfl, Loc.mk (by kst_all) (fun _ _ _ => rfl)⟩
  case hl => exact fun _ _ _ h _ _ F _ => let ⟨o, a, r⟩ := hp; ⟨o, F.keep _ _ a, r⟩
  case turn =>
    rintro i v m₁ news₁ h₂ tk₁ tk₂ I o hv ⟨n, rfl, u, rfl⟩ htk hI hIl F3 N3
    subst em0
    obtain ⟨p, hp', rfl⟩ : ∃ p, ps[i]? = some p ∧ v = .int p.1 p.2 := by
      rw [List.getElem?_map] at hv
      obtain ⟨p, a, b⟩ := Option.map_eq_some_iff.mp hv
      exact ⟨p, a, b.symm⟩
    dsimp only [kstB] at F3
    show wpAny _ _ _ _ _ _
    k_fold
    have hIlN : lN ≠ I := hI _ (.head _)
    repeat' ((fail_if_success (with_reducible show wpAny _ _ (call (Value.ref _) _ _) _ _ _)); (first | k_unfold | walk1 | (dsimp only; walk1)))
    rename Fr _ _ _ _ => F6
    rename News _ _ _ _ => N6
    have hglN : s.heap.get? lN = none := (N6 (lN, _) (.tail _ (.head _))).2.2
    have hlay := (layL_sorted id (ps.take i)).ord
    have hll : (layL id (ps.take i)).length ≤ 32 := by
      rw [(layL_perm _ _).length_eq, List.length_take]; omega
    have hst := layL_step (f := id) hp'
    generalize hacc : layL id (ps.take i) = acc at *
    refine il_call X T F6.keep hglN (R.deep.le (by decide) (by decide)) (N6 (lN, _) (.tail _ (.head _))).1 (ints_are acc) (by rw [List.length_map]; omega) hlay ?_
    intro r h7 tk7 hr7 k7 e7
    have hnew : (tInts acc).take r ++ Value.int p.1 p.2 :: (tInts acc).drop r = tInts (insL id p acc) := by
      rw [← insL_pos hr7]
      simp [List.map_take, List.map_drop]
    rw [hnew] at e7
    obtain ⟨F7, N7⟩ := kept_one (pre := [(I, o)]) (post := []) k7 F6 N6 (fun q hq => by rcases List.mem_singleton.mp hq with rfl; exact hIlN.symm) (fun q hq => nomatch hq) e7
    clear F6 N6
    repeat' ((first | k_unfold | walk1 | (dsimp only; walk1)))
    rename Fr _ _ _ _ => F8
    rename News _ _ _ _ => N8
    refine LEnd.mk (nx := [(lN, listOf (tInts (insL id p acc)).toArray (n + 1))]) F8 N8 (fun q hq => ?_) (fun q hq => .tail _ hq) (fun q hq r hr => ?_) ⟨n + 1, by rw [hst], Loc.mk (fun _ h => nomatch h) (by ksw_same)⟩
    · rcases List.mem_singleton.mp hq with rfl; exact .head _
    · rcases List.mem_singleton.mp hr with rfl
      rcases List.mem_singleton.mp hq with rfl
      exact hIlN
  case done =>
    rintro m₁ news₁ h₂ tk₁ tk₂ ⟨n, rfl, u, rfl⟩ htk F3 N3
    subst em0
    dsimp only [kstB] at F3
    show wpAny _ _ _ _ _ _
    k_fold
    repeat' ((first | k_unfold | walk1 | (dsimp only; walk1)))
    rename Fr _ _ _ _ => F8
    rename News _ _ _ _ => N8
    have e1 := N8 (lN, _) (.head _)
    rw [show (tInts ps).length = ps.length by simp, List.take_length] at e1
    exact hQ _ _ lN n F8.keep e1.2.2 e1.1
end Mine
end

section
open PySem PySem.W PyProof.Rows
open PySem.Calls PySem.Spec
namespace Mine

set_option maxRecDepth 100000 in
set_option maxHeartbeats 4000000 in
theorem standZ_call {w : World} {loose : List Str} {mean : ExcName → Option Value} {mg mb : Str → Option Value} {A : Around} {s : Shared} {Q E : Value → Shared → Prop} {pA lA rA : Addr} {ps qs : List (Int × Tok)} {ns : List Int} {rvs : List Value} {z : Int} {tt : Tok}
    (X : (hd.heap_39 w.params).In s.heap) (T : Top topProg loose mean mg mb s.heap) (R : Room A 2 60)
    (hp : s.heap.IsList pA (tInts ps).toArray) (hl : s.heap.IsList lA (tInts qs).toArray) (hr : s.heap.IsList rA rvs.toArray) (hi : IntsAre rvs ns)
    (hpl : ps.length ≤ 32) (hql : qs.length ≤ 32) (hnl : ns.length < 2 ^ 20)
    (htk : ∀ p ∈ ps, p.2 ≠ 0 ∧ ∀ q ∈ ps, p.2 = q.2 → p.1 = q.1) (hsub : ∀ q ∈ qs, q ∈ ps) (hdom : ∀ q ∈ qs, 0 ≤ q.1 ∧ q.1 < ns.length)
    (hst : ∀ k, 0 < k → k < qs.length → ns.getD ((nums qs).getD (k - 1) 0).toNat 0 = ns.getD ((nums qs).getD k 0).toNat 0 → decide ((nums ps).idxOf ((nums qs).getD (k - 1) 0) < (nums ps).idxOf ((nums qs).getD k 0)) = (z == 0))
    (hQ : ∀ (h' : Heap) (tk : Nat), s.heap.StaysIn h' → Q (.bool true) { s with heap := h', toks := tk }) :
    wpAny (model pw w) A (call (.ref 128) [.ref pA, .ref lA, .ref rA, .int z tt] []) Q E s := by
  refine wpAny_call ?_
  refine' enter (binds := [("piece", .ref pA), ("lain", .ref lA), ("row", .ref rA), ("turn", .int z tt)]) [] ?hroom X T.nolimit ?ho ?hcd ?hbind ?hco ?hgen ?hk ?hcell ?hloc ?_
  case hroom => exact (R.le (d' := 0) (u' := 0) (Nat.zero_le _) (Nat.zero_le _)).dep
  case ho => k_is
  case hcd => k_is
  case hbind => exact BindsTo.of_eq rfl
  case hco => rfl
  case hgen => rfl
  case hk => rfl
  case hcell => decide
  case hloc => exact locs rfl
  intro g L h₁ hg F HN
  have hgs : g = s.heap := hg
  subst hgs
  have N := HN [] (by intro p hp; cases hp)
  clear HN hg
  try dsimp only [List.reverse, List.reverseAux] at F
  try dsimp only
  have hqi := ints_are qs
  have hqn : (nums qs).length = qs.length := by simp
  have hqv : (tInts qs).length = qs.length := by simp
  show wpAny _ _ _ _ _ _
  k_fold
  repeat' ((fail_if_success (with_reducible show wpAny _ _ (exec (Stmt.For _ _ _ _ _) _) _ _ _)); (first | walk1 | (dsimp only; walk1)))
  refine wpAny_For ?_
  repeat' ((fail_if_success (with_reducible show wpAny _ _ (call (Value.type _) _ _) _ _ _)); (first | walk1 | (dsimp only; walk1)))
  refine call_range_2 ?_
  rename Fr _ _ _ _ => F2
  rename News _ _ _ _ => N2
  refine fr_name F2 fun m0 em0 F2 => ?_
  dsimp only
  have F3 := F2.push { cls := .type "range", data := .fields #[.int 1 tk, .int ((nums qs).length : Int) (tk + 1 + 1), .int 1 (tk + 1 + 1 + 1)] }
  refine for_range (L := L) (n := qs.length - 1) (a := 1) (b := (nums qs).length) (fun i m news _ => news = [] ∧ Loc m0 ["k"] [] m) rfl rfl rfl R.hh (IsRange.new _ _ _ _ _ _ _) (by decide) (by decide) (by omega) (by omega) (by omega) F3 (News.nil) ?h0 ?turn ?done
  case h0 => subst em0; exact ⟨rfl, Loc.mk (by kst_all) (fun _ _ _ => rfl)⟩
  case turn =>
    rintro i ti m₁ news₁ h₂ tk₁ tk₂ I o hlt ⟨rfl, u, rfl⟩ hti htk2 hI F4 N4
    subst em0
    dsimp only [kstB] at F4
    have e1 : (1 : Int) + (i : Int) - 1 = (i : Int) := by omega
    have hi1 : i < qs.length := by omega
    have hi2 : i + 1 < qs.length := by omega
    have d1 := hdom _ (List.getElem_mem hi1)
    have d2 := hdom _ (List.getElem_mem hi2)
    rw [← nums_getD qs i hi1] at d1
    rw [← nums_getD qs (i + 1) hi2] at d2
    have b1 : 0 ≤ (nums qs).getD ((1 : Int) + (i : Int) - 1).toNat 0 ∧ (nums qs).getD ((1 : Int) + (i : Int) - 1).toNat 0 < ns.length := by rw [e1, Int.toNat_natCast]; exact d1
    have b2 : 0 ≤ (nums qs).getD ((1 : Int) + (i : Int)).toNat 0 ∧ (nums qs).getD ((1 : Int) + (i : Int)).toNat 0 < ns.length := by rw [show ((1 : Int) + (i : Int)).toNat = i + 1 by omega]; exact d2
    obtain ⟨b1a, b1b⟩ := b1
    obtain ⟨b2a, b2b⟩ := b2
    show wpAny _ _ _ _ _ _
    k_fold
    have hk1 : ∀ h, s.heap.StaysIn h → h.IsList lA (tInts qs).toArray := fun h k => let ⟨o, a, r⟩ := hl; ⟨o, k _ _ a, r⟩
    have hk2 : ∀ h, s.heap.StaysIn h → h.IsList pA (tInts ps).toArray := fun h k => let ⟨o, a, r⟩ := hp; ⟨o, k _ _ a, r⟩
    have x1 : (tInts qs).toArray[((1 : Int) + (i : Int) - 1).toNat]? = some (.int qs[i].1 qs[i].2) := by rw [e1, Int.toNat_natCast]; simp [hi1]
    have x2 : (tInts qs).toArray[((1 : Int) + (i : Int)).toNat]? = some (.int qs[i + 1].1 qs[i + 1].2) := by rw [show ((1 : Int) + (i : Int)).toNat = i + 1 by omega]; simp [hi2]
    have m1 := hsub _ (List.getElem_mem hi1)
    have m2 := hsub _ (List.getElem_mem hi2)
    have tk1 := htk _ m1
    have tk2 := htk _ m2
    have hs := hst (i + 1) (by omega) hi2
    rw [Nat.add_sub_cancel] at hs
    have hs' : ns.getD ((nums qs).getD ((1 : Int) + (i : Int) - 1).toNat 0).toNat 0 = ns.getD ((nums qs).getD ((1 : Int) + (i : Int)).toNat 0).toNat 0 → decide (((nums ps).idxOf qs[i].1 : Int) < ((nums ps).idxOf qs[i + 1].1 : Int)) = (z == 0) := by
      rw [e1, Int.toNat_natCast, show ((1 : Int) + (i : Int)).toNat = i + 1 by omega]
      intro h
      have h2 := hs h
      rw [nums_getD qs i hi1, nums_getD qs (i + 1) hi2] at h2
      rw [← h2]
      exact decide_eq_decide.mpr (by omega)
    repeat' ((fail_if_success (with_reducible show wpAny _ _ (eval (Expr.Call _ _ _ _) _) _ _ _)); (first | k_unfold | walk1 | (dsimp only; walk1)))
    · repeat' ((fail_if_success (with_reducible show wpAny _ _ (subscriptTail _ _ _ _) _ _ _)); (first | k_unfold | walk1 | (dsimp only; walk1)))
      rename Fr _ _ _ _ => F5
      refine PyProof.Rows.item_list (hk1 _ F5.keep) (by omega) (by omega) x1 ?_
      repeat' ((fail_if_success (with_reducible show wpAny _ _ (call (Value.ref _) _ _) _ _ _)); (first | k_unfold | walk1 | (dsimp only; walk1)))
      rename Fr _ _ _ _ => F6
      rename News _ _ _ _ => N6
      refine index_int (X.keeps F6.keep) (T.keeps F6.keep) (R.deep.le (by decide) (by decide)) (hk2 _ F6.keep) (by omega) tk1.1 (fun q hq => ⟨(htk q hq).1, fun e => (htk q hq).2 _ m1 e⟩) (List.mem_map_of_mem m1) ?_
      intro h7 tk7 t7 k7
      have F7 := stays_fr k7 F6
      have N7 := stays_news k7 N6
      clear F6 N6
      repeat' ((fail_if_success (with_reducible show wpAny _ _ (subscriptTail _ _ _ _) _ _ _)); (first | k_unfold | walk1 | (dsimp only; walk1)))
      rename Fr _ _ _ _ => F8
      refine PyProof.Rows.item_list (hk1 _ F8.keep) (by omega) (by omega) x2 ?_
      repeat' ((fail_if_success (with_reducible show wpAny _ _ (call (Value.ref _) _ _) _ _ _)); (first | k_unfold | walk1 | (dsimp only; walk1)))
      rename Fr _ _ _ _ => F9
      rename News _ _ _ _ => N9
      refine index_int (X.keeps F9.keep) (T.keeps F9.keep) (R.deep.le (by decide) (by decide)) (hk2 _ F9.keep) (by omega) tk2.1 (fun q hq => ⟨(htk q hq).1, fun e => (htk q hq).2 _ m2 e⟩) (List.mem_map_of_mem m2) ?_
      intro h10 tk10 t10 k10
      have F10 := stays_fr k10 F9
      have N10 := stays_news k10 N9
      clear F9 N9
      repeat' ((first | k_unfold | walk1 | (dsimp only; walk1)))
      · exfalso
        rename (decide _ != _) = true => hbad
        rename ns.getD _ _ = ns.getD _ _ => heq
        have hgood := hs' heq
        rw [hgood, bne_self_eq_false] at hbad
        exact nomatch hbad
      · rename Fr _ _ _ _ => F6
        rename News _ _ _ _ => N6
        exact LEnd.mk (nx := []) F6 N6 (fun _ h => h) (fun _ h => nomatch h) (fun _ h => nomatch h) ⟨rfl, Loc.mk (fun _ h => nomatch h) (by ksw_same)⟩
    · rename Fr _ _ _ _ => F6
      rename News _ _ _ _ => N6
      exact LEnd.mk (nx := []) F6 N6 (fun _ h => h) (fun _ h => nomatch h) (fun _ h => nomatch h) ⟨rfl, Loc.mk (fun _ h => nomatch h) (by ksw_same)⟩
  case done =>
    rintro m₁ news₁ h₂ tk₁ tk₂ ⟨rfl, u, rfl⟩ htk F4 N4
    subst em0
    dsimp only [kstB] at F4
    show wpAny _ _ _ _ _ _
    k_fold
    repeat' ((first | k_unfold | walk1 | (dsimp only; walk1)))
    rename Fr _ _ _ _ => F8
    exact hQ _ _ F8.keep
end Mine
end

section
open PySem PySem.W PyProof.Rows
open PySem.Calls PySem.Spec
namespace Mine
section
variable {prog : Program} {w : World} {A : Around} {E : Value → Shared → Prop} {env : Env} {R : Result → Shared → Prop}

theorem compLoop_J {s : Shared} {elt iter : Expr} {x : Str} {px : Pos} {scope : Scope} {pos : Pos} {I D : Addr} {fp wr : List Addr} {n : Nat} {P : Nat → Value → Prop} {St : Nat → Heap → Prop}
    {cenv : Env} {m : Str → Option Value} (W : Walks prog w A I fp wr n P St) (J : List Value → List Value → Nat → Prop) (mono : ∀ vs ys a b, J vs ys a → a ≤ b → J vs ys b)
    (hx : cenv.kindOf x = some .local) (hp : (cenv.scope.kind == .class || (cenv.scope.kind == .module && cenv.locals != cenv.globals)) = false)
    (hDC : D ≠ cenv.locals) (hDf : D ∉ fp) (hCf : cenv.locals ∉ fp)
    (hst : St 0 s.heap) (hacc : s.heap.PlainList D #[]) (hn : s.heap.Ns cenv.locals m) (hJ : J [] [] s.toks)
    (helt : ∀ vs ys v h tk m₂, P vs.length v → J vs ys tk → h.Ns cenv.locals m₂ → m₂ x = some v → (∀ b o, b ≠ cenv.locals → b ∉ wr → b ≠ D → s.heap.get? b = some o → h.get? b = some o) →
      wpAny (model prog w) A (eval elt cenv) (fun y s₃ => Keeps { s with heap := h, toks := tk } s₃ ∧ J (vs ++ [v]) (ys ++ [y]) s₃.toks) (notedBy (model prog w) A cenv fun e s' => R (.error e) s') { s with heap := h, toks := tk })
    (hR : ∀ h' tk m' (vs ys : List Value), h'.Ns cenv.locals m' → h'.PlainList D ys.toArray → vs.length = n → J vs ys tk →
      (∀ b o, b ≠ cenv.locals → b ∉ wr → b ≠ D → s.heap.get? b = some o → h'.get? b = some o) → R (.ok .next) { s with heap := h', toks := tk })
    (hsz : n ≤ sizeLine) :
    codeAny (model prog w) A (.compLoop (.ListComp elt [⟨.Name x px, iter, [], 0⟩] scope pos) 0 (.ref I) (.ref D) cenv) R s := by
  have hCw : cenv.locals ∉ wr := fun h => hCf (W.sub _ h)
  have hDw : D ∉ wr := fun h => hDf (W.sub _ h)
  refine codeAny_compLoop_tests
    (fun k s' => ∃ h' tk m', ∃ vs ys : List Value, s' = { s with heap := h', toks := tk } ∧ St vs.length h' ∧ h'.PlainList D ys.toArray ∧ h'.Ns cenv.locals m' ∧ J vs ys tk ∧ ys.length = vs.length ∧ vs.length ≤ n ∧ k = n + 1 - vs.length ∧
      (∀ b o, b ≠ cenv.locals → b ∉ wr → b ≠ D → s.heap.get? b = some o → h'.get? b = some o)) ?_ (n + 1)
    ⟨s.heap, s.toks, m, [], [], rfl, hst, hacc, hn, hJ, rfl, Nat.zero_le _, rfl, fun _ _ _ _ _ e => e⟩
  rintro k s' ⟨H, tk, m', vs, ys, rfl, hst', hacc', hn', hJ', hyl, hi, rfl, hk⟩
  by_cases hlt : vs.length < n
  · refine wpAny_with_toks (n := tk) (Nat.le_refl _) (W.item vs.length _ _ _ hlt hst' fun v h₁ tk₁ hPv hst₁ hk₁ htk₁ => ?_)
    have htk₁' : tk ≤ tk₁ := htk₁
    refine wpAny_assign_Name (wpAny_storeName_local hx (hn'.at' fun o e => hk₁ _ o hCw e) (fun h₂ hn₂ hs₂ => ?_) hp)
    have up₂ : ∀ b o, b ≠ cenv.locals → b ∉ wr → H.get? b = some o → h₂.get? b = some o := fun b o hbC hbf e => hs₂.extBut b o hbC (hk₁ b o hbf e)
    have hst₂ : St (vs.length + 1) h₂ := W.frame _ _ _ hst₁ fun b hb o e => hs₂.extBut b o (fun h => hCf (h ▸ hb)) e
    show wpAny (model prog w) A (pure true) _ _ _
    refine wpAny_pure ?_
    rw [if_pos rfl]
    refine wpAny_mono (helt vs ys v h₂ (tk₁ + 1) _ hPv (mono _ _ _ _ hJ' (Nat.le_succ_of_le htk₁')) hn₂ (by simp) (fun b o hbC hbf hbD e => up₂ b o hbC hbf (hk b o hbC hbf hbD e))) (fun y s₄ h₄ => ?_) fun _ _ e => e
    obtain ⟨⟨h₄, tk₄, rfl, hk₄⟩, hJ₄⟩ := h₄
    have hys : ys.toArray.size ≤ sizeLine := by
      rw [List.size_toArray]; omega
    refine wpAny_list_append_plain (hsz := hys) (hacc'.at fun o e => hk₄ _ o (up₂ D o hDC hDw e)) fun h₅ hl₅ hs₅ => ?_
    rw [List.push_toArray] at hl₅
    refine ⟨n + 1 - (vs.length + 1), by omega, h₅, tk₄, _, vs ++ [v], ys ++ [y], rfl, ?_, hl₅, (hn₂.keeps hk₄).sameBut hs₅ (Ne.symm hDC), hJ₄, by simp [hyl], (by rw [List.length_append, List.length_singleton]; exact hlt), (by rw [List.length_append, List.length_singleton]),
        fun b o hbC hbf hbD e => hs₅.extBut b o hbD (hk₄ b o (up₂ b o hbC hbf (hk b o hbC hbf hbD e)))⟩
    have := W.frame _ _ h₅ hst₂ fun b hb o e => hs₅.extBut b o (fun h => hDf (h ▸ hb)) (hk₄ b o e)
    simpa using this
  · have hin : vs.length = n := by omega
    refine wpAny_with_toks (n := tk) (Nat.le_refl _) (W.done _ _ _ (hin ▸ hst') fun h₁ tk₁ hk₁ htk₁ => ?_)
    exact hR h₁ tk₁ m' vs ys (hn'.at' fun o e => hk₁ _ o hCw e) (hacc'.at fun o e => hk₁ _ o hDw e) hin (mono _ _ _ _ hJ' htk₁) fun b o hbC hbf hbD e => hk₁ b o hbf (hk b o hbC hbf hbD e)

/-- the comprehension's own part, its iterator made -/
def CompGo (prog : Program) (w : World) (A : Around) (env : Env) (E : Value → Shared → Prop) (Q : Value → Shared → Prop) (elt iter : Expr) (x : Str) (px : Pos) (scope : Scope) (pos : Pos) (cl : List (Str × Addr)) (it : Value) (s₂ : Shared) : Prop :=
  wpAny (model prog w) A (newList []) (fun acc s₃ => wpAny (model prog w) A (newFunctionEnv scope env.globals cl [] env.qual none .none (some env)) (fun cenv s₄ =>
    codeAny (model prog w) A (.compStart (.ListComp elt [⟨.Name x px, iter, [], 0⟩] scope pos) 0 it acc { cenv with scope := relabel scope env }) (compPost (model prog w) A E none Q acc cenv.locals) s₄) E s₃) E s₂
theorem comp_start {s : Shared} {elt iter : Expr} {x : Str} {px : Pos} {scope : Scope} {cl : List (Str × Addr)} {pos : Pos} {Q : Value → Shared → Prop}
    (hclos : closureFor scope env = pure cl) (hkind : scope.kind = .function) (hnames : ∀ y ∈ scope.names, y.2 = .local → scope.names.lookup y.1 = some .local)
    (h : wpAny (model prog w) A (eval iter env) (fun xv s₁ => wpAny (model prog w) A (pyIter xv) (fun it s₂ => CompGo prog w A env E Q elt iter x px scope pos cl it s₂) E s₁) E s)
    (hs : ∀ x, foldedSetIterable iter env x = pure x := by intro _; rfl) :
    wpAny (model prog w) A (eval (.ListComp elt [⟨.Name x px, iter, [], 0⟩] scope pos) env) Q E s := by
  rw [eval_ListComp]
  exact wpAny_comprehension_free (use := none) rfl hs hclos hkind hnames h

theorem comp_go {s₂ : Shared} {elt iter : Expr} {x : Str} {px : Pos} {scope : Scope} {cl : List (Str × Addr)} {pos : Pos} {Q : Value → Shared → Prop} {I : Addr} {fp wr : List Addr} {n : Nat} {P : Nat → Value → Prop} {St : Nat → Heap → Prop}
    {g : Heap} {L : Addr} {m : Str → Option Value} {news : List (Addr × Obj)}
    (W : Walks prog w A I fp wr n P St) (J : List Value → List Value → Nat → Prop) (mono : ∀ vs ys a b, J vs ys a → a ≤ b → J vs ys b) (hsz : n ≤ sizeLine)
    (hcell : ∀ y ∈ scope.names, y.2 ≠ .cell) (hkind : scope.kind = .function) (hx : scope.names.lookup x = some .local) (hst : St 0 s₂.heap) (hfp : ∀ b ∈ fp, b < s₂.heap.objs.size)
    (F : Fr g L s₂.heap m) (N : News g L s₂.heap news) (hLw : L ∉ wr) (hnw : ∀ p ∈ news, p.1 ∉ wr) (hgw : ∀ b ∈ wr, g.get? b = none) (hJ : J [] [] s₂.toks)
    (helt : ∀ vs ys v C h tk m₂ E', P vs.length v → J vs ys tk → s₂.heap.objs.size ≤ C → h.Ns C m₂ → m₂ x = some v → (∀ b o, b ∉ wr → s₂.heap.get? b = some o → h.get? b = some o) →
      wpAny (model prog w) A (eval elt (compEnvC scope cl C env)) (fun y s₃ => Keeps { s₂ with heap := h, toks := tk } s₃ ∧ J (vs ++ [v]) (ys ++ [y]) s₃.toks) E' { s₂ with heap := h, toks := tk })
    (hQ : ∀ D h' tk (vs ys : List Value) nn, vs.length = n → J vs ys tk → Fr g L h' m → News g L h' ((D, listOf ys.toArray nn) :: news) → (∀ p ∈ news, p.1 < D) → Q (.ref D) { s₂ with heap := h', toks := tk }) :
    CompGo prog w A env E Q elt iter x px scope pos cl (.ref I) s₂ := by
  unfold CompGo
  refine wpAny_newObj_type (wpAny_newFunctionEnv hcell (by intro y hy; simp at hy) (fun h₁ hns₁ hsb₁ => ?_) hkind)
  dsimp only at hns₁ hsb₁ ⊢
  generalize hH2 : s₂.heap.push { cls := .type "list", dict := none, data := .seq ([] : List Value).toArray } = H2 at hns₁ hsb₁ ⊢
  have hC : H2.objs.size = s₂.heap.objs.size + 1 := by rw [← hH2, Heap.size_push]
  have hDC : s₂.heap.objs.size ≠ H2.objs.size := by rw [hC]; exact Nat.ne_of_lt (Nat.lt_succ_self _)
  have hCle : s₂.heap.objs.size ≤ H2.objs.size := by rw [hC]; exact Nat.le_succ _
  have below : ∀ b, b < s₂.heap.objs.size → b ≠ H2.objs.size ∧ b ≠ s₂.heap.objs.size := fun b hb => ⟨by rw [hC]; exact Nat.ne_of_lt (Nat.lt_succ_of_lt hb), Nat.ne_of_lt hb⟩
  have hDf : s₂.heap.objs.size ∉ fp := fun hm => Nat.lt_irrefl _ (hfp _ hm)
  have hCf : H2.objs.size ∉ fp := fun hm => by have := hfp _ hm; rw [hC] at this; exact Nat.lt_irrefl _ (Nat.lt_of_succ_lt this)
  have old : ∀ b o, s₂.heap.get? b = some o → h₁.get? b = some o := fun b o e => hsb₁.extBut b o (below b (Heap.lt_size e)).1 (Heap.get?_push_of_some _ (hH2 ▸ Heap.get?_push_of_some _ e))
  have hacc : h₁.PlainList s₂.heap.objs.size #[] := ⟨_, hsb₁.extBut _ _ hDC (Heap.get?_push_of_some _ (hH2 ▸ Heap.get?_push_size _ rfl))⟩
  have hst₁ : St 0 h₁ := W.frame _ _ _ hst fun b _ o e => old b o e
  have fresh : ∀ a, s₂.heap.objs.size ≤ a → s₂.heap.get? a = none := fun a ha => Heap.get?_none_of_le ha
  have gfresh : ∀ a, s₂.heap.objs.size ≤ a → g.get? a = none := fun a ha => by
    cases e : g.get? a with
    | none => rfl
    | some o => have := F.keep _ _ e; rw [fresh a ha] at this; cases this
  have loop : codeAny (model prog w) A (.compLoop (.ListComp elt [⟨.Name x px, iter, [], 0⟩] scope pos) 0 (.ref I) (.ref s₂.heap.objs.size) (compEnvC scope cl H2.objs.size env))
        (compPost (model prog w) A E none Q (.ref s₂.heap.objs.size) H2.objs.size) { s₂ with heap := h₁, toks := s₂.toks + ([] : List (Str × Value)).length } := by
    refine compLoop_J (cenv := compEnvC scope cl H2.objs.size env) W J mono (lookup_relabel_local hx) (by simp [compEnvC, relabel, hkind]) hDC hDf hCf hst₁ hacc hns₁ hJ ?_ ?_ hsz
    · intro vs ys v h tk m₂ hP hJ' hn hm hk
      exact helt vs ys v _ h tk m₂ _ hP hJ' hCle hn hm (fun b o hbf e => hk b o (below b (Heap.lt_size e)).1 hbf (below b (Heap.lt_size e)).2 (old b o e))
    · intro h' tk m' vs ys hn hpl hlen hJ' hk
      refine ⟨m', hn, fun h'' hs'' => ?_⟩
      have hk2 : ∀ b o, b ∉ wr → s₂.heap.get? b = some o → h''.get? b = some o := fun b o hbf e => hs''.extBut b o (below b (Heap.lt_size e)).1 (hk b o (below b (Heap.lt_size e)).1 hbf (below b (Heap.lt_size e)).2 (old b o e))
      obtain ⟨nn, hpl'⟩ := hpl.extBut hs''.extBut hDC
      refine hQ s₂.heap.objs.size h'' tk vs ys nn hlen hJ' ⟨F.ns.at' fun o e => hk2 _ o hLw e, fun b o e => hk2 b o (fun q => by rw [hgw b q] at e; cases e) (F.keep b o e), F.above⟩ (fun p hp => ?_) (fun p hp => Heap.lt_size (N p hp).1)
      rcases List.mem_cons.mp hp with rfl | hp
      · exact ⟨hpl', Nat.ne_of_gt F.ns.lt, gfresh _ (Nat.le_refl _)⟩
      · exact ⟨hk2 _ _ (hnw p hp) (N p hp).1, (N p hp).2⟩
  exact codeAny_compStart_list loop (W.self 0 _ _ _ hst₁ loop)

/-- over a list that stands -/
theorem comp_list {s : Shared} {elt iter : Expr} {x : Str} {px : Pos} {scope : Scope} {cl : List (Str × Addr)} {pos : Pos} {Q : Value → Shared → Prop} {l : Addr} {items : List Value}
    {g : Heap} {L : Addr} {m : Str → Option Value} {news : List (Addr × Obj)}
    (J : List Value → List Value → Nat → Prop) (mono : ∀ vs ys a b, J vs ys a → a ≤ b → J vs ys b) (hh : A.handled = none) (hsz : items.length ≤ sizeLine)
    (hcell : ∀ y ∈ scope.names, y.2 ≠ .cell) (hkind : scope.kind = .function) (hx : scope.names.lookup x = some .local)
    (F : Fr g L s.heap m) (N : News g L s.heap news) (hl : s.heap.IsList l items.toArray) (hJ : J [] [] s.toks)
    (helt : ∀ vs ys v C h tk m₂ E', items[vs.length]? = some v → J vs ys tk → s.heap.objs.size < C → h.Ns C m₂ → m₂ x = some v → (∀ b o, s.heap.get? b = some o → h.get? b = some o) →
      wpAny (model prog w) A (eval elt (compEnvC scope cl C env)) (fun y s₃ => Keeps { s with heap := h, toks := tk } s₃ ∧ J (vs ++ [v]) (ys ++ [y]) s₃.toks) E' { s with heap := h, toks := tk })
    (hQ : ∀ D h' tk (vs ys : List Value) nn, vs.length = items.length → J vs ys tk → Fr g L h' m → News g L h' ((D, listOf ys.toArray nn) :: news) → (∀ p ∈ news, p.1 < D) → Q (.ref D) { s with heap := h', toks := tk }) :
    wpAny (model prog w) A (pyIter (.ref l)) (fun it s₂ => CompGo prog w A env E Q elt iter x px scope pos cl it s₂) E s := by
  refine wpAny_pyIter_list hl ?_
  obtain ⟨ol, hol, hol'⟩ := id hl
  have hls : l < s.heap.objs.size := Heap.lt_size hol
  have gI : g.get? s.heap.objs.size = none := news_none (news := news) F
  refine comp_go (Walks.list hh s.heap.objs.size l (Nat.ne_of_lt hls) items.toArray) J mono (by rw [List.size_toArray]; exact hsz) hcell hkind hx ⟨⟨_, Heap.get?_push_size _ rfl, rfl, rfl⟩, ⟨ol, Heap.get?_push_of_some _ hol, hol'⟩⟩ ?_
    (F.push _) (fun p hp => ⟨Heap.get?_push_of_some _ (N p hp).1, (N p hp).2⟩) ?_ ?_ ?_ hJ ?_ ?_
  · intro b hb
    show b < (s.heap.push _).objs.size
    rw [Heap.size_push]
    rcases List.mem_cons.mp hb with rfl | hb
    · exact Nat.lt_succ_self _
    · rcases List.mem_singleton.mp hb with rfl; exact Nat.lt_succ_of_lt hls
  · exact fun h => Nat.ne_of_lt F.ns.lt (List.mem_singleton.mp h)
  · exact fun p hp h => Nat.ne_of_lt (Heap.lt_size (N p hp).1) (List.mem_singleton.mp h)
  · exact fun b hb => by rcases List.mem_singleton.mp hb with rfl; exact gI
  · intro vs ys v C h tk m₂ E' hP hJ' hC hn hm hk
    refine helt vs ys v C h tk m₂ E' (by simpa using hP) hJ' ?_ hn hm (fun b o e => hk b o (fun q => Nat.ne_of_lt (Heap.lt_size e) (List.mem_singleton.mp q)) (Heap.get?_push_of_some _ e))
    have hC' : (s.heap.push _).objs.size ≤ C := hC
    rw [Heap.size_push] at hC'
    exact hC'
  · intro D h' tk vs ys nn hlen hJ' F' N' hD
    exact hQ D h' tk vs ys nn (by rw [hlen, List.size_toArray]) hJ' F' N' hD

/-- over range(a, b) -/
theorem comp_range {s : Shared} {elt iter : Expr} {x : Str} {px : Pos} {scope : Scope} {cl : List (Str × Addr)} {pos : Pos} {Q : Value → Shared → Prop} {r : Addr} {a b : Int} {n : Nat} {ta tb tc : Tok}
    {g : Heap} {L : Addr} {m : Str → Option Value} {news : List (Addr × Obj)}
    (J : List Value → List Value → Nat → Prop) (mono : ∀ vs ys a b, J vs ys a → a ≤ b → J vs ys b) (hh : A.handled = none) (hsz : n ≤ sizeLine)
    (hcell : ∀ y ∈ scope.names, y.2 ≠ .cell) (hkind : scope.kind = .function) (hx : scope.names.lookup x = some .local)
    (hr : IsRange s.heap r a b 1 ta tb tc) (ha : -(2 ^ 62) ≤ a) (ha' : a < 2 ^ 62) (hb : -(2 ^ 62) ≤ b) (hb' : b < 2 ^ 62) (hn : n = (b - a).toNat)
    (F : Fr g L s.heap m) (N : News g L s.heap news) (hJ : J [] [] s.toks)
    (helt : ∀ vs ys t C h tk m₂ E', vs.length < n → J vs ys tk → s.heap.objs.size < C → h.Ns C m₂ → m₂ x = some (.int (a + vs.length) t) → (∀ b o, s.heap.get? b = some o → h.get? b = some o) →
      wpAny (model prog w) A (eval elt (compEnvC scope cl C env)) (fun y s₃ => Keeps { s with heap := h, toks := tk } s₃ ∧ J (vs ++ [.int (a + vs.length) t]) (ys ++ [y]) s₃.toks) E' { s with heap := h, toks := tk })
    (hQ : ∀ D h' tk (vs ys : List Value) nn, vs.length = n → J vs ys tk → Fr g L h' m → News g L h' ((D, listOf ys.toArray nn) :: news) → (∀ p ∈ news, p.1 < D) → Q (.ref D) { s with heap := h', toks := tk }) :
    wpAny (model prog w) A (pyIter (.ref r)) (fun it s₂ => CompGo prog w A env E Q elt iter x px scope pos cl it s₂) E s := by
  subst hn
  refine wpAny_pyIter_range hr (small_one ha ha' hb hb') ?_
  have gI : g.get? s.heap.objs.size = none := news_none (news := news) F
  have hsz' : Builtin.Range.rangeSize a b 1 = ((b - a).toNat : Int) := by rw [rangeSize_one]; split <;> omega
  refine comp_go (Walks.range hh s.heap.objs.size a 1 (b - a).toNat).bound J mono hsz hcell hkind hx ?_ ?_
    (F.push _) (fun p hp => ⟨Heap.get?_push_of_some _ (N p hp).1, (N p hp).2⟩) ?_ ?_ ?_ hJ ?_ ?_
  · show IsRangeIter _ _ _ _ _
    rw [hsz']
    simpa using Heap.get?_push_size s.heap (o := { cls := .type "range_iterator", data := .fields #[rawInt a, rawInt ((b - a).toNat : Int), rawInt 1] }) rfl
  · intro b hb
    show b < (s.heap.push _).objs.size
    rw [Heap.size_push]
    rcases List.mem_singleton.mp hb with rfl; exact Nat.lt_succ_self _
  · exact fun h => Nat.ne_of_lt F.ns.lt (List.mem_singleton.mp h)
  · exact fun p hp h => Nat.ne_of_lt (Heap.lt_size (N p hp).1) (List.mem_singleton.mp h)
  · exact fun b hb => by rcases List.mem_singleton.mp hb with rfl; exact gI
  · intro vs ys v C h tk m₂ E' hP hJ' hC hn hm hk
    have hC' : (s.heap.push _).objs.size ≤ C := hC
    rw [Heap.size_push] at hC'
    obtain ⟨hlt, t, rfl⟩ := hP
    rw [Int.mul_one] at hm ⊢
    exact helt vs ys t C h tk m₂ E' hlt hJ' hC' hn hm (fun b o e => hk b o (fun q => Nat.ne_of_lt (Heap.lt_size e) (List.mem_singleton.mp q)) (Heap.get?_push_of_some _ e))
  · intro D h' tk vs ys nn hlen hJ' F' N' hD
    exact hQ D h' tk vs ys nn hlen hJ' F' N' hD
end
end Mine
end

section
open PySem PySem.W PyProof.Rows
open PySem.Calls PySem.Spec
namespace Mine
def atLeast (b : Int) (v : Value) : Bool := match v with | .int a _ => decide (b ≤ a) | _ => false
section
variable {prog : Program} {w : World} {A : Around} {E : Value → Shared → Prop} {env : Env}
set_option maxRecDepth 100000 in
set_option maxHeartbeats 4000000 in
theorem comp_ge {s : Shared} {iter : Expr} {x lv : Str} {pe px p1 p2 p3 : Pos} {scope : Scope} {cl : List (Str × Addr)} {pos : Pos} {Q : Value → Shared → Prop} {l c : Addr} {co : Obj} {b : Int} {tb : Tok} {ps : List (Int × Tok)}
    {g : Heap} {L : Addr} {m : Str → Option Value} {news : List (Addr × Obj)}
    (hclos : closureFor scope env = pure cl) (hcell : ∀ y ∈ scope.names, y.2 ≠ .cell) (hkind : scope.kind = .function)
    (hnames : ∀ y ∈ scope.names, y.2 = .local → scope.names.lookup y.1 = some .local) (hx : scope.names.lookup x = some .local)
    (hlv : ∀ C, (compEnvC scope cl C env).kindOf lv = some .cell) (hcl : cl.lookup lv = some c) (hxd : (x == ("__debug__" : Str)) = false) (hld : (lv == ("__debug__" : Str)) = false)
    (hh : A.handled = none) (hsz : ps.length ≤ 1000) (F : Fr g L s.heap m) (N : News g L s.heap news) (hco : s.heap.get? c = some co) (hcd : co.data = .cell (some (.int b tb)))
    (hl : s.heap.IsList l (tInts ps).toArray)
    (hiter : ∀ (Q' E' : Value → Shared → Prop), Q' (.ref l) s → wpAny (model prog w) A (eval iter env) Q' E' s)
    (hQ : ∀ D h' tk (ys : Array Value), ys.size = ((nums ps).filter fun a => decide (b ≤ a)).length → h'.IsList D ys → Fr g L h' m → News g L h' news → Q (.ref D) { s with heap := h', toks := tk })
    (hs : ∀ x, foldedSetIterable iter env x = pure x := by intro _; rfl) :
    wpAny (model prog w) A (eval (.ListComp (.Name x pe) [⟨.Name x px, iter, [.Compare (.Name x p1) [.GtE] [.Name lv p2] p3], 0⟩] scope pos) env) Q E s := by
  refine wpAny_ListComp_free (atLeast b) (fun v y => y = v) hclos hcell hkind hnames hx (hiter _ _ ?_) hs
  refine wpAny_pyIter_list hl ?_
  obtain ⟨ol, hol, hol'⟩ := id hl
  have hls : l < s.heap.objs.size := Heap.lt_size hol
  have gI : g.get? s.heap.objs.size = none := news_none (news := news) F
  refine ⟨s.heap.objs.size, _, _, _, _, _, rfl, Walks.list hh s.heap.objs.size l (Nat.ne_of_lt hls) (tInts ps).toArray, by rw [List.size_toArray, List.length_map, sizeLine_eq]; omega, ⟨⟨_, Heap.get?_push_size _ rfl, rfl, rfl⟩, ⟨ol, Heap.get?_push_of_some _ hol, hol'⟩⟩, ?_, ⟨?_, ?_⟩, ?_⟩
  · intro b hb
    show b < (s.heap.push _).objs.size
    rw [Heap.size_push]
    rcases List.mem_cons.mp hb with rfl | hb
    · exact Nat.lt_succ_self _
    · rcases List.mem_singleton.mp hb with rfl; exact Nat.lt_succ_of_lt hls
  · intro C i v s₃ m₃ E' hC hP hn hm hk htk
    obtain ⟨q, hq, rfl⟩ : ∃ q, ps[i]? = some q ∧ v = .int q.1 q.2 := by
      have hP' : (tInts ps)[i]? = some v := by simpa using hP
      rw [List.getElem?_map] at hP'
      obtain ⟨p, a, b⟩ := Option.map_eq_some_iff.mp hP'
      exact ⟨p, a, b.symm⟩
    have hc3 : s₃.heap.get? c = some co := hk _ _ (fun q => Nat.ne_of_lt (Heap.lt_size hco) (List.mem_singleton.mp q)) (Heap.get?_push_of_some _ hco)
    refine wpAny_tests_one ?_
    refine wpAny_isTrue_Compare1 ?_
    refine wpAny_Name (wpAny_loadName_local hkind (lookup_relabel_local hx) hn hm ?_) hxd
    refine wpAny_Name (wpAny_loadName_cell hkind (hlv C) hcl ⟨co, hc3, hcd⟩ ?_) hld
    repeat' ((fail_if_success (with_reducible show _ = _ ∧ Keeps _ _)); (first | walk1 | (dsimp only; walk1)))
    exact ⟨rfl, _, _, rfl, fun _ _ e => e⟩
  · intro C i v s₃ m₃ E' hC hP hpv hn hm hk htk
    exact wpAny_Name (wpAny_loadName_local hkind (lookup_relabel_local hx) hn hm ⟨rfl, _, _, rfl, fun _ _ e => e⟩) hxd
  · intro D h' tk ys vs hD hl' hpl hlen hP hF hk
    have hvs : vs = tInts ps := by
      apply List.ext_getElem?
      intro j
      by_cases hj : j < vs.length
      · have := hP j vs[j] (by simp [hj])
        rw [List.getElem?_eq_getElem hj, ← this]
        simp
      · rw [List.getElem?_eq_none (by omega), List.getElem?_eq_none (by rw [← List.size_toArray, ← hlen]; omega)]
    subst hvs
    have hk2 : ∀ b o, s.heap.get? b = some o → h'.get? b = some o := fun b o e => hk b o (fun q => Nat.ne_of_lt (Heap.lt_size e) (List.mem_singleton.mp q)) (Heap.get?_push_of_some _ e)
    refine hQ D h' tk ys ?_ hl' ⟨F.ns.keeps hk2, fun b o e => hk2 b o (F.keep b o e), F.above⟩ (fun p hp => ⟨hk2 _ _ (N p hp).1, (N p hp).2⟩)
    have e := hF.length
    have e2 : ys.toList.length = ys.size := by simp
    rw [← e2, ← e, List.filter_map, List.filter_map, List.length_map, List.length_map]
    rfl
end
end Mine
end

section
open PySem PySem.W PyProof.Rows
open PySem.Calls PySem.Spec
namespace Mine
section
variable {prog : Program} {w : World} {A : Around} {E : Value → Shared → Prop} {s : Shared}
theorem seq_list_iadd_id : isSeqSlotId "list.__iadd__" = true := by decide +kernel
theorem fillsI_list : fillsInplaceSlot (.type "list") "add" (Operator.Add == .Add) = pure false := by
  unfold fillsInplaceSlot
  show (typeLookup (.type "list") (dunderI "add") >>= fun fi => pure (fi.isSome && !isSeqSlot fi)) = pure false
  rw [PySem.F.slot_list_iadd.lookup]
  show (pure ((some (Value.builtin "list.__iadd__")).isSome && !isSeqSlot (some (Value.builtin "list.__iadd__"))) : Sem Bool) = pure false
  rw [show isSeqSlot (some (Value.builtin "list.__iadd__")) = true by decide +kernel]
  rfl
theorem seqI_list : seqSlot? (.type "list") (dunderI "add") = pure (some (.builtin "list.__iadd__")) := PySem.seqSlot_of PySem.F.slot_list_iadd.lookup (by decide +kernel)
/-- xs += ys, both lists -/
theorem iadd_lists {a b : Addr} {xs ys : List Value} {n n2 : Nat} {g : Heap} {L : Addr} {m : Str → Option Value} {pre post : List (Addr × Obj)} {Q : Value → Shared → Prop}
    (F : Fr g L s.heap m) (N : News g L s.heap (pre ++ (a, listOf xs.toArray n) :: post)) (h1 : ∀ p ∈ pre, p.1 ≠ a) (h2 : ∀ p ∈ post, p.1 ≠ a) (hb : s.heap.get? b = some (listOf ys.toArray n2))
    (hz : xs.length + ys.length ≤ 1000)
    (h : ∀ h' n', Fr g L h' m → News g L h' (pre ++ (a, listOf (xs ++ ys).toArray n') :: post) → Q (.ref a) { s with heap := h' }) : wpAny (model prog w) A (inplaceOp .Add (.ref a) (.ref b)) Q E s := by
  have q := N (a, listOf xs.toArray n) (by simp)
  have hla : s.heap.IsList a xs.toArray := ⟨_, q.1, rfl, _, rfl⟩
  have hlb : s.heap.IsList b ys.toArray := ⟨_, hb, rfl, _, rfl⟩
  have sz := sizeLine_eq
  unfold inplaceOp
  refine wpAny_holding ?_
  refine wpAny_bind (wpAny_typeOf hla.typeIs (wpAny_bind (wpAny_of_eq fillsI_list ?_)))
  show wpAny _ A (if false = true then _ else _) Q E s
  rw [if_neg Bool.false_ne_true]
  refine wpAny_bind (wpAny_binaryOp1_none (nm := "add") hla.typeIs hlb.typeIs noFill_list_add ?_)
  refine wpAny_bind (wpAny_of_eq seqI_list ?_)
  refine wpAny_bind (wpAny_rule ?_)
  refine call_meets PySem.F.slot_list_iadd hla.typeIs PySem.F.entry_list_iadd (PySem.F.args_list_iadd_2 _ _) (AutoSeq1.list___iadd___list_list_0 a xs.toArray n b ys.toArray n2 ?_ (by rw [List.size_toArray]; omega) (by rw [List.size_toArray, List.size_toArray]; omega)) ⟨q.1, hb, ?_⟩
  · rw [List.size_toArray, List.size_toArray]
    have : Builtin.List.listTooLong (xs.length + ys.length) = false := by
      unfold Builtin.List.listTooLong
      simp
      omega
    rw [this]; simp
  · obtain ⟨n', e⟩ : ∃ n', Obj.mapSeq (fun x => x ++ ys.toArray) (listOf xs.toArray n) = listOf (xs ++ ys).toArray n' := by
      rw [show (xs ++ ys).toArray = xs.toArray ++ ys.toArray by simp]
      exact ⟨_, rfl⟩
    obtain ⟨F', N'⟩ := news_upd (f := Obj.mapSeq fun x => x ++ ys.toArray) F N h1 h2 e rfl
    exact h _ _ F' N'
/-- a builtin's name, wherever in the text -/
theorem nameG_B {M : Model} {env : Env} {K : Frag} {p : Program} {loose : List Str} {mg mb : Str → Option Value} {g : Heap} {x : Str} {pos : Pos} {v : Value} {Q : Value → Shared → Prop}
    (k : g.StaysIn s.heap) (X : K.In g) {mean : ExcName → Option Value} (T : Top p loose mean mg mb g) (e : nsIn K mainGlobals x = some none) (hv : bootBuiltins x = some v) (hn : x ≠ "__name__") (h : Q v s)
    (hg : env.globals = mainGlobals) (hb : env.builtins = builtinsNs) (hk : env.scope.kind = .function) (hx : env.kindOf x = some .globalImplicit) (hd : (x == ("__debug__" : Str)) = false) :
    wpAny M A (eval (.Name x pos) env) Q E s :=
  Name_function_global hk hx (loadGlobal_builtin (env := env) (by rw [hg]; exact T.g.keeps k) (mg_none_of X T.g e) (by rw [hb]; exact T.b.keeps k) ((T.builtins x hn).trans hv) h) hd
end
theorem flagName_hex {i : Nat} (h : 10 ≤ i) : flagName i = PySem.baseText "0x" 16 ((2 ^ i : Nat) : Int) := by
  unfold flagName
  rw [List.getD_eq_getElem?_getD, List.getElem?_eq_none (show flagWords.length ≤ i from h)]
  rfl
/-- the items at these places -/
def pickP (sp : List (Int × Tok)) (idx : List Nat) : List (Int × Tok) := idx.filterMap fun k => sp[k]?
theorem pick_items (sp : List (Int × Tok)) (idx : List Nat) : (idx.filterMap ((tInts sp).toArray[·]?)) = tInts (pickP sp idx) := by
  unfold pickP
  induction idx with
  | nil => rfl
  | cons k r ih =>
    rw [List.filterMap_cons, List.filterMap_cons, ih]
    have e : (tInts sp).toArray[k]? = (sp[k]?).map fun p => Value.int p.1 p.2 := by simp
    rw [e]
    cases sp[k]? <;> rfl
theorem slice3_27 {sp : List (Int × Tok)} (h : sp.length = 27) (a : Int) : slicePick (tInts sp).toArray (some a) none (some 3) = (tInts (pickP sp (sliceRange (sliceBounds (some a) none (some 3) 27).1 (sliceBounds (some a) none (some 3) 27).2.1 (sliceBounds (some a) none (some 3) 27).2.2))).toArray := by
  unfold slicePick
  rw [show (tInts sp).toArray.size = 27 by simp [h], pick_items]
theorem slice_0 : sliceRange (sliceBounds (some 0) none (some 3) 27).1 (sliceBounds (some 0) none (some 3) 27).2.1 (sliceBounds (some 0) none (some 3) 27).2.2 = [0, 3, 6, 9, 12, 15, 18, 21, 24] := by decide
theorem slice_1 : sliceRange (sliceBounds (some 1) none (some 3) 27).1 (sliceBounds (some 1) none (some 3) 27).2.1 (sliceBounds (some 1) none (some 3) 27).2.2 = [1, 4, 7, 10, 13, 16, 19, 22, 25] := by decide
theorem slice_2 : sliceRange (sliceBounds (some 2) none (some 3) 27).1 (sliceBounds (some 2) none (some 3) 27).2.1 (sliceBounds (some 2) none (some 3) 27).2.2 = [2, 5, 8, 11, 14, 17, 20, 23, 26] := by decide
theorem pickP_app (sp : List (Int × Tok)) (a b : List Nat) : pickP sp a ++ pickP sp b = pickP sp (a ++ b) := by unfold pickP; rw [List.filterMap_append]
end Mine
end

section
open PySem PySem.W PyProof.Rows
open PySem.Calls PySem.Spec
set_option maxRecDepth 100000
namespace Mine
/-- ints whose tokens tell them apart, all below tk -/
structure TokOk (ps : List (Int × Tok)) (tk : Nat) : Prop where
  lt : ∀ p ∈ ps, 0 < p.2 ∧ p.2 < tk
  ne : ps.Pairwise fun a b => a.2 ≠ b.2
theorem TokOk.mono {ps : List (Int × Tok)} {a b : Nat} (h : TokOk ps a) (hab : a ≤ b) : TokOk ps b := ⟨fun p hp => ⟨(h.lt p hp).1, Nat.lt_of_lt_of_le (h.lt p hp).2 hab⟩, h.ne⟩
theorem TokOk.nil (tk : Nat) : TokOk [] tk := ⟨fun _ h => (nomatch h), List.Pairwise.nil⟩
theorem TokOk.snoc {ps : List (Int × Tok)} {a b : Nat} {p : Int × Tok} (h : TokOk ps a) (h0 : 0 < p.2) (h1 : a ≤ p.2) (h2 : p.2 < b) : TokOk (ps ++ [p]) b := by
  constructor
  · intro q hq
    rcases List.mem_append.mp hq with hq | hq
    · exact ⟨(h.lt q hq).1, Nat.lt_of_lt_of_le (h.lt q hq).2 (Nat.le_of_lt (Nat.lt_of_le_of_lt h1 h2))⟩
    · rcases List.mem_singleton.mp hq with rfl
      exact ⟨h0, h2⟩
  · refine List.pairwise_append.mpr ⟨h.ne, List.pairwise_singleton _ _, fun a ha b hb => ?_⟩
    rcases List.mem_singleton.mp hb with rfl
    exact Nat.ne_of_lt (Nat.lt_of_lt_of_le (h.lt a ha).2 h1)
/-- the first i ints from 0, with tokens -/
def UpTo (acc : Array Value) (i : Nat) (tk : Nat) : Prop := ∃ ps : List (Int × Tok), acc = (tInts ps).toArray ∧ nums ps = (List.range i).map (fun k : Nat => (k : Int)) ∧ TokOk ps tk
theorem UpTo.mono {acc : Array Value} {i a b : Nat} (h : UpTo acc i a) (hab : a ≤ b) : UpTo acc i b := let ⟨ps, x, y, z⟩ := h; ⟨ps, x, y, z.mono hab⟩
theorem UpTo.size {acc : Array Value} {i a : Nat} (h : UpTo acc i a) : acc.size = i := by
  obtain ⟨ps, rfl, y, _⟩ := h
  have := congrArg List.length y
  simpa using this
section
variable {prog : Program} {w : World} {A : Around} {R : Result → Shared → Prop}
theorem extend_loopT (hh : A.in1.handled = none) {n : Nat} (hn : n ≤ 1000) (S I : Addr) (hSI : S ≠ I) (res : Value) :
    ∀ (k i : Nat) (s : Shared) (acc : Array Value) (c : Nat), n - i = k → i ≤ n → 0 < s.toks → IsRangeIter s.heap I ((0 : Int) + (i : Nat) * 1) ((n : Int) - (i : Nat)) 1 → s.heap.get? S = some { cls := .type "list", dict := none, data := .seq acc c, slots := #[] } → UpTo acc i s.toks →
    (∀ h' tk acc' c', (∀ b o, b ≠ S → b ≠ I → s.heap.get? b = some o → h'.get? b = some o) → h'.get? S = some { cls := .type "list", dict := none, data := .seq acc' c', slots := #[] } → UpTo acc' n tk → s.toks ≤ tk → R (.ok (.ret res)) { s with heap := h', toks := tk }) →
    codeAny (model prog w) A (.builtin "list.extend.loop" ⟨[.ref S, .ref I, res], []⟩) R s := by
  intro k
  induction k with
  | zero =>
    intro i s acc c hk hi h0 hit hS hacc hR
    have hin : i = n := by omega
    subst hin
    refine codeAny_builtin PySem.F.entry_extend_loop ?_
    rw [Around.under_plainId PySem.F.plain_extend_loop _]
    show wpAny _ A.in1 (pyNext (.ref I) >>= _) _ _ s
    refine wpAny_bind (wpAny_pyNext_range_end hh hit (by omega) fun h₁ he₁ => ?_)
    exact wpAny_pure (hR h₁ s.toks acc c (fun b o _ hb e => he₁ b o hb e) (he₁ _ _ hSI hS) hacc (Nat.le_refl _))
  | succ k ih =>
    intro i s acc c hk hi h0 hit hS hacc hR
    have hlt : i < n := by omega
    refine codeAny_builtin PySem.F.entry_extend_loop ?_
    rw [Around.under_plainId PySem.F.plain_extend_loop _]
    show wpAny _ A.in1 (pyNext (.ref I) >>= _) _ _ s
    refine wpAny_bind (wpAny_pyNext_range_item hit (by omega) fun h₁ hit₁ hs₁ => ?_)
    have hS' := hs₁.extBut S _ hSI hS
    have e0 : (0 : Int) + (i : Nat) * 1 = (i : Int) := by omega
    have hsz := hacc.size
    have hz := sizeLine_eq
    rw [e0]
    show wpAny _ A.in1 (updateSeq S (·.push (Value.int (i : Int) s.toks)) >>= _) _ _ _
    refine wpAny_bind ?_
    refine wpAny_updateSeq hS' rfl (wpAny_pure ⟨plainId_quiet PySem.F.plain_extend_loop _, ih (i + 1) _ (acc.push (Value.int (i : Int) s.toks)) _ (by omega) hlt (Nat.succ_pos _) ?_ (Heap.get?_update_self _ hS' rfl) ?_ ?_⟩) (by omega) (by show (acc.push _).size ≤ sizeLine + 1; rw [Array.size_push]; omega)
    · have e1 : (0 : Int) + ((i + 1 : Nat) : Int) * 1 = (0 : Int) + (i : Nat) * 1 + 1 := by omega
      have e2 : ((n : Int) - ((i + 1 : Nat) : Int)) = (n : Int) - (i : Nat) - 1 := by omega
      show IsRangeIter _ _ _ _ _
      rw [e1, e2]
      exact (Heap.get?_update_other _ _ hSI).trans hit₁
    · obtain ⟨ps, rfl, y, z⟩ := hacc
      refine ⟨ps ++ [((i : Int), s.toks)], by simp, ?_, z.snoc h0 (Nat.le_refl _) (Nat.lt_succ_self _)⟩
      have y' : List.map (fun q : Int × Tok => q.1) ps = _ := y
      show List.map (fun q : Int × Tok => q.1) (ps ++ [((i : Int), s.toks)]) = _
      rw [List.map_append, y', List.range_succ, List.map_append]
      rfl
    · intro h' tk acc' c' hk' hS'' hacc' htk
      exact hR h' tk acc' c' (fun b o hb1 hb2 e => hk' b o hb1 hb2 ((Heap.get?_update_other _ _ (Ne.symm hb1)).trans (hs₁.extBut b o hb2 e))) hS'' hacc' (Nat.le_of_succ_le htk)
theorem extend_rangeT {s : Shared} {r : Addr} {t u v : Tok} {n : Nat} (hh : A.handled = none) (hr : IsRange s.heap r 0 n 1 t u v) (hn : n ≤ 1000) (h0 : 0 < s.toks) (S : Addr) (res : Value) (c₀ : Nat) (hS : s.heap.get? S = some { cls := .type "list", data := .seq #[] c₀ })
    (hR : ∀ h' tk acc' c', (∀ b o, b ≠ S → s.heap.get? b = some o → h'.get? b = some o) → h'.get? S = some { cls := .type "list", dict := none, data := .seq acc' c', slots := #[] } →
      UpTo acc' n tk → s.toks ≤ tk → R (.ok (.ret res)) { s with heap := h', toks := tk }) :
    wpAny (model prog w) A.in1 (Builtin.List.listExtendWith (.ref S) (.ref r) res)
      (fun fin s' => match fin with | .done f => R (.ok f) s' | .again c' => c'.quiet = true ∧ codeAny (model prog w) A c' R s') (fun e s' => R (.error e) s') s := by
  have hSr : S ≠ r := fun e => by rw [e, hr] at hS; simp at hS
  have hSI : S ≠ s.heap.objs.size := Nat.ne_of_lt (Heap.lt_size hS)
  have hsize : Builtin.Range.rangeSize 0 (n : Int) 1 = n := by rw [rangeSize_one]; split <;> omega
  have hz := sizeLine_eq
  have key : ∀ (h : Heap) (c₁ tk : Nat), s.toks ≤ tk → IsRangeIter h s.heap.objs.size ((0 : Int) + ((0 : Nat) : Int) * 1) ((n : Int) - ((0 : Nat) : Int)) 1 → (∀ b o, b ≠ S → s.heap.get? b = some o → h.get? b = some o) →
      h.get? S = some { cls := .type "list", data := .seq #[] c₁ } → codeAny (model prog w) A (.builtin "list.extend.loop" ⟨[.ref S, .ref s.heap.objs.size, res], []⟩) R { s with heap := h, toks := tk } := by
    intro h c₁ tk htk hit hk hS₁
    refine extend_loopT hh hn S s.heap.objs.size hSI res n 0 _ #[] c₁ rfl (Nat.zero_le _) (Nat.lt_of_lt_of_le h0 htk) hit hS₁ ⟨[], rfl, rfl, TokOk.nil _⟩ fun h' tk' acc' c' hk' hS' hacc htk' => ?_
    exact hR h' tk' acc' c' (fun b o hb e => hk' b o hb (Nat.ne_of_lt (Heap.lt_size e)) (hk b o hb e)) hS' hacc (Nat.le_trans htk htk')
  unfold Builtin.List.listExtendWith
  refine wpAny_bind (wpAny_typeOf (T := "range") ⟨_, hr, rfl⟩ ?_)
  have h1 : Builtin.List.listSameRef (.ref S) (.ref r) = false := by simp [Builtin.List.listSameRef, hSr]
  have h2 : (Value.type "range" == Value.type "list") = false := by decide
  have h3 : (Value.type "range" == Value.type "tuple") = false := by decide
  simp only [h1, h2, h3, Bool.or_false, Bool.false_eq_true, if_false]
  refine wpAny_bind (wpAny_pyIter_range hr (small_one (by decide) (by decide) (by omega) (by omega)) ?_)
  refine wpAny_bind (wpAny_holding (wpAny_hint_range (n := n) (Heap.get?_push_of_some _ hr) hsize (by omega) ?_))
  have hit₁ : IsRangeIter (s.heap.push { cls := .type "range_iterator", data := .fields #[rawInt 0, rawInt (Builtin.Range.rangeSize 0 (n : Int) 1), rawInt 1] }) s.heap.objs.size ((0 : Int) + ((0 : Nat) : Int) * 1) ((n : Int) - ((0 : Nat) : Int)) 1 := by
    show IsRangeIter _ _ _ _ _; rw [hsize]; simpa using Heap.get?_push_size _ rfl
  have hS₁ := Heap.get?_push_of_some { cls := .type "range_iterator", data := .fields #[rawInt 0, rawInt (Builtin.Range.rangeSize 0 (n : Int) 1), rawInt 1] } hS
  refine wpAny_ite_split (fun _ => ?_) (fun _ => wpAny_pure ⟨plainId_quiet PySem.F.plain_extend_loop _, key _ c₀ _ (by show s.toks ≤ s.toks + 1 + 1; omega) hit₁ (fun b o _ e => Heap.get?_push_of_some _ e) hS₁⟩)
  refine wpAny_bind (wpAny_rule ?_)
  refine wpAny_bind ?_
  show wpAny _ _ (updateSeq S (·.push .none) >>= fun _ => updateSeq S (·.pop)) _ _ _
  refine wpAny_bind (wpAny_updateSeq hS₁ rfl ?_)
  have hS₂ := Heap.get?_update_self (Obj.mapSeq (·.push Value.none)) hS₁ rfl
  refine wpAny_updateSeq (hz := by seq_fits) hS₂ rfl ?_
  have hS₃ := Heap.get?_update_self (Obj.mapSeq (·.pop)) hS₂ rfl
  refine wpAny_pure ⟨plainId_quiet PySem.F.plain_extend_loop _, key _ _ _ (by show s.toks ≤ s.toks + 1 + 1; omega) ?_ (fun b o hb e => ?_) hS₃⟩
  · exact (Heap.get?_update_other _ _ hSI).trans ((Heap.get?_update_other _ _ hSI).trans hit₁)
  · exact (Heap.get?_update_other _ _ (Ne.symm hb)).trans ((Heap.get?_update_other _ _ (Ne.symm hb)).trans (Heap.get?_push_of_some _ e))
theorem list_init_rangeT {s : Shared} {r : Addr} {t u v : Tok} {n : Nat} (hh : A.handled = none) (hr : IsRange s.heap r 0 n 1 t u v) (hn : n ≤ 1000) (h0 : 0 < s.toks) (S : Addr) (hS : s.heap.get? S = some { cls := .type "list", data := .seq #[] })
    (hR : ∀ h' tk acc' c', (∀ b o, b ≠ S → s.heap.get? b = some o → h'.get? b = some o) → h'.get? S = some { cls := .type "list", dict := none, data := .seq acc' c', slots := #[] } →
      UpTo acc' n tk → s.toks ≤ tk → R (.ok (.ret .none)) { s with heap := h', toks := tk }) :
    wpAny (model prog w) A.in1 (Builtin.«list.__init__» ⟨[.ref S, .ref r], []⟩)
      (fun fin s' => match fin with | .done f => R (.ok f) s' | .again c' => c'.quiet = true ∧ codeAny (model prog w) A c' R s') (fun e s' => R (.error e) s') s := by
  have hSr : S ≠ r := fun e => by rw [e, hr] at hS; simp at hS
  show wpAny _ _ (do let old ← Builtin.List.listItems (.ref S); Builtin.List.listUpdate (.ref S) (fun _ => #[]); letGo old.toList.reverse; Builtin.List.listExtendWith (.ref S) (.ref r) .none) _ _ s
  refine wpAny_bind ?_
  unfold Builtin.List.listItems
  refine wpAny_bind (wpAny_seqItems hS rfl (wpAny_pure ?_))
  show wpAny _ _ (updateSeq S (fun _ => #[]) >>= fun _ => letGo (#[] : Array Value).toList.reverse >>= fun _ => Builtin.List.listExtendWith (.ref S) (.ref r) .none) _ _ s
  refine wpAny_bind (wpAny_updateSeq hS rfl ?_)
  have hS₂ := Heap.get?_update_self (Obj.mapSeq (fun _ => (#[] : Array Value))) hS rfl
  have oth : ∀ b o, b ≠ S → s.heap.get? b = some o → (s.heap.update S (Obj.mapSeq (fun _ => (#[] : Array Value)))).get? b = some o :=
    fun b o hb e => (Heap.get?_update_other _ _ (Ne.symm hb)).trans e
  refine wpAny_bind (wpAny_letGo ?_)
  refine extend_rangeT (s := { s with heap := s.heap.update S (Obj.mapSeq (fun _ => (#[] : Array Value))) }) hh (oth r _ (Ne.symm hSr) hr) hn h0 S .none _ hS₂ fun h' tk acc' c' hk hS' hacc htk => ?_
  exact hR h' tk acc' c' (fun b o hb e => hk b o hb (oth b o hb e)) hS' hacc htk
/-- list(range(n)): the ints' tokens tell them apart -/
theorem call_list_rangeT {E : Value → Shared → Prop} {s : Shared} {Q : Value → Shared → Prop} {r : Addr} {t u v : Tok} {n : Nat} {g : Heap} {L : Addr} {m : Str → Option Value} {news : List (Addr × Obj)} (hh : A.handled = none) (hr : IsRange s.heap r 0 n 1 t u v) (hn : n ≤ 1000) (h0 : 0 < s.toks)
    (F : Fr g L s.heap m) (N : News g L s.heap news)
    (hQ : ∀ D h' tk ps c', nums ps = (List.range n).map (fun k : Nat => (k : Int)) → TokOk ps tk → s.toks ≤ tk → Fr g L h' m → News g L h' ((D, listOf (tInts ps).toArray c') :: news) → (∀ p ∈ news, p.1 < D) → Q (.ref D) { s with heap := h', toks := tk }) :
    wpAny (model prog w) A (call (.type "list") [.ref r]) Q E s := by
  refine callType_codes (Q₁ := fun obj s₁ => obj = .ref s.heap.objs.size ∧ s₁ = { s with heap := s.heap.push { cls := .type "list", data := .seq #[] } }) PySem.F.called_list (PySem.F.typeCall_list_1 _) PySem.F.entry_list_init
    (code_list_new _ ⟨rfl, rfl⟩) fun obj s₁ h₁ => ?_
  obtain ⟨rfl, rfl⟩ := h₁
  have hS : (s.heap.push { cls := .type "list", data := .seq #[] }).get? s.heap.objs.size = some { cls := .type "list", data := .seq #[] } := Heap.get?_push_size _ rfl
  refine ⟨⟨_, hS, rfl⟩, PySem.F.args_list_init_2 _ _, list_init_rangeT (A := A.in1) (s := { s with heap := s.heap.push { cls := .type "list", data := .seq #[] } }) hh (Heap.get?_push_of_some _ hr) hn h0 _ hS fun h' tk acc' c' hk hS' hacc htk => ?_⟩
  obtain ⟨ps, rfl, y, z⟩ := hacc
  have hk2 : ∀ b o, s.heap.get? b = some o → h'.get? b = some o := fun b o e => hk b o (Nat.ne_of_lt (Heap.lt_size e)) (Heap.get?_push_of_some _ e)
  refine ⟨rfl, hQ s.heap.objs.size h' tk ps c' y z htk ⟨F.ns.keeps hk2, fun b o e => hk2 b o (F.keep b o e), F.above⟩ (fun p hp => ?_) fun p hp => Heap.lt_size (N p hp).1⟩
  rcases List.mem_cons.mp hp with rfl | hp
  · exact ⟨hS', Nat.ne_of_gt F.ns.lt, news_none (news := news) F⟩
  · exact ⟨hk2 _ _ (N p hp).1, (N p hp).2⟩
end
end Mine
end

section
open PySem PySem.W PyProof.Rows
open PySem.Calls PySem.Spec
namespace Mine
theorem rec_ref {o : Obj} (h : IsRec o) : (∀ xs n, o.data ≠ .seq xs n) ∧ (∀ es ep, o.data ≠ .dict es ep) ∧ (∀ v, o.data ≠ .cell v) := by
  obtain ⟨vs, t, hd, _⟩ := h
  rw [hd]
  exact ⟨fun _ _ h => (nomatch h), fun _ _ h => (nomatch h), fun _ h => (nomatch h)⟩
theorem pick_aux {g h : Heap} (st : g.StaysIn h) : ∀ l : List Value, ∃ extra : List (Addr × Obj), (∀ c o, Value.ref c ∈ l → IsRec o → h.get? c = some o → g.get? c = some o ∨ (c, o) ∈ extra) ∧ ∀ p ∈ extra, IsRec p.2 ∧ h.get? p.1 = some p.2 ∧ g.get? p.1 = none
  | [] => ⟨[], fun _ _ h => (nomatch h), fun _ h => (nomatch h)⟩
  | v :: r => by
    obtain ⟨extra, h1, h2⟩ := pick_aux st r
    by_cases hv : ∃ c o, v = .ref c ∧ IsRec o ∧ h.get? c = some o ∧ g.get? c = none
    · obtain ⟨c, o, rfl, hr, ho, hn⟩ := hv
      refine ⟨(c, o) :: extra, fun c' o' hm hr' ho' => ?_, fun p hp => ?_⟩
      · rcases List.mem_cons.mp hm with he | hm
        · cases he
          rw [ho] at ho'
          cases ho'
          exact .inr (.head _)
        · exact (h1 c' o' hm hr' ho').imp id fun q => .tail _ q
      · rcases List.mem_cons.mp hp with rfl | hp
        · exact ⟨hr, ho, hn⟩
        · exact h2 p hp
    · refine ⟨extra, fun c' o' hm hr' ho' => ?_, h2⟩
      rcases List.mem_cons.mp hm with he | hm
      · cases hg : g.get? c' with
        | none => exact absurd ⟨c', o', he.symm, hr', ho', hg⟩ hv
        | some o => 
          have := st _ _ hg
          rw [this] at ho'
          cases ho'
          exact .inl rfl
      · exact h1 c' o' hm hr' ho'
theorem among_mem (pos : Pos) (v : Value) : ∀ (l : List Value), TriplesOk l → codeAmong pos l = some v → v ∈ l
  | [], _, e => by unfold codeAmong at e; cases e
  | [.int _ _], h, _ => h.elim
  | .int x _ :: .int y _ :: d :: rest, h, e => by
    unfold codeAmong at e
    split at e
    · cases e; exact .tail _ (.tail _ (.head _))
    · exact .tail _ (.tail _ (.tail _ (among_mem pos v rest h e)))
theorem tab_pick {g h : Heap} {tab : Array Value} (T : TabIn h tab []) (st : g.StaysIn h) : ∃ extra, TabIn g tab extra ∧ ∀ p ∈ extra, IsRec p.2 ∧ h.get? p.1 = some p.2 ∧ g.get? p.1 = none := by
  obtain ⟨extra, h1, h2⟩ := pick_aux st tab.toList
  refine ⟨extra, ⟨T.ok, fun pos v hv => ?_⟩, h2⟩
  obtain ⟨c, o, rfl, hr, ho⟩ := T.codes pos v hv
  rcases ho with ho | ho
  · exact ⟨c, o, rfl, hr, h1 c o (among_mem pos _ _ T.ok hv) hr ho⟩
  · cases ho
theorem tab_back {g h : Heap} {tab : Array Value} {extra : List (Addr × Obj)} (T : TabIn g tab extra) (st : g.StaysIn h) (hx : ∀ p ∈ extra, h.get? p.1 = some p.2) : TabIn h tab [] :=
  ⟨T.ok, fun pos v hv => by
    obtain ⟨c, o, q1, q2, q3⟩ := T.codes pos v hv
    refine ⟨c, o, q1, q2, .inl ?_⟩
    rcases q3 with q3 | q3
    · exact st _ _ q3
    · exact hx _ q3⟩
theorem tab_stays {h h' : Heap} {tab : Array Value} (T : TabIn h tab []) (st : h.StaysIn h') : TabIn h' tab [] := tab_back T st fun _ h => nomatch h
/-- how turn i lays a column -/
def layT (i : Nat) (ns : List Int) (ps : List (Int × Tok)) : List (Int × Tok) := match i with
  | 0 => layR (fun p => ns.getD p.toNat 0) ps
  | 1 => layL (fun p => ns.getD p.toNat 0) ps
  | 2 => layR id ps
  | _ => layL id ps
theorem layT_perm (i : Nat) (ns : List Int) (ps : List (Int × Tok)) : (layT i ns ps).Perm ps := by
  unfold layT
  split
  · exact layR_perm _ _
  · exact layL_perm _ _
  · exact layR_perm _ _
  · exact layL_perm _ _
theorem lay_call {w : World} {loose : List Str} {mean : ExcName → Option Value} {mg mb : Str → Option Value} {A : Around} {s : Shared} {Q E : Value → Shared → Prop} {pA rowA : Addr} {ps : List (Int × Tok)} {ns : List Int} {rvs : List Value} {i : Nat} {tt : Tok} {tab : Array Value} {g₀ : Heap} (hi4 : i < 4)
    (X : (hd.heap_39 w.params).In g₀) (T : Top topProg loose mean mg mb g₀) (C : CodeHd g₀ 120 116) (kg : g₀.StaysIn s.heap) (h116 : g₀.get? 116 = none) (R : Room A 4 90)
    (htab : s.heap.get? 116 = some (tabObj tab)) (hT : TabIn s.heap tab []) (hrl : ns.length < 2 ^ 20)
    (hp : s.heap.IsList pA (tInts ps).toArray) (hp6 : pA ≠ 116) (hr : s.heap.IsList rowA rvs.toArray) (hr6 : rowA ≠ 116) (hi : IntsAre rvs ns) (hdom : i < 2 → ∀ p ∈ ps, 0 ≤ p.1 ∧ p.1 < ns.length) (hpl : ps.length ≤ 32)
    (hQ : ∀ (h' : Heap) (tk : Nat) (lA : Addr) (n : Nat) (tab' : Array Value), Kept [116] s.heap h' → s.heap.get? lA = none → h'.get? lA = some (listOf (tInts (layT i ns ps)).toArray n) →
      h'.get? 116 = some (tabObj tab') → TabIn h' tab' [] → Q (.ref lA) { s with heap := h', toks := tk }) :
    wpAny (model pw w) A (call (.ref 121) [.ref pA, .ref rowA, .int (i : Int) tt] []) Q E s := by
  have fin : ∀ (h' : Heap) (lA : Addr) (tab' : Array Value) (extra' : List (Addr × Obj)), Kept [116] s.heap h' → h'.get? 116 = some (tabObj tab') → (∀ p ∈ extra', s.heap.get? p.1 = none ∧ p.1 ≠ lA ∧ h'.get? p.1 = some p.2) → TabIn s.heap tab' extra' → TabIn h' tab' [] := by
    intro h' lA tab' extra' k e6 hx hT'
    refine ⟨hT'.ok, fun pos v hv => ?_⟩
    obtain ⟨c, o, q1, q2, q3⟩ := hT'.codes pos v hv
    refine ⟨c, o, q1, q2, .inl ?_⟩
    rcases q3 with q3 | q3
    · refine k c o (fun m => ?_) q3
      rw [List.mem_singleton.mp m, htab] at q3
      cases q3
      exact tab_norec hT.ok q2
    · exact (hx _ q3).2.2
  match i, hi4, hdom, hQ with
  | 0, _, hdom, hQ => exact lay0_call X T C kg h116 R htab hT hrl hp hp6 hr hr6 hi (hdom (by omega)) hpl fun h' tk lA n tab' extra' k hl e1 e6 hx hT' => hQ h' tk lA n tab' k hl e1 e6 (fin h' lA tab' extra' k e6 hx hT')
  | 1, _, hdom, hQ => exact lay1_call X T C kg h116 R htab hT hrl hp hp6 hr hr6 hi (hdom (by omega)) hpl fun h' tk lA n tab' extra' k hl e1 e6 hx hT' => hQ h' tk lA n tab' k hl e1 e6 (fin h' lA tab' extra' k e6 hx hT')
  | 2, _, _, hQ => exact lay2_call (X.keeps kg) (T.keeps kg) R hp hpl fun h' tk lA n k hl e1 => hQ h' tk lA n tab (Kept.of_stays k) hl e1 (k _ _ htab) (tab_stays hT k)
  | 3, _, _, hQ => exact lay3_call (X.keeps kg) (T.keeps kg) R hp hpl fun h' tk lA n k hl e1 => hQ h' tk lA n tab (Kept.of_stays k) hl e1 (k _ _ htab) (tab_stays hT k)
end Mine
end

section
open PySem PySem.W PyProof.Rows
open PySem.Calls PySem.Spec
namespace Mine
theorem mem_take_while {α : Type} {P : α → Bool} {l : List α} {a : α} (h : a ∈ l.takeWhile P) : a ∈ l ∧ P a = true :=
  ⟨(List.takeWhile_sublist P).subset h, List.all_eq_true.mp (List.all_takeWhile (l := l) (p := P)) a h⟩
/-- in a row that is in order, what stands after the first that P rules out is above -/
theorem mem_drop_while {f : Int → Int} {c : Int} {acc : List (Int × Tok)} {P : Int × Tok → Bool} (hs : Sorted f acc) (hP : ∀ q, P q = false → c ≤ f q.1) {b : Int × Tok} (hb : b ∈ acc.dropWhile P) : c ≤ f b.1 := by
  have h' := hs
  unfold Sorted at h'
  rw [← while_app P acc] at h'
  obtain ⟨_, h2, _⟩ := List.pairwise_append.mp h'
  cases hd : acc.dropWhile P with
  | nil => rw [hd] at hb; cases hb
  | cons x t =>
    have hc := hP _ (drop_head _ _ hd)
    rw [hd] at hb h2
    rcases List.mem_cons.mp hb with rfl | hb
    · exact hc
    · exact Int.le_trans hc ((List.pairwise_cons.mp h2).1 b hb)
def StabR (f : Int → Int) (r : Int × Tok → Nat) (l : List (Int × Tok)) : Prop := l.Pairwise fun a b => f a.1 = f b.1 → r a < r b
def StabL (f : Int → Int) (r : Int × Tok → Nat) (l : List (Int × Tok)) : Prop := l.Pairwise fun a b => f a.1 = f b.1 → r b < r a
theorem insR_stab {f : Int → Int} {r : Int × Tok → Nat} {p : Int × Tok} {acc : List (Int × Tok)} (hs : Sorted f acc) (h : StabR f r acc) (hp : ∀ q ∈ acc, r q < r p) : StabR f r (insR f p acc) := by
  unfold insR StabR at *
  rw [← while_app (fun q : Int × Tok => decide (f q.1 ≤ f p.1)) acc] at h
  obtain ⟨h1, h2, h3⟩ := List.pairwise_append.mp h
  refine List.pairwise_append.mpr ⟨h1, List.pairwise_cons.mpr ⟨fun b hb => ?_, h2⟩, fun a ha b hb => ?_⟩
  · intro e
    have := mem_drop_while (c := f p.1 + 1) hs (fun q hq => by have := of_decide_eq_false hq; omega) hb
    omega
  · rcases List.mem_cons.mp hb with rfl | hb
    · exact fun _ => hp a (mem_take_while ha).1
    · exact h3 a ha b hb
theorem insL_stab {f : Int → Int} {r : Int × Tok → Nat} {p : Int × Tok} {acc : List (Int × Tok)} (h : StabL f r acc) (hp : ∀ q ∈ acc, r q < r p) : StabL f r (insL f p acc) := by
  unfold insL StabL at *
  rw [← while_app (fun q : Int × Tok => decide (f q.1 < f p.1)) acc] at h
  obtain ⟨h1, h2, h3⟩ := List.pairwise_append.mp h
  refine List.pairwise_append.mpr ⟨h1, List.pairwise_cons.mpr ⟨fun b hb => ?_, h2⟩, fun a ha b hb => ?_⟩
  · exact fun _ => hp b ((List.dropWhile_sublist _).subset hb)
  · rcases List.mem_cons.mp hb with rfl | hb
    · intro e
      have := of_decide_eq_true (mem_take_while ha).2
      omega
    · exact h3 a ha b hb
theorem layR_stab_aux {f : Int → Int} {r : Int × Tok → Nat} : ∀ (ps acc : List (Int × Tok)), (acc ++ ps).Pairwise (fun a b => r a < r b) ∨ True → ps.Pairwise (fun a b => r a < r b) → (∀ a ∈ acc, ∀ p ∈ ps, r a < r p) → Sorted f acc → StabR f r acc → StabR f r (ps.foldl (fun acc p => insR f p acc) acc)
  | [], _, _, _, _, _, h => h
  | p :: t, acc, _, hp, ha, hs, h => by
    rw [List.foldl_cons]
    obtain ⟨hp1, hp2⟩ := List.pairwise_cons.mp hp
    refine layR_stab_aux t _ (.inr trivial) hp2 (fun a hm q hq => ?_) (insR_sorted hs) (insR_stab hs h fun q hq => ha q hq p (.head _))
    rcases List.mem_cons.mp ((insR_perm f p acc).mem_iff.mp hm) with rfl | hm
    · exact hp1 q hq
    · exact ha a hm q (.tail _ hq)
theorem layL_stab_aux {f : Int → Int} {r : Int × Tok → Nat} : ∀ (ps acc : List (Int × Tok)), ps.Pairwise (fun a b => r a < r b) → (∀ a ∈ acc, ∀ p ∈ ps, r a < r p) → StabL f r acc → StabL f r (ps.foldl (fun acc p => insL f p acc) acc)
  | [], _, _, _, h => h
  | p :: t, acc, hp, ha, h => by
    rw [List.foldl_cons]
    obtain ⟨hp1, hp2⟩ := List.pairwise_cons.mp hp
    refine layL_stab_aux t _ hp2 (fun a hm q hq => ?_) (insL_stab h fun q hq => ha q hq p (.head _))
    rcases List.mem_cons.mp ((insL_perm f p acc).mem_iff.mp hm) with rfl | hm
    · exact hp1 q hq
    · exact ha a hm q (.tail _ hq)
theorem rank_pw {ps : List (Int × Tok)} (hn : (nums ps).Nodup) : ps.Pairwise fun a b => (nums ps).idxOf a.1 < (nums ps).idxOf b.1 := by
  refine List.pairwise_iff_getElem.mpr fun i j hi hj hij => ?_
  have e : ∀ k (h : k < ps.length), (nums ps).idxOf ps[k].1 = k := fun k h => by
    have h' : k < (nums ps).length := by rw [List.length_map]; exact h
    have := hn.idxOf_getElem k h'
    rwa [List.getElem_map] at this
  rw [e i hi, e j hj]
  exact hij
theorem layR_stab {f : Int → Int} {ps : List (Int × Tok)} (hn : (nums ps).Nodup) : StabR f (fun a => (nums ps).idxOf a.1) (layR f ps) :=
  layR_stab_aux ps [] (.inr trivial) (rank_pw hn) (fun _ h => nomatch h) List.Pairwise.nil List.Pairwise.nil
theorem layL_stab {f : Int → Int} {ps : List (Int × Tok)} (hn : (nums ps).Nodup) : StabL f (fun a => (nums ps).idxOf a.1) (layL f ps) :=
  layL_stab_aux ps [] (rank_pw hn) (fun _ h => nomatch h) List.Pairwise.nil
theorem stand_call {w : World} {loose : List Str} {mean : ExcName → Option Value} {mg mb : Str → Option Value} {A : Around} {s : Shared} {Q E : Value → Shared → Prop} {pA lA rA : Addr} {ps : List (Int × Tok)} {ns : List Int} {rvs : List Value} {i : Nat} {tt : Tok} (hi2 : i < 2)
    (X : (hd.heap_39 w.params).In s.heap) (T : Top topProg loose mean mg mb s.heap) (R : Room A 2 60)
    (hp : s.heap.IsList pA (tInts ps).toArray) (hl : s.heap.IsList lA (tInts (layT i ns ps)).toArray) (hr : s.heap.IsList rA rvs.toArray) (hi : IntsAre rvs ns)
    (hpl : ps.length ≤ 32) (hnl : ns.length < 2 ^ 20) (htk : ∀ p ∈ ps, p.2 ≠ 0 ∧ ∀ q ∈ ps, p.2 = q.2 → p.1 = q.1) (hdom : ∀ q ∈ ps, 0 ≤ q.1 ∧ q.1 < ns.length) (hn : (nums ps).Nodup)
    (hQ : ∀ (h' : Heap) (tk : Nat), s.heap.StaysIn h' → Q (.bool true) { s with heap := h', toks := tk }) :
    wpAny (model pw w) A (call (.ref 128) [.ref pA, .ref lA, .ref rA, .int (i : Int) tt] []) Q E s := by
  have hm := layT_perm i ns ps
  have hll : (layT i ns ps).length ≤ 32 := by rw [hm.length_eq]; exact hpl
  have at' : ∀ k, k < (layT i ns ps).length → ∀ (h : k < (layT i ns ps).length), (nums (layT i ns ps)).getD k 0 = (layT i ns ps)[k].1 := fun k _ h => nums_getD _ k h
  have h01 : i = 0 ∨ i = 1 := by omega
  rcases h01 with rfl | rfl
  · have hst : ∀ k, 0 < k → k < (layT 0 ns ps).length → ns.getD ((nums (layT 0 ns ps)).getD (k - 1) 0).toNat 0 = ns.getD ((nums (layT 0 ns ps)).getD k 0).toNat 0 → decide ((nums ps).idxOf ((nums (layT 0 ns ps)).getD (k - 1) 0) < (nums ps).idxOf ((nums (layT 0 ns ps)).getD k 0)) = true := fun k h0 hk e => by
      have hk1 : k - 1 < (layT 0 ns ps).length := by omega
      have := List.pairwise_iff_getElem.mp (layR_stab (f := fun p => ns.getD p.toNat 0) hn) (k - 1) k hk1 hk (by omega)
      rw [at' (k - 1) hk1 hk1, at' k hk hk] at e ⊢
      exact decide_eq_true (this e)
    have hs1 : ∀ q ∈ layT 0 ns ps, q ∈ ps := fun q hq => hm.mem_iff.mp hq
    have hs2 : ∀ q ∈ layT 0 ns ps, 0 ≤ q.1 ∧ q.1 < ns.length := fun q hq => hdom q (hs1 q hq)
    generalize layT 0 ns ps = qs at *
    exact standZ_call (z := 0) X T R hp hl hr hi hpl hll hnl htk hs1 hs2 (fun k a b c => (hst k a b c).trans rfl) hQ
  · have hst : ∀ k, 0 < k → k < (layT 1 ns ps).length → ns.getD ((nums (layT 1 ns ps)).getD (k - 1) 0).toNat 0 = ns.getD ((nums (layT 1 ns ps)).getD k 0).toNat 0 → decide ((nums ps).idxOf ((nums (layT 1 ns ps)).getD (k - 1) 0) < (nums ps).idxOf ((nums (layT 1 ns ps)).getD k 0)) = false := fun k h0 hk e => by
      have hk1 : k - 1 < (layT 1 ns ps).length := by omega
      have := List.pairwise_iff_getElem.mp (layL_stab (f := fun p => ns.getD p.toNat 0) hn) (k - 1) k hk1 hk (by omega)
      rw [at' (k - 1) hk1 hk1, at' k hk hk] at e ⊢
      exact decide_eq_false (Nat.lt_asymm (this e))
    have hs1 : ∀ q ∈ layT 1 ns ps, q ∈ ps := fun q hq => hm.mem_iff.mp hq
    have hs2 : ∀ q ∈ layT 1 ns ps, 0 ≤ q.1 ∧ q.1 < ns.length := fun q hq => hdom q (hs1 q hq)
    generalize layT 1 ns ps = qs at *
    exact standZ_call (z := 1) X T R hp hl hr hi hpl hll hnl htk hs1 hs2 (fun k a b c => (hst k a b c).trans rfl) hQ
end Mine
end

section
open PySem PySem.W PyProof.Rows
open PySem.Calls PySem.Spec
namespace Mine
section
variable {prog : Program} {w : World} {A : Around} {E : Value → Shared → Prop} {Q : Flow → Shared → Prop} {s : Shared} {env : Env} {g : Heap} {L : Addr}
/-- for a, b in l, where l holds pairs -/
theorem for_pairs {xa xb : Str} {pa pb pt : Pos} {x1 : Nat} {body orelse : List Stmt} {l : Addr} {pc : List (Addr × Value × Value)} {m : Str → Option Value} {news : List (Addr × Obj)}
    (J : Nat → (Str → Option Value) → List (Addr × Obj) → Nat → Prop)
    (hxa : env.kindOf xa = some .local) (hxb : env.kindOf xb = some .local) (hp : (env.scope.kind == .class || (env.scope.kind == .module && env.locals != env.globals)) = false) (hL : env.locals = L) (hh : A.handled = none)
    (hsn : (assignEach [.Name xa pa, .Name xb pb] env).length = 2) (hsl : (assignEach [.Name xa pa, .Name xb pb] env).findIdx? (·.1) = none) (hse : (assignEach [.Name xa pa, .Name xb pb] env).map (·.2) = [assign (.Name xa pa) env, assign (.Name xb pb) env])
    (F : Fr g L s.heap m) (N : News g L s.heap news) (hJ : J 0 m news s.toks)
    (hl : ∀ i m' news' h tk, J i m' news' tk → Fr g L h m' → News g L h news' → h.IsList l (pc.map fun q => Value.ref q.1).toArray ∧ ∀ q ∈ pc, h.IsTuple q.1 #[q.2.1, q.2.2])
    (turn : ∀ i q m₁ news₁ h₁ tk₁ tk₂ I o, pc[i]? = some q → J i m₁ news₁ tk₁ → tk₁ ≤ tk₂ → (∀ p ∈ news₁, p.1 ≠ I) → o.data = .fields #[.ref l, .int ((i + 1 : Nat) : Int) 0] →
      Fr g L h₁ (fun y => if y = xb then some q.2.2 else if y = xa then some q.2.1 else m₁ y) → News g L h₁ ((I, o) :: news₁) →
      wpAny (model prog w) A (execs body env) (LEnd g L s J Q (i + 1) [(I, o)]) E { s with heap := h₁, toks := tk₂ })
    (done : ∀ m₁ news₁ h₁ tk₁ tk₂, J pc.length m₁ news₁ tk₁ → tk₁ ≤ tk₂ → Fr g L h₁ m₁ → News g L h₁ news₁ → wpAny (model prog w) A (execs orelse env) Q E { s with heap := h₁, toks := tk₂ })
    (hE : PassesOwn (model prog w) A env E := by passes_own) :
    wpAny (model prog w) A (pyIter (.ref l)) (fun it s₂ => codeAny (model prog w) A (.forLoop (.Tuple [.Name xa pa, .Name xb pb] x1 pt) it body orelse env) (fun r s' => match r with | .ok f => Q f s' | .error e => cameBackBy (model prog w) A env E e s') s₂) E s := by
  subst hL
  have hl0 := (hl 0 m news s.heap s.toks hJ F N).1
  refine wpAny_pyIter_list hl0 ?_
  obtain ⟨ol, hol, hol'⟩ := id hl0
  have hlI : l ≠ s.heap.objs.size := Nat.ne_of_lt (Heap.lt_size hol)
  generalize hI : s.heap.objs.size = I at *
  have hLI : env.locals ≠ I := Nat.ne_of_lt (hI ▸ F.ns.lt)
  have hgI : g.get? I = none := hI ▸ news_none (news := news) F
  have F0 := F.push { cls := .type "list_iterator", data := .fields #[.ref l, .int 0 0] }
  have N0 : News g env.locals (s.heap.push { cls := .type "list_iterator", data := .fields #[.ref l, .int 0 0] }) news := fun p hp => ⟨Heap.get?_push_of_some _ (N p hp).1, (N p hp).2⟩
  have hit0 : (s.heap.push { cls := .type "list_iterator", data := .fields #[.ref l, .int 0 0] }).IsListIter I l 0 := ⟨_, hI ▸ Heap.get?_push_size _ rfl, rfl, rfl⟩
  have hna : ∀ p ∈ news, p.1 ≠ I := fun p hp => hI ▸ news_away N p hp
  have hpI : ∀ q ∈ pc, q.1 ≠ I := fun q hq => by
    obtain ⟨o, ho, _⟩ := (hl 0 m news s.heap s.toks hJ F N).2 q hq
    exact hI ▸ Nat.ne_of_lt (Heap.lt_size ho)
  refine codeAny_forLoop_any
    (ForI g env.locals s (fun h i => h.IsListIter I l i) (fun a => a ≠ I) J pc.length) ?_ (pc.length + 1)
    (.mk (i := 0) hit0 F0 N0 hna hJ (Nat.le_refl _) (Nat.zero_le _))
  rintro k s' (@⟨h', tk, m', news', i, tk₀, hit', F', N', hna', hJ', htk, hi⟩)
  obtain ⟨hl', htu⟩ := hl i m' news' h' tk₀ hJ' F' N'
  have keepF : ∀ h₁ : Heap, Heap.ExtBut I h' h₁ → Fr g env.locals h₁ m' ∧ News g env.locals h₁ news' := fun h₁ k₁ =>
    ⟨⟨F'.ns.extBut k₁ hLI, fun b o e => k₁ b o (fun q => by rw [q, hgI] at e; cases e) (F'.keep b o e), F'.above⟩, fun p hp => ⟨k₁ _ _ (hna' p hp) (N' p hp).1, (N' p hp).2⟩⟩
  by_cases hlt : i < pc.length
  · refine wpAny_pyNext_list_item hit' hl' (x := .ref pc[i].1) (by simp [hlt]) fun h₁ hit₁ hs₁ => ?_
    refine wpAny_letOwnedTupleGo_listiter hit₁ ?_
    obtain ⟨ot, hot, hot'⟩ := htu pc[i] (List.getElem_mem hlt)
    have ht₁ : h₁.IsTuple pc[i].1 #[pc[i].2.1, pc[i].2.2] := ⟨ot, hs₁.extBut _ _ (hpI _ (List.getElem_mem hlt)) hot, hot'⟩
    refine wpAny_assign_Tuple hh ht₁ hsn hsl fun h₂ hx₂ => ?_
    replace hx₂ : Heap.ExtBut h₁.objs.size h₁ h₂ := hx₂
    rw [hse]
    have k₂ : ∀ b o, h₁.get? b = some o → h₂.get? b = some o := fun b o e => hx₂ b o (Nat.ne_of_lt (Heap.lt_size e)) e
    obtain ⟨F₂, N₂⟩ := keepF h₂ fun b o nb e => k₂ b o (hs₁.extBut b o nb e)
    obtain ⟨oI, hoI, hcI, hdI⟩ := id hit₁
    have hoI2 : h₂.get? I = some oI := k₂ _ _ hoI
    show wpAny _ A (do holding [pc[i].2.2] (assign (.Name xa pa) env pc[i].2.1); do holding [] (assign (.Name xb pb) env pc[i].2.2); pure ()) _ _ _
    refine wpAny_bind (wpAny_holding (wpAny_assign_Name (wpAny_storeName_local hxa F₂.ns (fun h₄ hn₄ hs₄ => ?_) hp)))
    replace hs₄ : Heap.SameBut env.locals h₂ h₄ := hs₄
    have F₄ := F₂.set hn₄ hs₄
    have N₄ := N₂.set hs₄
    refine wpAny_bind (wpAny_holding (wpAny_assign_Name (wpAny_storeName_local hxb F₄.ns (fun h₅ hn₅ hs₅ => ?_) hp)))
    replace hs₅ : Heap.SameBut env.locals h₄ h₅ := hs₅
    have F₅ := F₄.set hn₅ hs₅
    have N₅ := N₄.set hs₅
    have hI5 : h₅.get? I = some oI := (hs₅.2 I (Ne.symm hLI)).trans ((hs₄.2 I (Ne.symm hLI)).trans hoI2)
    have N₆ : News g env.locals h₅ ((I, oI) :: news') := fun p hp => by
      rcases List.mem_cons.mp hp with rfl | hp
      · exact ⟨hI5, Ne.symm hLI, hgI⟩
      · exact N₅ p hp
    refine wpAny_pure ?_
    refine wpAny_mono (wpAny_passesOwn hE (turn i pc[i] m' news' h₅ tk₀ (tk + 1 + 1) I oI (by simp [hlt]) hJ' (by omega) hna' hdI F₅ N₆)) (fun f s₃ h₃ => ?_) fun _ _ e => e
    cases f with
    | ret v => exact h₃
    | brk => exact h₃
    | next => exact LGo.go h₃ hlt (fun h' q => ⟨oI, q _ (.head _), hcI, hdI⟩) (fun a q => q _ (.head _))
    | cont => exact LGo.go h₃ hlt (fun h' q => ⟨oI, q _ (.head _), hcI, hdI⟩) (fun a q => q _ (.head _))
  · have hin : i = pc.length := by omega
    subst hin
    refine wpAny_pyNext_list_end hh hit' hl' (by simp) fun h₁ he₁ => ?_
    obtain ⟨F₁, N₁⟩ := keepF h₁ he₁
    exact wpAny_passesOwn hE (done m' news' h₁ tk₀ tk hJ' htk F₁ N₁)
end
end Mine
end

section
open PySem PySem.W PyProof.Rows
open PySem.Calls PySem.Spec
namespace Mine
/-- the body and the scope of a def of the text -/
def bodyIn (K : Frag) (f : Addr) (n : Nat) : List Stmt := match K.lookup f with
  | some ⟨_, _, .func fd, _⟩ => (match fd.body with | .stmts b => b.drop n | _ => [])
  | _ => []
def scopeIn (K : Frag) (f : Addr) : Scope := match K.lookup f with
  | some ⟨_, _, .func fd, _⟩ => fd.scope
  | _ => { kind := .function, names := [], isGenerator := false, isCoroutine := false }
def forBody (l : List Stmt) : List Stmt := match l with
  | .For _ _ b _ _ :: _ => b
  | _ => []
theorem at_def {K : Frag} {f : Addr} {oc : Value} {od : Option Addr} {osl : Array (Option Value)} {name qual : Str} {params : Arguments} {body : List Stmt} {scope : Scope} {cl : List (Str × Addr)} {dV kV doc pm cdv ct : Value} {an : Option Addr} {G : Prop}
    (ho : K.lookup f = some ⟨oc, od, .func (fnX name qual params body scope cl dV kV doc pm an cdv ct), osl⟩) (h : (∀ n, bodyIn K f n = body.drop n) → scopeIn K f = scope → G) : G :=
  h (fun n => by unfold bodyIn; rw [ho]) (by unfold scopeIn; rw [ho])
theorem news_pull {g h : Heap} {L : Addr} {news : List (Addr × Obj)} {p : Addr × Obj} (N : News g L h news) (hp : p ∈ news) : News g L h (p :: news) := fun q hq => by
  rcases List.mem_cons.mp hq with rfl | hq
  · exact N _ hp
  · exact N _ hq
theorem news_rec {g h : Heap} {L : Addr} {m : Str → Option Value} {news extra : List (Addr × Obj)} {q : Addr × Obj} (F : Fr g L h m) (N : News g L h (q :: news)) (hx : ∀ p ∈ extra, IsRec p.2 ∧ h.get? p.1 = some p.2 ∧ g.get? p.1 = none) : News g L h (q :: (news ++ extra)) := fun p hp => by
  rcases List.mem_cons.mp hp with rfl | hp
  · exact N _ (.head _)
  · rcases List.mem_append.mp hp with hp | hp
    · exact N _ (.tail _ hp)
    · obtain ⟨h1, h2, h3⟩ := hx p hp
      refine ⟨h2, fun e => ?_, h3⟩
      obtain ⟨oL, es, ep, hL, hLd, _⟩ := F.ns
      rw [e, hL] at h2
      cases h2
      exact (rec_ref h1).2.1 _ _ hLd
theorem rec_off {g h : Heap} {tab : Array Value} {p : Addr × Obj} (ok : TriplesOk tab.toList) (h6 : h.get? 116 = some (tabObj tab)) (hx : IsRec p.2 ∧ h.get? p.1 = some p.2 ∧ g.get? p.1 = none) : p.1 ≠ 116 := fun e => by
  obtain ⟨h1, h2, _⟩ := hx
  rw [e, h6] at h2
  rw [← Option.some.inj h2] at h1
  exact tab_norec ok h1
theorem news_list {g h : Heap} {L l : Addr} {news : List (Addr × Obj)} {vs : Array Value} {n : Nat} (N : News g L h news) (hp : (l, listOf vs n) ∈ news) : h.IsList l vs := ⟨_, (N _ hp).1, rfl, _, rfl⟩
theorem fresh_ne {h : Heap} {news : List (Addr × Obj)} {g : Heap} {L l : Addr} (N : News g L h news) (hl : h.get? l = none) : ∀ p ∈ news, p.1 ≠ l := fun p hp e => by
  have := (N p hp).1
  rw [e, hl] at this
  cases this
theorem news_new {g h h' : Heap} {L l : Addr} {m : Str → Option Value} {news : List (Addr × Obj)} {o : Obj} (F : Fr g L h m) (N' : News g L h' news) (hl : h.get? l = none) (e : h'.get? l = some o) : News g L h' ((l, o) :: news) := fun p hp => by
  rcases List.mem_cons.mp hp with rfl | hp
  · refine ⟨e, fun q => ?_, ?_⟩
    · obtain ⟨oL, es, ep, hL, _⟩ := F.ns
      rw [← q, hl] at hL
      cases hL
    · cases q : g.get? l with
      | none => rfl
      | some o' => have := F.keep _ _ q; rw [hl] at this; cases this
  · exact N' p hp
theorem news_cons {g h : Heap} {L : Addr} {a b : List (Addr × Obj)} {p : Addr × Obj} (N : News g L h a) (hp : p ∈ a) (N' : News g L h b) : News g L h (p :: b) := fun q hq => by
  rcases List.mem_cons.mp hq with rfl | hq
  · exact N _ hp
  · exact N' _ hq
theorem news_sub {g h : Heap} {L : Addr} {a b : List (Addr × Obj)} (N : News g L h a) (hs : ∀ p ∈ b, p ∈ a) : News g L h b := fun p hp => N p (hs p hp)
theorem news_name {g h : Heap} {L : Addr} {news : List (Addr × Obj)} {G : Prop} (N : News g L h news) (k : ∀ led, led = news → News g L h led → G) : G := k _ rfl N
theorem News.tail {g h : Heap} {L : Addr} {p : Addr × Obj} {news : List (Addr × Obj)} (N : News g L h (p :: news)) : News g L h news := fun q hq => N q (.tail _ hq)
section
variable {prog : Program} {w : World} {A : Around} {E : Value → Shared → Prop} {s : Shared}
/-- xs + ys, a new list -/
theorem add_lists {a b : Addr} {xs ys : List Value} {n n2 : Nat} {g : Heap} {L : Addr} {m : Str → Option Value} {news : List (Addr × Obj)} {Q : Value → Shared → Prop}
    (F : Fr g L s.heap m) (N : News g L s.heap news) (ha : (a, listOf xs.toArray n) ∈ news) (hb : (b, listOf ys.toArray n2) ∈ news) (hz : xs.length + ys.length ≤ 1000)
    (h : ∀ D h', Fr g L h' m → News g L h' ((D, listOf (xs ++ ys).toArray 0) :: news) → (∀ p ∈ news, p.1 < D) → Q (.ref D) { s with heap := h' }) : wpAny (model prog w) A (binaryOp .Add (.ref a) (.ref b)) Q E s := by
  have sz := sizeLine_eq
  refine P.add_list (items := xs.toArray) (items2 := ys.toArray) (N _ ha).1 (N _ hb).1 ?_ (by rw [List.size_toArray, List.size_toArray]; omega)
  have e : xs.toArray ++ ys.toArray = (xs ++ ys).toArray := by simp
  rw [e]
  exact h _ _ (F.push _) (News.push F N _) fun p hp => Heap.lt_size (N p hp).1
end
theorem all_cons {α : Type} {P : α → Prop} {a : α} {l : List α} (h : P a) (t : ∀ p ∈ l, P p) : ∀ p ∈ a :: l, P p := fun p hp => by
  cases hp with
  | head => exact h
  | tail _ hp => exact t p hp
theorem all_app {α : Type} {P : α → Prop} {a l : List α} (h : ∀ p ∈ a, P p) (t : ∀ p ∈ l, P p) : ∀ p ∈ a ++ l, P p := fun p hp => (List.mem_append.mp hp).elim (h p) (t p)
theorem news_app {g h : Heap} {L : Addr} {a b : List (Addr × Obj)} (N : News g L h a) (N' : News g L h b) : News g L h (a ++ b) := all_app N N'
theorem mem_swap3 {α : Type} {a b c : α} {own fx ex : List α} : ∀ p ∈ a :: b :: c :: (own ++ fx), p ∈ own ++ a :: b :: c :: (fx ++ ex) :=
  all_cons (List.mem_append_right _ (.head _)) (all_cons (List.mem_append_right _ (.tail _ (.head _))) (all_cons (List.mem_append_right _ (.tail _ (.tail _ (.head _)))) (all_app (fun p hp => List.mem_append_left _ hp) fun p hp => List.mem_append_right _ (.tail _ (.tail _ (.tail _ (List.mem_append_left _ hp)))))))
theorem mem_skip3 {α : Type} {a b c : α} {own fx : List α} : ∀ p ∈ a :: b :: c :: fx, p ∈ a :: b :: c :: (own ++ fx) :=
  all_cons (.head _) (all_cons (.tail _ (.head _)) (all_cons (.tail _ (.tail _ (.head _))) fun p hp => .tail _ (.tail _ (.tail _ (List.mem_append_right _ hp)))))
/-- where law runs -/
abbrev lawEnv (K : Frag) (L fa : Addr) (cd : Value) : Env := envOfC "law" (scopeIn K 154) L fa cd
theorem law_room {env : Env} : Room (callerA.deeper env) 6 120 := ⟨by show 1 + claimMargin + 1 + 6 < recursionLimit; decide, by show 4 + 3 + 120 < cLine; decide, rfl⟩

theorem kms_mid {ps : List (Int × Tok)} {a z : Nat} {v : Int} (hv : v = ((a + z : Nat) : Int)) (h : a + z ≤ ps.length) : kms_pick (tInts ps).toArray.toList (some (a : Int)) (some v) = tInts ((ps.drop a).take z) := by
  subst hv
  unfold kms_pick
  have e : (tInts ps).toArray.toList = tInts ps := rfl
  rw [e]
  have h1 : kms_lo (some (a : Int)) (tInts ps).length = a := by
    unfold kms_lo
    dsimp only
    rw [if_neg (by omega), List.length_map, Int.toNat_natCast]
    omega
  have h2 : kms_hi (some ((a + z : Nat) : Int)) (tInts ps).length = a + z := by
    unfold kms_hi
    dsimp only
    rw [if_neg (by omega), List.length_map, Int.toNat_natCast]
    omega
  rw [h1, h2, Nat.add_sub_cancel_left]
  simp [List.map_take, List.map_drop]

set_option maxRecDepth 100000 in
set_option maxHeartbeats 400000 in
theorem inner_body {w : World} {loose : List Str} {mean : ExcName → Option Value} {mg mb : Str → Option Value} {g : Heap} {L fa : Addr} {cd : Value} {s : Shared} {E : Value → Shared → Prop} {Q : Flow → Shared → Prop}
    {m0 : Str → Option Value} {tab : Array Value} {rest : List (Addr × Obj)} {oG oR : Obj} {G D Ld : Addr} {gp qs lp : List (Int × Tok)} {nG nD nL i a z f pr : Nat} {ti ta tz tf tp : Tok}
    (X : (hd.heap_39 w.params).In g) (T : Top topProg loose mean mg mb g) (C : CodeHd g 120 116) (h116 : g.get? 116 = none)
    (F : Fr g L s.heap (fun y => if y = "size" then some (.int (z : Int) tz) else if y = "first" then some (.int (a : Int) ta) else if y = "pressed" then some (.int (pr : Int) tp) else if y = "laid" then some (.ref Ld) else if y = "flags" then some (.int (f : Int) tf) else if y = "turn" then some (.int (i : Int) ti) else m0 y))
    (N : News g L s.heap ((116, tabObj tab) :: rest)) (hr6 : ∀ p ∈ rest, p.1 ≠ 116) (hT : TabIn s.heap tab [])
    (mG : (L + 1 + 1 + 1, oG) ∈ rest) (dG : oG.data = .cell (some (.ref G))) (mR : (L + 1, oR) ∈ rest) (dR : oR.data = .cell (some (.ref D)))
    (mg' : (G, listOf (tInts gp).toArray nG) ∈ rest) (mD : (D, listOf (tInts qs).toArray nD) ∈ rest) (mL : (Ld, listOf (tInts lp).toArray nL) ∈ rest)
    (hgl : gp.length = 27) (hql : qs.length = 27) (hlp : lp.length ≤ 27) (haz : a + z ≤ 27) (hz : z ≤ 9) (hf : f < 2 ^ 32) (htk : 264 < s.toks) (hi : i < 4)
    (hdom : i < 2 → ∀ p ∈ gp, 0 ≤ p.1 ∧ p.1 < 27) (htok : i < 2 → ∀ p ∈ gp, p.2 ≠ 0 ∧ ∀ q ∈ gp, p.2 = q.2 → p.1 = q.1) (hnd : i < 2 → (nums gp).Nodup)
    (hQ : ∀ h' tk Ld' nL' tab' m' t, s.toks ≤ tk → Fr g L h' m' → Loc m0 ["first", "size", "lain"] [("pressed", .int ((pr ||| pressed f a z : Nat) : Int) t), ("laid", .ref Ld'), ("flags", .int (f : Int) tf), ("turn", .int (i : Int) ti)] m' →
      News g L h' ((116, tabObj tab') :: (Ld', listOf (tInts (lp ++ layT i (nums qs) ((gp.drop a).take z))).toArray nL') :: rest) → TabIn h' tab' [] → (∀ p ∈ rest, p.1 ≠ Ld') → Ld' ≠ 116 → Q .next { s with heap := h', toks := tk }) :
    wpAny (model pw w) (callerA.deeper (lawEnv (hd.heap_39 w.params) L fa cd)) (execs (forBody ((forBody (bodyIn (hd.heap_39 w.params) 154 9)).drop 3)) (lawEnv (hd.heap_39 w.params) L fa cd)) Q E s := by
  refine' at_def (K := hd.heap_39 w.params) (f := 154) ?ho ?_
  case ho => k_is
  intro eb es
  unfold lawEnv
  rw [eb, es]
  show wpAny _ _ (execs (Stmt.Assign _ _ _ :: _) _) _ _ _
  clear eb es
  refine wpAny_with_toks (n := s.toks) (Nat.le_refl _) ?_
  obtain ⟨extra, hTx, hx⟩ := tab_pick hT F.keep
  have N0 := news_rec F N hx
  have hr6' : ∀ p ∈ rest ++ extra, p.1 ≠ 116 := fun p hp => by
    rcases List.mem_append.mp hp with hp | hp
    · exact hr6 p hp
    · exact rec_off hT.ok (N _ (.head _)).1 (hx p hp)
  have N1 := news_pull (news_pull (news_pull (news_pull (news_pull N0 (List.mem_cons_of_mem _ (List.mem_append_left _ mL))) (.tail _ (List.mem_cons_of_mem _ (List.mem_append_left _ mD)))) (.tail _ (.tail _ (List.mem_cons_of_mem _ (List.mem_append_left _ mg'))))) (.tail _ (.tail _ (.tail _ (List.mem_cons_of_mem _ (List.mem_append_left _ mR)))))) (.tail _ (.tail _ (.tail _ (.tail _ (List.mem_cons_of_mem _ (List.mem_append_left _ mG))))))
  clear N
  repeat' ((fail_if_success (with_reducible show wpAny _ _ (subscriptTail _ _ _ _) _ _ _)); (first | k_unfold | walk1 | (dsimp only; walk1)))
  rename Fr _ _ _ _ => F2
  rename News _ _ _ _ => N2
  refine kms_slice_lit (its := (tInts gp).toArray) (lo := some (a : Int)) (hi := some ((a : Int) + z)) F2 N2 ⟨_, (N2 (G, _) (.tail _ (.tail _ (.head _)))).1, rfl, _, rfl⟩ (IsPart.int _ _) (IsPart.int _ _) (kms_mid (ps := gp) (a := a) (z := z) (by omega) (by omega)) ?_ (by with_unfolding_all rfl) (fun _ => by with_unfolding_all rfl) (by rw [List.size_toArray, List.length_map, hgl, sizeLine_eq]; decide)
  intro D1 h3 F3 N3 l3
  repeat' ((fail_if_success (with_reducible show wpAny _ _ (call (Value.ref _) _ _) _ _ _)); (first | k_unfold | walk1 | (dsimp only; walk1)))
  have n6 : ∀ {p : Addr × Obj}, p ∈ rest → p.1 ≠ 116 := fun hp => hr6 _ hp
  have hT3 : TabIn h3 tab [] := tab_back hTx F3.keep fun p hp => (N3 p (.tail _ (.tail _ (.tail _ (.tail _ (.tail _ (.tail _ (.tail _ (List.mem_append_right _ hp))))))))).1
  have m6 := N3 (116, tabObj tab) (.tail _ (.tail _ (.tail _ (.tail _ (.tail _ (.tail _ (.head _)))))))
  have hD16 : D1 ≠ 116 := Nat.ne_of_gt (l3 (116, tabObj tab) (.tail _ (.tail _ (.tail _ (.tail _ (.tail _ (.head _)))))))
  have hzl : ((gp.drop a).take z).length ≤ 9 := by rw [List.length_take]; omega
  have hsubz : ∀ p ∈ (gp.drop a).take z, p ∈ gp := fun p hp => List.mem_of_mem_drop (List.mem_of_mem_take hp)
  refine wpAny_with_toks (n := s.toks + 1) (Nat.le_refl _) ?_
  refine lay_call (g₀ := g) (ns := nums qs) hi X T C F3.keep h116 (law_room.le (by decide) (by decide)) m6.1 hT3 (by rw [List.length_map, hql]; decide) (news_list N3 (.head _)) hD16 (news_list N3 (.tail _ (List.mem_cons_of_mem _ (List.mem_cons_of_mem _ (.tail _ (.head _)))))) (n6 mD) (ints_are qs) (fun h p hp => by rw [List.length_map, hql]; exact hdom h p (hsubz p hp)) (by omega) ?_
  intro h4 tk4 lA n4 tab' k4 hlA e4 e46 hT4 hle4
  dsimp only at hle4 hlA k4
  obtain ⟨F4, N4⟩ := kept_one (pre := [(D1, _), (L + 1 + 1 + 1, oG), (L + 1, oR), (G, _), (D, _), (Ld, _)]) (post := rest ++ extra) k4 F3 N3 (all_cons hD16 (all_cons (n6 mG) (all_cons (n6 mR) (all_cons (n6 mg') (all_cons (n6 mD) (all_cons (n6 mL) fun _ h => nomatch h)))))) hr6' e46
  have N4' := news_new F3 N4 hlA e4
  have hlA' := fresh_ne N3 hlA
  obtain ⟨extra4, hTx4, hx4⟩ := tab_pick hT4 F4.keep
  have N5 := news_rec F4 (news_sub N4 (b := (116, tabObj tab') :: rest) (fun p hp => List.mem_append_right _ (by rcases List.mem_cons.mp hp with rfl | hp; exact .head _; exact .tail _ (List.mem_append_left _ hp)))) hx4
  replace N5 := news_cons N4' (.head _) (news_cons N4' (.tail _ (.head _)) (news_cons N4' (.tail _ (.tail _ (.head _))) (news_cons N4' (.tail _ (.tail _ (.tail _ (.head _)))) (news_cons N4' (.tail _ (.tail _ (.tail _ (.tail _ (.head _))))) (news_cons N4' (.tail _ (.tail _ (.tail _ (.tail _ (.tail _ (.head _)))))) (news_cons N4' (.tail _ (.tail _ (.tail _ (.tail _ (.tail _ (.tail _ (.head _))))))) N5))))))
  clear N4 N4' F3 N3 k4
  have hlx4 : ∀ p ∈ extra4, p.1 ≠ 116 := fun p hp => rec_off hT4.ok e46 (hx4 p hp)
  repeat' ((fail_if_success (with_reducible show wpAny _ _ (execs (Stmt.If _ _ _ _ :: _) _) _ _ _)); (first | k_unfold | walk1 | (dsimp only; walk1)))
  rename Fr _ _ _ _ => F6
  rename News _ _ _ _ => N6
  rename_i h6
  dsimp only
  refine gen_toks fun tk6 htk6 => ?_
  show wpAny _ _ _ _ _ _
  repeat' ((fail_if_success (with_reducible show wpAny _ _ (exec (Stmt.If _ _ _ _) _) _ _ _)); (first | k_unfold | walk1 | (dsimp only; walk1)))
  refine fr_name F6 fun m6 em6 F6 => ?_
  refine news_name N6 fun led6 el6 N6 => ?_
  refine wpAny_mono (Q := fun fl s' => fl = .next ∧ ∃ h' tk, s' = { s with heap := h', toks := tk } ∧ Fr g L h' m6 ∧ News g L h' led6 ∧ tk6 ≤ tk) ?_ ?_ fun _ _ e => e
  · refine wpAny_with_toks (n := tk6) (Nat.le_refl _) ?_
    subst em6 el6
    by_cases hi2 : i < 2
    · repeat' ((fail_if_success (with_reducible show wpAny _ _ (subscriptTail _ _ _ _) _ _ _)); (first | k_unfold | walk1 | (dsimp only; walk1)))
      rename Fr _ _ _ _ => F7
      rename News _ _ _ _ => N7
      refine kms_slice_lit (its := (tInts gp).toArray) (lo := some (a : Int)) (hi := some ((a : Int) + z)) F7 N7 (news_list N7 (.tail _ (.tail _ (.tail _ (.tail _ (.head _)))))) (IsPart.int _ _) (IsPart.int _ _) (kms_mid (ps := gp) (a := a) (z := z) (by omega) (by omega)) ?_ (by with_unfolding_all rfl) (fun _ => by with_unfolding_all rfl) (by rw [List.size_toArray, List.length_map, hgl, sizeLine_eq]; decide)
      intro D8 h8 F8 N8 l8
      repeat' ((fail_if_success (with_reducible show wpAny _ _ (call (Value.ref _) _ _) _ _ _)); (first | k_unfold | walk1 | (dsimp only; walk1)))
      refine stand_call (ps := (gp.drop a).take z) (ns := nums qs) hi2 (X.keeps F8.keep) (T.keeps F8.keep) (law_room.le (by decide) (by decide)) (news_list N8 (.head _)) (news_list N8 (.tail _ (.head _))) (news_list N8 (.tail _ (.tail _ (.tail _ (.tail _ (.tail _ (.tail _ (.head _)))))))) (ints_are qs) (by omega) (by rw [List.length_map, hql]; decide) (fun p hp => ⟨(htok hi2 p (hsubz p hp)).1, fun q hq => (htok hi2 p (hsubz p hp)).2 q (hsubz q hq)⟩) (fun p hp => by rw [List.length_map, hql]; exact hdom hi2 p (hsubz p hp)) (((hnd hi2).sublist ((((gp.drop a).take_sublist z).trans (gp.drop_sublist a)).map _))) ?_
      intro h9 tk9 k9
      have F9 := stays_fr k9 F8
      have N9 := stays_news k9 N8
      clear F8 N8 F7 N7 F6 N6
      repeat' (first | k_unfold | walk1 | (dsimp only; walk1))
      · rename Fr _ _ _ _ => F10; exact F10
      · rename News _ _ _ _ => N10; exact News.tail N10
      · rename tk6 ≤ _ => hle; exact hle
    · repeat' (first | k_unfold | walk1 | (dsimp only; walk1))
      · exact F6
      · exact N6
      · rename tk6 ≤ _ => hle; exact hle
  · rintro fl s' ⟨rfl, h9, tk9, rfl, F9, N9, hle9⟩
    subst em6 el6
    clear F6 N6
    dsimp only
    have hlz : (layT i (nums qs) ((gp.drop a).take z)).length ≤ 9 := by rw [(layT_perm _ _ _).length_eq]; exact hzl
    repeat' ((fail_if_success (with_reducible show wpAny _ _ (binaryOp _ _ _) _ _ _)); (first | k_unfold | walk1 | (dsimp only; walk1)))
    refine add_lists (xs := tInts lp) (ys := tInts (layT i (nums qs) ((gp.drop a).take z))) F9 N9 (.tail _ (.tail _ (.tail _ (.tail _ (.tail _ (.tail _ (.head _))))))) (.head _) (by rw [List.length_map, List.length_map]; omega) ?_
    intro D10 h10 F10 N10 l10
    rw [show tInts lp ++ tInts (layT i (nums qs) ((gp.drop a).take z)) = tInts (lp ++ layT i (nums qs) ((gp.drop a).take z)) by simp] at N10
    repeat' ((fail_if_success (with_reducible show wpAny _ _ (call (Value.ref _) _ _) _ _ _)); (first | k_unfold | walk1 | (dsimp only; walk1)))
    refine pressed_call (f := f) (a := a) (z := z) (X.keeps F10.keep) (T.keeps F10.keep) (law_room.le (by decide) (by decide)) hf hz (by omega) (show 264 < tk9 by omega) ?_
    intro h11 tk11 t11 k11
    have F11 := stays_fr k11 F10
    have N11 := stays_news k11 N10
    clear F10 N10 F9 N9
    repeat' ((fail_if_success (with_reducible show wpAny _ _ (call (Value.ref _) _ _) _ _ _)); (first | k_unfold | walk1 | (dsimp only; walk1)))
    refine or_call (a := pr) (b := pressed f a z) (X.keeps F11.keep) (T.keeps F11.keep) (law_room.le (by decide) (by decide)) ?_
    intro h12 tk12 t12 k12
    have F12 := stays_fr k12 F11
    have N12 := stays_news k12 N11
    clear F11 N11
    repeat' (first | k_unfold | walk1 | (dsimp only; walk1))
    rename s.toks ≤ _ => hleF
    rename Fr _ _ _ _ => F13
    rename News _ _ _ _ => N13
    dsimp only at hleF ⊢
    have h116D : D10 ≠ 116 := Nat.ne_of_gt (l10 (116, tabObj tab') (.tail _ (.tail _ (.tail _ (.tail _ (.tail _ (.tail _ (.tail _ (.head _)))))))))
    refine hQ _ _ D10 0 tab' _ t12 hleF F13 (Loc.mk (by kst_all) (by ksw_same)) (news_cons N13 (.tail _ (.tail _ (.tail _ (.tail _ (.tail _ (.tail _ (.tail _ (.tail _ (.tail _ (.head _)))))))))) (news_cons N13 (.tail _ (.head _)) (news_sub N13 fun p hp => (.tail _ (.tail _ (.tail _ (.tail _ (.tail _ (.tail _ (.tail _ (.tail _ (.tail _ (.tail _ (List.mem_append_left _ hp)))))))))))))) (tab_back hTx4 F13.keep fun p hp => (N13 p (.tail _ (.tail _ (.tail _ (.tail _ (.tail _ (.tail _ (.tail _ (.tail _ (.tail _ (.tail _ (List.mem_append_right _ hp)))))))))))).1) (fun p hp => Nat.ne_of_lt (l10 p (.tail _ (.tail _ (.tail _ (.tail _ (.tail _ (.tail _ (.tail _ (.tail _ (List.mem_append_left _ hp))))))))))) h116D
end Mine
end

section
open PySem PySem.W PyProof.Rows
open PySem.Calls PySem.Spec
namespace Mine
def takeAt (gp op : List (Int × Tok)) : List (Int × Tok) := op.map fun p => gp.getD p.1.toNat (0, 0)
def given2 (i : Nat) (gp op qs : List (Int × Tok)) : List (Int × Tok) := if i = 2 then takeAt qs (takeAt gp op) else takeAt gp op
def laidAll (i : Nat) (qs g2 : List (Int × Tok)) (pc : List (Nat × Nat)) : List (Int × Tok) := pc.flatMap fun q => layT i (nums qs) ((g2.drop q.1).take q.2)
def pressAll (f : Nat) (pc : List (Nat × Nat)) : Nat := pc.foldl (fun acc q => acc ||| pressed f q.1 q.2) 0
abbrev Piece := Addr × (Nat × Tok) × (Nat × Tok)
def pieceOf (q : Piece) : Nat × Nat := (q.2.1.1, q.2.2.1)
abbrev tupObj (q : Piece) : Obj := { cls := .type "tuple", data := .seq #[.int (q.2.1.1 : Int) q.2.1.2, .int (q.2.2.1 : Int) q.2.2.2] }
def valsAt (i : Nat) (qs g3 : List (Int × Tok)) : List (Int × Tok) := if i < 2 then takeAt qs g3 else g3

theorem allLt_mem {d : Addr} {l : List (Addr × Obj)} (h : AllLt d l) (p : Addr × Obj) (hp : p ∈ l) : p.1 ≠ d := by
  induction l with
  | nil => cases hp
  | cons q r ih =>
    obtain ⟨h1, h2⟩ := h
    cases hp with
    | head => exact Nat.ne_of_lt h1
    | tail _ hp => exact ih h2 hp
theorem Loc.join {m₀ m u : Str → Option Value} {s s1 s2 : List Str} {ps : List (Str × Value)} (hs : ∀ z, (s1.contains z || s2.contains z) = s.contains z) (h : Loc (fun z => if s1.contains z then u z else m₀ z) s2 ps m) : Loc m₀ s ps m := by
  obtain ⟨u', rfl⟩ := h
  refine ⟨fun z => if s2.contains z then u' z else u z, ?_⟩
  congr 1
  funext z
  have := hs z
  dsimp only
  rw [← this]
  cases h1 : s1.contains z <;> cases h2 : s2.contains z <;> simp
theorem wp_at {M : Model} {A A' : Around} {α : Type} {t t' : Sem α} {Q : α → Shared → Prop} {E : Value → Shared → Prop} {s : Shared} (eA : A = A') (et : t = t') (h : wpAny M A t Q E s) : wpAny M A' t' Q E s := by
  subst eA et
  exact h
theorem takeAt_len (gp op : List (Int × Tok)) : (takeAt gp op).length = op.length := by rw [takeAt, List.length_map]
theorem given2_len (i : Nat) (gp op qs : List (Int × Tok)) : (given2 i gp op qs).length = op.length := by
  unfold given2
  split <;> simp [takeAt]
theorem laidAll_len (i : Nat) (qs g2 : List (Int × Tok)) : ∀ (pc : List (Nat × Nat)), (laidAll i qs g2 pc).length ≤ (pc.map (·.2)).sum
  | [] => Nat.le_refl _
  | q :: r => by
    have := laidAll_len i qs g2 r
    unfold laidAll at *
    rw [List.flatMap_cons, List.length_append, (layT_perm _ _ _).length_eq, List.length_take, List.map_cons, List.sum_cons]
    omega
theorem laidAll_len' (i : Nat) (qs g2 : List (Int × Tok)) : ∀ (pc : List (Nat × Nat)), (∀ q ∈ pc, q.1 + q.2 ≤ g2.length) → (laidAll i qs g2 pc).length = (pc.map (·.2)).sum
  | [], _ => rfl
  | q :: r, h => by
    have := laidAll_len' i qs g2 r (fun q hq => h q (.tail _ hq))
    have h1 := h q (.head _)
    unfold laidAll at *
    rw [List.flatMap_cons, List.length_append, (layT_perm _ _ _).length_eq, List.length_take, List.length_drop, List.map_cons, List.sum_cons]
    omega
theorem laidAll_mem {i : Nat} {qs g2 : List (Int × Tok)} {pc : List (Nat × Nat)} {p : Int × Tok} (h : p ∈ laidAll i qs g2 pc) : p ∈ g2 := by
  obtain ⟨q, _, hp⟩ := List.mem_flatMap.mp h
  exact List.mem_of_mem_drop (List.mem_of_mem_take ((layT_perm _ _ _).mem_iff.mp hp))
theorem valsAt_len (i : Nat) (qs g3 : List (Int × Tok)) : (valsAt i qs g3).length = g3.length := by
  unfold valsAt
  split
  · rw [takeAt_len]
  · rfl
theorem laidAll_snoc (i : Nat) (qs g2 : List (Int × Tok)) (pc : List (Nat × Nat)) (q : Nat × Nat) : laidAll i qs g2 (pc ++ [q]) = laidAll i qs g2 pc ++ layT i (nums qs) ((g2.drop q.1).take q.2) := by
  unfold laidAll
  rw [List.flatMap_append, List.flatMap_cons, List.flatMap_nil, List.append_nil]
theorem pressAll_snoc (f : Nat) (pc : List (Nat × Nat)) (q : Nat × Nat) : pressAll f (pc ++ [q]) = pressAll f pc ||| pressed f q.1 q.2 := by
  unfold pressAll
  rw [List.foldl_append]
  rfl
theorem sum_take_le : ∀ (l : List Nat) (k : Nat), (l.take k).sum ≤ l.sum
  | [], k => by simp
  | a :: r, 0 => by simp
  | a :: r, k + 1 => by
    have := sum_take_le r k
    rw [List.take_succ_cons, List.sum_cons, List.sum_cons]
    omega
theorem not_rec_iter {o : Obj} {l : Addr} {j : Int} (h : o.data = .fields #[.ref l, .int j 0]) : ¬ IsRec o := by
  rintro ⟨vs, t, hd, hv⟩
  rw [h] at hd
  cases hd
  cases hv
abbrev pairOf (q : Piece) : Addr × Value × Value := (q.1, .int (q.2.1.1 : Int) q.2.1.2, .int (q.2.2.1 : Int) q.2.2.2)

theorem toNat_lt {x : Int} {n : Nat} (h0 : 0 ≤ x) (h : x < 27) (hn : n = 27) : x.toNat < n := by omega
theorem i63 {x : Int} (h : x < 27) : x < 2 ^ 63 := by omega
theorem i32 {x : Int} (h : x < 27) : x < 32 := by omega
theorem i2 {i : Nat} (h : (i : Int) = 2) : i = 2 := by omega
theorem i2n {i : Nat} (h : ¬(i : Int) = 2) : ¬i = 2 := by omega
theorem i23 {i : Nat} (h : (i : Int) = 2) : i < 3 := by omega
inductive TurnJ (g : Heap) (mL : Str → Option Value) (L : Addr) (i f1 : Nat) (qs g2 : List (Int × Tok)) (rest : List (Addr × Obj)) (oG2 : Obj) (G2 : Addr) (nG2 : Nat) (pcs : List (Nat × Nat)) (t4 ti : Tok) (tk15 : Nat) (k : Nat) (m : Str → Option Value) (news : List (Addr × Obj)) (tk : Nat) : Prop
  | mk (tb : Array Value) (Ld : Addr) (nL : Nat) (tp : Tok) (ex : List (Addr × Obj)) (hn : news = (116, tabObj tb) :: (Ld, listOf (tInts (laidAll i qs g2 (pcs.take k))).toArray nL) :: (L + 1 + 1 + 1, oG2) :: (G2, listOf (tInts g2).toArray nG2) :: (rest ++ ex)) (hT : TabIn g tb ex) (hx : ∀ p ∈ ex, IsRec p.2) (h6 : Ld ≠ 116) (hc : Ld ≠ L + 1 + 1 + 1) (hG : Ld ≠ G2) (hr : ∀ p ∈ rest, p.1 ≠ Ld) (ht : tk15 ≤ tk)
      (hl : Loc mL ["first", "size", "lain"] [("pressed", .int ((pressAll f1 (pcs.take k) : Nat) : Int) tp), ("laid", .ref Ld), ("flags", .int (f1 : Int) t4), ("turn", .int (i : Int) ti)] m) : TurnJ g mL L i f1 qs g2 rest oG2 G2 nG2 pcs t4 ti tk15 k m news tk
inductive TurnMid (s : Shared) (g : Heap) (L : Addr) (m7 : Str → Option Value) (g2 : List (Int × Tok)) (tab : Array Value) (rest : List (Addr × Obj)) (tk7 : Nat) (s' : Shared) : Prop
  | mk (h' : Heap) (tk : Nat) (G2 : Addr) (nG2 : Nat) (oG2 : Obj) (hs : s' = { s with heap := h', toks := tk }) (F : Fr g L h' m7) (N : News g L h' ((L + 1 + 1 + 1, oG2) :: (G2, listOf (tInts g2).toArray nG2) :: (116, tabObj tab) :: rest)) (hd : oG2.data = .cell (some (.ref G2))) (hc : L + 1 + 1 + 1 < G2) (h6 : 116 < G2) (hr : ∀ p ∈ rest, p.1 < G2) (ht : tk7 ≤ tk) : TurnMid s g L m7 g2 tab rest tk7 s'
inductive TurnVal (s : Shared) (g : Heap) (L : Addr) (m20 : Str → Option Value) (vs : List (Int × Tok)) (led : List (Addr × Obj)) (v : Value) (s' : Shared) : Prop
  | mk (h' : Heap) (tk : Nat) (V : Addr) (nV : Nat) (hv : v = .ref V) (hs : s' = { s with heap := h', toks := tk }) (F : Fr g L h' m20) (N : News g L h' ((V, listOf (tInts vs).toArray nV) :: led)) (ht : s.toks ≤ tk) : TurnVal s g L m20 vs led v s'

set_option maxRecDepth 100000 in
set_option maxHeartbeats 4000000 in
theorem turn_body {w : World} {loose : List Str} {mean : ExcName → Option Value} {mg mb : Str → Option Value} {g : Heap} {L fa : Addr} {cd : Value} {s : Shared} {E : Value → Shared → Prop} {Q : Flow → Shared → Prop}
    {m0 : Str → Option Value} {tab : Array Value} {rest : List (Addr × Obj)} {oG oR oL : Obj} {G D PL OA : Addr} {gp qs op : List (Int × Tok)} {nG nD nO nP i f : Nat} {ti tf tl : Tok} {lv : Int} {pc : List Piece}
    (X : (hd.heap_39 w.params).In g) (T : Top topProg loose mean mg mb g) (C : CodeHd g 120 116) (h116 : g.get? 116 = none)
    (F : Fr g L s.heap (fun y => if y = "pieces" then some (.ref PL) else if y = "order" then some (.ref OA) else if y = "turn" then some (.int (i : Int) ti) else if y = "flags" then some (.int (f : Int) tf) else m0 y))
    (N : News g L s.heap ((L + 1 + 1 + 1, oG) :: (116, tabObj tab) :: rest)) (hr : ∀ p ∈ rest, p.1 ≠ 116 ∧ p.1 ≠ L + 1 + 1 + 1) (hne : L + 1 + 1 + 1 ≠ 116) (hT : TabIn s.heap tab [])
    (dG : oG.data = .cell (some (.ref G))) (mR : (L + 1, oR) ∈ rest) (dR : oR.data = .cell (some (.ref D))) (mL : (L + 1 + 1, oL) ∈ rest) (dL : oL.data = .cell (some (.int lv tl)))
    (mg' : (G, listOf (tInts gp).toArray nG) ∈ rest) (mD : (D, listOf (tInts qs).toArray nD) ∈ rest) (mO : (OA, listOf (tInts op).toArray nO) ∈ rest)
    (mP : (PL, listOf (pc.map fun q => Value.ref q.1).toArray nP) ∈ rest) (mT : ∀ q ∈ pc, (q.1, tupObj q) ∈ rest)
    (hgl : gp.length = 27) (hql : qs.length = 27) (hol : op.length = 27) (hop : ∀ p ∈ op, 0 ≤ p.1 ∧ p.1 < 27) (hpc : ∀ q ∈ pc, q.2.1.1 + q.2.2.1 ≤ 27 ∧ q.2.2.1 ≤ 9) (hps : (pc.map fun q => q.2.2.1).sum = 27)
    (hf : f < 2 ^ 32) (htk : 264 < s.toks) (hi : i < 4)
    (hdom : i < 3 → ∀ p ∈ takeAt gp op, 0 ≤ p.1 ∧ p.1 < 27) (htok : i < 2 → ∀ p ∈ takeAt gp op, p.2 ≠ 0 ∧ ∀ q ∈ takeAt gp op, p.2 = q.2 → p.1 = q.1) (hnd : i < 2 → (nums (takeAt gp op)).Nodup)
    (hpr : pressAll (bitsOf (moved f (nums op)) 27) (pc.map pieceOf) = bitsOf (reach (nums (valsAt i qs (laidAll i qs (given2 i gp op qs) (pc.map pieceOf)))) lv) 27)
    (hQ : ∀ h' tk G' nG' oG' tab' m' t, s.toks ≤ tk → Fr g L h' m' → Loc m0 ["pieces", "order", "turn", "laid", "pressed", "first", "size", "lain", "due"] [("flags", .int ((bitsOf (reach (nums (valsAt i qs (laidAll i qs (given2 i gp op qs) (pc.map pieceOf)))) lv) 27 : Nat) : Int) t)] m' → oG'.data = .cell (some (.ref G')) →
      News g L h' ((L + 1 + 1 + 1, oG') :: (116, tabObj tab') :: (G', listOf (tInts (laidAll i qs (given2 i gp op qs) (pc.map pieceOf))).toArray nG') :: rest) → TabIn h' tab' [] → G' ≠ 116 → G' ≠ L + 1 + 1 + 1 → (∀ p ∈ rest, p.1 ≠ G') → Q .next { s with heap := h', toks := tk }) :
    wpAny (model pw w) (callerA.deeper (lawEnv (hd.heap_39 w.params) L fa cd)) (execs (forBody (bodyIn (hd.heap_39 w.params) 154 9)) (lawEnv (hd.heap_39 w.params) L fa cd)) Q E s := by
  refine' at_def (K := hd.heap_39 w.params) (f := 154) ?ho ?_
  case ho => k_is
  intro eb es
  unfold lawEnv
  rw [eb, es]
  show wpAny _ _ (execs (Stmt.Assign _ _ _ :: _) _) _ _ _
  clear eb es
  refine wpAny_with_toks (n := s.toks) (Nat.le_refl _) ?_
  obtain ⟨extra, hTx, hx⟩ := tab_pick hT F.keep
  have N0 : News g L s.heap ((L + 1 + 1 + 1, oG) :: (116, tabObj tab) :: (rest ++ extra)) := news_cons N (.head _) (news_rec F (News.tail N) hx)
  have hx' : ∀ p ∈ rest ++ extra, p.1 ≠ 116 ∧ p.1 ≠ L + 1 + 1 + 1 := fun p hp => by
    rcases List.mem_append.mp hp with hp | hp
    · exact hr p hp
    · exact ⟨rec_off hT.ok (N _ (.tail _ (.head _))).1 (hx p hp), fun e => by
        have h1 := hx p hp
        have h2 := (N _ (.head _)).1
        rw [e, h2] at h1
        have h3 := Option.some.inj h1.2.1
        rw [← h3] at h1
        exact (rec_ref h1.1).2.2 _ dG⟩
  have N1 := news_pull (news_pull N0 (.tail _ (.tail _ (List.mem_append_left _ mO)))) (.tail _ (.tail _ (.tail _ (List.mem_append_left _ mg'))))
  clear N
  repeat' ((fail_if_success (with_reducible show wpAny _ _ (eval (Expr.ListComp _ _ _ _) _) _ _ _)); (first | k_unfold | walk1 | (dsimp only; walk1)))
  refine wpAny_with_toks (n := s.toks) (Nat.le_refl _) ?_
  refine comp_start rfl rfl (by decide) ?_
  repeat' ((fail_if_success (with_reducible show wpAny _ _ (pyIter _) _ _ _)); (first | k_unfold | walk1 | (dsimp only; walk1)))
  rename Fr _ _ _ _ => F2
  rename News _ _ _ _ => N2
  refine comp_list (l := OA) (items := tInts op) (fun vs ys tk => ys = tInts (takeAt gp (op.take vs.length))) (fun _ _ _ _ h _ => h) rfl (by rw [List.length_map, hol, sizeLine_eq]; decide) (by decide) rfl rfl F2 N2 (news_list N2 (.tail _ (.head _))) rfl ?elt ?fin
  case elt =>
    rintro vs ys v C h tk m₂ E' hv rfl hC hn hm hk
    obtain ⟨p, hp, rfl⟩ : ∃ p, op[vs.length]? = some p ∧ v = .int p.1 p.2 := by
      rw [List.getElem?_map] at hv
      obtain ⟨p, a, b⟩ := Option.map_eq_some_iff.mp hv
      exact ⟨p, a, b.symm⟩
    have hc3 : h.get? (L + 1 + 1 + 1) = some oG := hk _ _ (N2 (L + 1 + 1 + 1, oG) (.tail _ (.tail _ (.head _)))).1
    have hl3 : h.IsList G (tInts gp).toArray := let ⟨o, a, r⟩ := news_list N2 (.head _); ⟨o, hk _ _ a, r⟩
    obtain ⟨hp0, hp27⟩ := hop p (List.mem_of_getElem? hp)
    have hpl : p.1.toNat < gp.length := toNat_lt hp0 hp27 hgl
    walk1
    refine wpAny_Name (wpAny_loadName_cell rfl rfl rfl ⟨oG, hc3, dG⟩ ?_) (by decide)
    refine wpAny_Name (wpAny_loadName_local rfl (lookup_relabel_local rfl) hn hm ?_) (by decide)
    refine PyProof.Rows.item_list (x := .int gp[p.1.toNat].1 gp[p.1.toNat].2) hl3 hp0 (i63 hp27) (by simp [hpl]) ?_
    refine ⟨⟨_, _, rfl, fun _ _ e => e⟩, ?_⟩
    rw [List.length_append, List.length_singleton, List.take_add_one, hp]
    simp [takeAt, hpl]
  case fin =>
    rintro D3 h3 tk3 vs ys nn hlen rfl F3 N3 l3 hle3
    dsimp only at hle3
    rw [hlen, List.length_map, List.take_length] at N3
    repeat' ((fail_if_success (with_reducible show wpAny _ _ (call (Value.ref _) _ _) _ _ _)); (first | k_unfold | walk1 | (dsimp only; walk1)))
    refine wpAny_with_toks (n := s.toks) hle3 ?_
    refine moved_call (ps := op) (f := f) (X.keeps F3.keep) (T.keeps F3.keep) (law_room.le (by decide) (by decide)) (news_list N3 (.tail _ (.tail _ (.head _)))) (by rw [hol]; decide) hf (fun p hp => ⟨(hop p hp).1, i32 (hop p hp).2⟩) ?_
    intro h4 tk4 t4 k4 hle4
    dsimp only at hle4
    have F4 := stays_fr k4 F3
    have N4 := stays_news k4 N3
    clear F3 N3 F2 N2
    repeat' ((fail_if_success (with_reducible show wpAny _ _ (storeName _ _ _) _ _ _)); (first | k_unfold | walk1 | (dsimp only; walk1)))
    rename Fr _ _ _ _ => F5
    rename News _ _ _ _ => N5
    replace N5 := news_sub N5 (b := (L + 1 + 1 + 1, oG) :: (D3, listOf (tInts (takeAt gp op)).toArray nn) :: (116, tabObj tab) :: (rest ++ extra)) (all_cons (.tail _ (.tail _ (.tail _ (.tail _ (.head _))))) (all_cons (.tail _ (.head _)) (all_cons (.tail _ (.tail _ (.tail _ (.tail _ (.tail _ (.head _)))))) fun p hp => (.tail _ (.tail _ (.tail _ (.tail _ (.tail _ (.tail _ hp)))))))))
    have hD3c : L + 1 + 1 + 1 < D3 := l3 (L + 1 + 1 + 1, oG) (.tail _ (.tail _ (.head _)))
    have hD36 : 116 < D3 := l3 (116, tabObj tab) (.tail _ (.tail _ (.tail _ (.head _))))
    have hD3r : ∀ p ∈ rest ++ extra, p.1 < D3 := fun p hp => l3 p (.tail _ (.tail _ (.tail _ (.tail _ hp))))
    refine storeX_C F5 N5 rfl (updF_mid [] ((D3, listOf (tInts (takeAt gp op)).toArray nn) :: (116, tabObj tab) :: (rest ++ extra)) (fun _ h => nomatch h) (fun p hp => by
      rcases List.mem_cons.mp hp with rfl | hp
      · exact Nat.ne_of_gt hD3c
      · rcases List.mem_cons.mp hp with rfl | hp
        · exact hne.symm
        · exact (hx' p hp).2)) dG ?_
    intro h6 oG1 F6 N6 dG1
    clear F5 N5
    dsimp only [List.nil_append] at N6
    repeat' ((fail_if_success (with_reducible show wpAny _ _ (execs (Stmt.If _ _ _ _ :: _) _) _ _ _)); (first | k_unfold | walk1 | (dsimp only; walk1)))
    rename Fr _ _ _ _ => F7
    rename News _ _ _ _ => N7
    rename_i h7
    dsimp only
    refine gen_toks fun tk7 htk7 => ?_
    show wpAny _ _ _ _ _ _
    repeat' ((fail_if_success (with_reducible show wpAny _ _ (exec (Stmt.If _ _ _ _) _) _ _ _)); (first | k_unfold | walk1 | (dsimp only; walk1)))
    refine fr_name F7 fun m7 em7 F7 => ?_
    refine wpAny_mono (Q := fun fl s' => fl = .next ∧ TurnMid s g L m7 (given2 i gp op qs) tab (rest ++ extra) tk7 s') ?_ ?_ fun _ _ e => e
    · refine wpAny_with_toks (n := tk7) (Nat.le_refl _) ?_
      subst em7
      by_cases hi2 : (i : Int) = 2
      · have eg : given2 i gp op qs = takeAt qs (takeAt gp op) := if_pos (i2 hi2)
        rw [eg]
        repeat' ((fail_if_success (with_reducible show ite _ _ _)); (first | k_unfold | walk1 | (dsimp only; walk1)))
        rw [if_pos (beq_iff_eq.mpr hi2)]
        replace N7 := news_pull (news_pull N7 (.tail _ (.tail _ (.tail _ (List.mem_append_left _ mR))))) (.tail _ (.tail _ (.tail _ (.tail _ (List.mem_append_left _ mD)))))
        repeat' ((fail_if_success (with_reducible show wpAny _ _ (eval (Expr.ListComp _ _ _ _) _) _ _ _)); (first | k_unfold | walk1 | (dsimp only; walk1)))
        refine comp_start rfl rfl (by decide) ?_
        repeat' ((fail_if_success (with_reducible show wpAny _ _ (pyIter _) _ _ _)); (first | k_unfold | walk1 | (dsimp only; walk1)))
        rename Fr _ _ _ _ => F8
        rename News _ _ _ _ => N8
        have htl : (takeAt gp op).length = 27 := by rw [takeAt, List.length_map, hol]
        refine comp_list (l := D3) (items := tInts (takeAt gp op)) (fun vs ys tk => ys = tInts (takeAt qs ((takeAt gp op).take vs.length))) (fun _ _ _ _ h _ => h) rfl (by rw [List.length_map, htl, sizeLine_eq]; decide) (by decide) rfl rfl F8 N8 (news_list N8 (.tail _ (.tail _ (.tail _ (.head _))))) rfl ?elt ?fin
        case elt =>
          rintro vs ys v C h tk m₂ E' hv rfl hC hn hm hk
          obtain ⟨p, hp, rfl⟩ : ∃ p, (takeAt gp op)[vs.length]? = some p ∧ v = .int p.1 p.2 := by
            rw [List.getElem?_map] at hv
            obtain ⟨p, a, b⟩ := Option.map_eq_some_iff.mp hv
            exact ⟨p, a, b.symm⟩
          have hc3 : h.get? (L + 1) = some oR := hk _ _ (N8 (L + 1, oR) (.tail _ (.head _))).1
          have hl3 : h.IsList D (tInts qs).toArray := let ⟨o, a, r⟩ := news_list N8 (.head _); ⟨o, hk _ _ a, r⟩
          obtain ⟨hp0, hp27⟩ := hdom (i23 hi2) p (List.mem_of_getElem? hp)
          have hpl : p.1.toNat < qs.length := toNat_lt hp0 hp27 hql
          walk1
          refine wpAny_Name (wpAny_loadName_cell rfl rfl rfl ⟨oR, hc3, dR⟩ ?_) (by decide)
          refine wpAny_Name (wpAny_loadName_local rfl (lookup_relabel_local rfl) hn hm ?_) (by decide)
          refine PyProof.Rows.item_list (x := .int qs[p.1.toNat].1 qs[p.1.toNat].2) hl3 hp0 (i63 hp27) (by simp [hpl]) ?_
          refine ⟨⟨_, _, rfl, fun _ _ e => e⟩, ?_⟩
          rw [List.length_append, List.length_singleton, List.take_add_one, hp]
          simp [takeAt, hpl]
        case fin =>
          rintro D9 h9 tk9 vs ys nn9 hlen9 rfl F9 N9 l9
          rw [hlen9, List.length_map, List.take_length] at N9
          replace N9 := news_sub N9 (b := (L + 1 + 1 + 1, oG1) :: (D9, listOf (tInts (takeAt qs (takeAt gp op))).toArray nn9) :: (116, tabObj tab) :: (rest ++ extra)) (all_cons (.tail _ (.tail _ (.tail _ (.head _)))) (all_cons (.head _) (all_cons (.tail _ (.tail _ (.tail _ (.tail _ (.tail _ (.head _)))))) fun p hp => (.tail _ (.tail _ (.tail _ (.tail _ (.tail _ (.tail _ hp)))))))))
          have hD9c : L + 1 + 1 + 1 < D9 := l9 (L + 1 + 1 + 1, oG1) (.tail _ (.tail _ (.head _)))
          have hD96 : 116 < D9 := l9 (116, tabObj tab) (.tail _ (.tail _ (.tail _ (.tail _ (.head _)))))
          have hD9r : ∀ p ∈ rest ++ extra, p.1 < D9 := fun p hp => l9 p (.tail _ (.tail _ (.tail _ (.tail _ (.tail _ hp)))))
          repeat' ((fail_if_success (with_reducible show wpAny _ _ (storeName _ _ _) _ _ _)); (first | k_unfold | walk1 | (dsimp only; walk1)))
          refine storeX_C F9 N9 rfl (updF_mid [] ((D9, listOf (tInts (takeAt qs (takeAt gp op))).toArray nn9) :: (116, tabObj tab) :: (rest ++ extra)) (fun _ h => nomatch h) (fun p hp => by
            rcases List.mem_cons.mp hp with rfl | hp
            · exact Nat.ne_of_gt hD9c
            · rcases List.mem_cons.mp hp with rfl | hp
              · exact hne.symm
              · exact (hx' p hp).2)) dG1 ?_
          intro h10 oG2 F10 N10 dG2
          dsimp only [List.nil_append] at N10
          repeat' ((fail_if_success (with_reducible show _ = Flow.next ∧ _)); (first | k_unfold | walk1 | (dsimp only; walk1)))
          rename tk7 ≤ _ => hle
          exact ⟨rfl, h10, _, D9, nn9, oG2, rfl, F10, N10, dG2, hD9c, hD96, hD9r, hle⟩
      · have eg : given2 i gp op qs = takeAt gp op := if_neg (i2n hi2)
        rw [eg]
        repeat' ((fail_if_success (with_reducible show ite _ _ _)); (first | k_unfold | walk1 | (dsimp only; walk1)))
        rw [if_neg (fun h => hi2 (beq_iff_eq.mp h))]
        repeat' ((fail_if_success (with_reducible show _ = Flow.next ∧ _)); (first | k_unfold | walk1 | (dsimp only; walk1)))
        rename tk7 ≤ _ => hle
        exact ⟨rfl, h7, _, D3, nn, oG1, rfl, F7, N7, dG1, hD3c, hD36, hD3r, hle⟩
    · rintro fl s' ⟨rfl, h9, tk9, G2, nG2, oG2, rfl, F9, N9, dG2, hG2c, hG26, hG2r, hle9⟩
      subst em7
      clear F7 N7 dG1
      dsimp only
      repeat' ((fail_if_success (with_reducible show wpAny _ _ (execs (Stmt.For _ _ _ _ _ :: _) _) _ _ _)); (first | k_unfold | walk1 | (dsimp only; walk1)))
      rename Fr _ _ _ _ => F11
      rename News _ _ _ _ => N11
      rename_i l11 h11 l11lt D12 h12 l12 h13 h14 h15
      have hl6 : l11 ≠ 116 := Nat.ne_of_gt l11lt.2.2.1
      have hlc : l11 ≠ L + 1 + 1 + 1 := Nat.ne_of_gt l11lt.1
      have hlr : ∀ p ∈ rest ++ extra, p.1 ≠ l11 := fun p hp => allLt_mem l11lt.2.2.2 p hp
      have hlG : G2 ≠ l11 := Nat.ne_of_lt l11lt.2.1
      clear l12 l11lt
      dsimp only
      refine gen_toks fun tk15 htk15 => ?_
      show wpAny _ _ _ _ _ _
      repeat' ((fail_if_success (with_reducible show wpAny _ _ (exec (Stmt.For _ _ _ _ _) _) _ _ _)); (first | k_unfold | walk1 | (dsimp only; walk1)))
      refine wpAny_noRaise ?_
      refine wpAny_For ?_
      repeat' ((fail_if_success (with_reducible show wpAny _ _ (pyIter _) _ _ _)); (first | k_unfold | walk1 | (dsimp only; walk1)))
      refine fr_name F11 fun mL emL F11 => ?_
      have hf1 : bitsOf (moved f (nums op)) 27 < 2 ^ 32 := bitsOf_mono _ _ _ (by decide)
      have hg2l := given2_len i gp op qs
      rw [hol] at hg2l
      rw [hol] at *
      refine for_pairs (L := L) (pc := pc.map pairOf) (news := (116, tabObj tab) :: (l11, listOf (tInts []).toArray 0) :: (L + 1 + 1 + 1, oG2) :: (G2, listOf (tInts (given2 i gp op qs)).toArray nG2) :: (rest ++ extra)) (TurnJ g mL L i (bitsOf (moved f (nums op)) 27) qs (given2 i gp op qs) rest oG2 G2 nG2 (pc.map pieceOf) t4 ti tk15)
        rfl rfl rfl rfl rfl rfl rfl rfl F11 ?hN ?h0 ?hl ?turn ?done
      case hN => exact news_cons N11 (.tail _ (.tail _ (.tail _ (.tail _ (.head _))))) (news_cons N11 (.tail _ (.head _)) (news_cons N11 (.tail _ (.tail _ (.head _))) (news_cons N11 (.tail _ (.tail _ (.tail _ (.head _)))) (news_sub N11 fun p hp => (.tail _ (.tail _ (.tail _ (.tail _ (.tail _ hp)))))))))
      case h0 =>
        subst emL
        exact ⟨tab, l11, 0, tk9, extra, rfl, hTx, (fun p hp => (hx p hp).1), hl6, hlc, hlG.symm, (fun p hp => hlr p (List.mem_append_left _ hp)), Nat.le_refl _, Loc.mk (by kst_all) (fun _ _ _ => rfl)⟩
      case hl =>
        rintro k m' news' h tk ⟨tb, Ld, nL, tp, ex, rfl, _⟩ F N
        refine ⟨?_, fun q hq => ?_⟩
        · rw [List.map_map]
          exact news_list N (.tail _ (.tail _ (.tail _ (.tail _ (List.mem_append_left _ mP)))))
        · obtain ⟨q', hq', rfl⟩ := List.mem_map.mp hq
          exact ⟨_, (N _ (.tail _ (.tail _ (.tail _ (.tail _ (List.mem_append_left _ (mT q' hq'))))))).1, rfl, _, rfl⟩
      case turn =>
        rintro k q' m₁ news₁ h₁ tk₁ tk₂ I o hq' ⟨tb, Ld, nL, tp, ex, rfl, hTb, hex, a6, ac, aG, ar, hta, u, rfl⟩ htk12 hI hio F16 N16
        obtain ⟨q, hq, rfl⟩ : ∃ q, pc[k]? = some q ∧ q' = pairOf q := by
          rw [List.getElem?_map] at hq'
          obtain ⟨q, a, b⟩ := Option.map_eq_some_iff.mp hq'
          exact ⟨q, a, b.symm⟩
        obtain ⟨ha1, ha2⟩ := hpc q (List.mem_of_getElem? hq)
        have hst : (pc.map pieceOf).take (k + 1) = (pc.map pieceOf).take k ++ [pieceOf q] := by
          rw [List.take_add_one, List.getElem?_map, hq]; rfl
        subst emL
        dsimp only [kstB] at F16
        have hI' : ∀ p, p ∈ (116, tabObj tb) :: (Ld, listOf (tInts (laidAll i qs (given2 i gp op qs) ((pc.map pieceOf).take k))).toArray nL) :: (L + 1 + 1 + 1, oG2) :: (G2, listOf (tInts (given2 i gp op qs)).toArray nG2) :: (rest ++ ex) → p.1 ≠ I := hI
        refine' at_def (K := hd.heap_39 w.params) (f := 154) ?ho2 ?_
        case ho2 => k_is
        intro eb es
        have hsub : ∀ p, p ∈ (I, o) :: (Ld, listOf (tInts (laidAll i qs (given2 i gp op qs) ((pc.map pieceOf).take k))).toArray nL) :: (L + 1 + 1 + 1, oG2) :: (G2, listOf (tInts (given2 i gp op qs)).toArray nG2) :: (rest ++ ex) → p.1 ≠ 116 := all_cons (hI (116, tabObj tb) (.head _)).symm (all_cons a6 (all_cons hne (all_cons (Nat.ne_of_gt hG26) (all_app (fun p hp => (hr p hp).1) fun p hp => rec_off hTb.ok (N16 (116, tabObj tb) (.tail _ (.head _))).1 ⟨hex p hp, (N16 p (.tail _ (.tail _ (.tail _ (.tail _ (.tail _ (List.mem_append_right _ hp))))))).1, (N16 p (.tail _ (.tail _ (.tail _ (.tail _ (.tail _ (List.mem_append_right _ hp))))))).2.2⟩))))
        have N17 := news_sub N16 (b := (116, tabObj tb) :: (I, o) :: (Ld, listOf (tInts (laidAll i qs (given2 i gp op qs) ((pc.map pieceOf).take k))).toArray nL) :: (L + 1 + 1 + 1, oG2) :: (G2, listOf (tInts (given2 i gp op qs)).toArray nG2) :: (rest ++ ex)) (fun p hp => by
          rcases List.mem_cons.mp hp with rfl | hp
          · exact .tail _ (.head _)
          · rcases List.mem_cons.mp hp with rfl | hp
            · exact .head _
            · exact .tail _ (.tail _ hp))
        have hTh := tab_back hTb F16.keep (fun p hp => (N16 p (.tail _ (.tail _ (.tail _ (.tail _ (.tail _ (List.mem_append_right _ hp))))))).1)
        have hll := laidAll_len i qs (given2 i gp op qs) ((pc.map pieceOf).take k)
        have hll2 : (((pc.map pieceOf).take k).map (·.2)).sum ≤ 27 := by
          rw [List.map_take, List.map_map]
          exact Nat.le_trans (sum_take_le _ _) (Nat.le_of_eq hps)
        refine wp_at ?eA ?et (inner_body (fa := fa) (cd := cd) (i := i) (f := bitsOf (moved f (nums op)) 27) (a := q.2.1.1) (z := q.2.2.1) X T C h116 F16 N17 hsub hTh (.tail _ (.tail _ (.head _))) dG2 (.tail _ (.tail _ (.tail _ (.tail _ (List.mem_append_left _ mR))))) dR (.tail _ (.tail _ (.tail _ (.head _)))) (.tail _ (.tail _ (.tail _ (.tail _ (List.mem_append_left _ mD))))) (.tail _ (.head _)) hg2l hql (by omega) ha1 ha2 hf1 (show 264 < tk₂ by omega) hi ?hd ?ht ?hn ?hq)
        case eA => unfold lawEnv; rw [es]
        case et => unfold lawEnv; rw [eb, es]; rfl
        case hd => exact fun h2 => by rw [show given2 i gp op qs = takeAt gp op from if_neg (Nat.ne_of_lt h2)]; exact hdom (Nat.lt_succ_of_lt h2)
        case ht => exact fun h2 => by rw [show given2 i gp op qs = takeAt gp op from if_neg (Nat.ne_of_lt h2)]; exact htok h2
        case hn => exact fun h2 => by rw [show given2 i gp op qs = takeAt gp op from if_neg (Nat.ne_of_lt h2)]; exact hnd h2
        case hq =>
          clear eb es
          intro h' tk Ld' nL' tab' m' t htk' F' hLoc N' hT' hLr hL6
          obtain ⟨ex', hTx', hx''⟩ := tab_pick hT' F'.keep
          have NR := news_rec F' (news_sub N' (b := (116, tabObj tab') :: []) (fun p hp => by rcases List.mem_singleton.mp hp with rfl; exact .head _)) hx''
          dsimp only at htk'
          have hIex : ∀ p ∈ ex', p.1 ≠ I := fun p hp e => by
            obtain ⟨r1, r2, _⟩ := hx'' p hp
            have r3 := (N' (I, o) (.tail _ (.tail _ (.head _)))).1
            rw [e, r3] at r2
            rw [← Option.some.inj r2] at r1
            exact not_rec_iter hio r1
          refine LEnd.mk (news' := (I, o) :: (116, tabObj tab') :: (Ld', listOf (tInts (laidAll i qs (given2 i gp op qs) ((pc.map pieceOf).take (k + 1)))).toArray nL') :: (L + 1 + 1 + 1, oG2) :: (G2, listOf (tInts (given2 i gp op qs)).toArray nG2) :: (rest ++ ex')) (nx := (116, tabObj tab') :: (Ld', listOf (tInts (laidAll i qs (given2 i gp op qs) ((pc.map pieceOf).take (k + 1)))).toArray nL') :: (L + 1 + 1 + 1, oG2) :: (G2, listOf (tInts (given2 i gp op qs)).toArray nG2) :: (rest ++ ex')) F' ?_ (fun p hp => by rcases List.mem_singleton.mp hp with rfl; exact .head _) (fun p hp => .tail _ hp) (fun p hp r hr' => ?_) ⟨tab', Ld', nL', t, ex', rfl, hTx', fun p hp => (hx'' p hp).1, hL6, ?_, ?_, ?_, ?_, ?_⟩
          · rw [hst, laidAll_snoc]
            exact news_cons N' (.tail _ (.tail _ (.head _))) (news_cons N' (.head _) (news_cons N' (.tail _ (.head _)) (news_cons N' (.tail _ (.tail _ (.tail _ (.tail _ (.head _))))) (news_cons N' (.tail _ (.tail _ (.tail _ (.tail _ (.tail _ (.head _)))))) (news_app (news_sub N' fun p hp => (.tail _ (.tail _ (.tail _ (.tail _ (.tail _ (.tail _ (List.mem_append_left _ hp)))))))) (News.tail NR))))))
          · rcases List.mem_singleton.mp hr' with rfl
            revert p
            exact all_cons (hI (116, tabObj tb) (.head _)) (all_cons (hLr (I, o) (.head _)).symm (all_cons (hI (L + 1 + 1 + 1, oG2) (.tail _ (.tail _ (.head _)))) (all_cons (hI (G2, _) (.tail _ (.tail _ (.tail _ (.head _))))) (all_app (fun p hp => hI p (.tail _ (.tail _ (.tail _ (.tail _ (List.mem_append_left _ hp)))))) hIex))))
          · exact (hLr (L + 1 + 1 + 1, oG2) (.tail _ (.tail _ (.head _)))).symm
          · exact (hLr (G2, _) (.tail _ (.tail _ (.tail _ (.head _))))).symm
          · exact fun p hp => hLr p (.tail _ (.tail _ (.tail _ (.tail _ (List.mem_append_left _ hp)))))
          · exact Nat.le_trans (Nat.le_trans hta htk12) htk'
          · rw [hst, pressAll_snoc]
            exact Loc.join (s1 := ["first", "size", "lain"]) (s2 := ["first", "size", "lain"]) (fun z => Bool.or_self _) hLoc
      case done =>
        rintro m₁ news₁ h₂ tk₁ tk₂ ⟨tb, Ld, nL, tp, ex, rfl, hTb, hex, a6, ac, aG, ar, hta, u, rfl⟩ htk12 F16 N16
        rw [List.length_map, ← List.length_map (f := pieceOf), List.take_length] at *
        subst emL
        dsimp only [kstB] at F16
        show wpAny _ _ _ _ _ _
        have hexr : ∀ p ∈ rest ++ ex, p.1 ≠ 116 ∧ p.1 ≠ L + 1 + 1 + 1 := fun p hp => by
          rcases List.mem_append.mp hp with hp | hp
          · exact hr p hp
          · have h0 := N16 p (.tail _ (.tail _ (.tail _ (.tail _ (List.mem_append_right _ hp)))))
            exact ⟨rec_off hTb.ok (N16 (116, tabObj tb) (.head _)).1 ⟨hex p hp, h0.1, h0.2.2⟩, fun e => by
              have h1 := hex p hp
              have h2 := (N16 (L + 1 + 1 + 1, oG2) (.tail _ (.tail _ (.head _)))).1
              have h3 := h0.1
              rw [e, h2] at h3
              rw [← Option.some.inj h3] at h1
              exact (rec_ref h1).2.2 _ dG2⟩
        have N17 := news_sub N16 (b := (L + 1 + 1 + 1, oG2) :: (Ld, listOf (tInts (laidAll i qs (given2 i gp op qs) (pc.map pieceOf))).toArray nL) :: (116, tabObj tb) :: (rest ++ ex)) (fun p hp => by
          rcases List.mem_cons.mp hp with rfl | hp
          · exact .tail _ (.tail _ (.head _))
          · rcases List.mem_cons.mp hp with rfl | hp
            · exact .tail _ (.head _)
            · rcases List.mem_cons.mp hp with rfl | hp
              · exact .head _
              · exact .tail _ (.tail _ (.tail _ (.tail _ hp))))
        clear N16 N11 F11
        have hg3l : (laidAll i qs (given2 i gp op qs) (pc.map pieceOf)).length = 27 := by
          rw [laidAll_len' _ _ _ _ (fun q hq => by obtain ⟨q', hq', rfl⟩ := List.mem_map.mp hq; rw [hg2l]; exact (hpc q' hq').1), List.map_map]
          exact hps
        have hg3d : i < 2 → ∀ p ∈ laidAll i qs (given2 i gp op qs) (pc.map pieceOf), 0 ≤ p.1 ∧ p.1 < 27 := fun h2 p hp => by
          have := laidAll_mem hp
          rw [show given2 i gp op qs = takeAt gp op from if_neg (Nat.ne_of_lt h2)] at this
          exact hdom (Nat.lt_succ_of_lt h2) p this
        generalize hg3 : laidAll i qs (given2 i gp op qs) (pc.map pieceOf) = g3 at *
        refine gen_toks fun tk17 htk17 => ?_
        show wpAny _ _ _ _ _ _
        repeat' ((fail_if_success (with_reducible show wpAny _ _ (storeName _ _ _) _ _ _)); (first | k_unfold | walk1 | (dsimp only; walk1)))
        rename Fr _ _ _ _ => F18
        rename News _ _ _ _ => N18
        refine storeX_C F18 (News.tail N18) rfl (updF_mid [] ((Ld, listOf (tInts g3).toArray nL) :: (116, tabObj tb) :: (rest ++ ex)) (fun _ h => nomatch h) (fun p hp => by
          rcases List.mem_cons.mp hp with rfl | hp
          · exact ac
          · rcases List.mem_cons.mp hp with rfl | hp
            · exact hne.symm
            · exact (hexr p hp).2)) dG2 ?_
        intro h19 oG3 F19 N19 dG3
        clear F18 N18
        dsimp only [List.nil_append] at N19
        repeat' ((fail_if_success (with_reducible show wpAny _ _ (execs (Stmt.Assign _ _ _ :: _) _) _ _ _)); (first | k_unfold | walk1 | (dsimp only; walk1)))
        rename Fr _ _ _ _ => F20
        rename News _ _ _ _ => N20
        replace N20 := news_pull (news_pull (news_pull N20 (.tail _ (.tail _ (.tail _ (List.mem_append_left _ mR))))) (.tail _ (.tail _ (.tail _ (.tail _ (List.mem_append_left _ mD)))))) (.tail _ (.tail _ (.tail _ (.tail _ (.tail _ (List.mem_append_left _ mL))))))
        refine gen_toks fun tk20 htk20 => ?_
        show wpAny _ _ _ _ _ _
        have htk20' : s.toks ≤ tk20 := by rw [htk20]; show s.toks ≤ tk17 + 1; omega
        repeat' ((fail_if_success (with_reducible show wpAny _ _ (eval (Expr.IfExp _ _ _ _) _) _ _ _)); (first | k_unfold | walk1 | (dsimp only; walk1)))
        refine fr_name F20 fun m20 em20 F20 => ?_
        refine news_name N20 fun led20 el20 N20 => ?_
        refine wpAny_mono (Q := fun v s' => TurnVal s g L m20 (valsAt i qs g3) led20 v s') ?_ ?_ fun _ _ e => e
        · refine wpAny_with_toks (n := s.toks) htk20' ?_
          subst em20 el20
          by_cases hi2 : i < 2
          · have eg : valsAt i qs g3 = takeAt qs g3 := if_pos hi2
            rw [eg]
            repeat' ((fail_if_success (with_reducible show wpAny _ _ (eval (Expr.ListComp _ _ _ _) _) _ _ _)); (first | k_unfold | walk1 | (dsimp only; walk1)))
            refine comp_start rfl rfl (by decide) ?_
            repeat' ((fail_if_success (with_reducible show wpAny _ _ (pyIter _) _ _ _)); (first | k_unfold | walk1 | (dsimp only; walk1)))
            rename Fr _ _ _ _ => F8
            rename News _ _ _ _ => N8
            refine comp_list (l := Ld) (items := tInts g3) (fun vs ys tk => ys = tInts (takeAt qs (g3.take vs.length))) (fun _ _ _ _ h _ => h) rfl (by rw [List.length_map, hg3l, sizeLine_eq]; decide) (by decide) rfl rfl F8 N8 (news_list N8 (.tail _ (.tail _ (.tail _ (.tail _ (.head _)))))) rfl ?elt ?fin
            case elt =>
              rintro vs ys v C h tk m₂ E' hv rfl hC hn hm hk
              obtain ⟨p, hp, rfl⟩ : ∃ p, g3[vs.length]? = some p ∧ v = .int p.1 p.2 := by
                rw [List.getElem?_map] at hv
                obtain ⟨p, a, b⟩ := Option.map_eq_some_iff.mp hv
                exact ⟨p, a, b.symm⟩
              have hc3 : h.get? (L + 1) = some oR := hk _ _ (N8 (L + 1, oR) (.tail _ (.tail _ (.head _)))).1
              have hl3 : h.IsList D (tInts qs).toArray := let ⟨o, a, r⟩ := news_list N8 (.tail _ (.head _)); ⟨o, hk _ _ a, r⟩
              obtain ⟨hp0, hp27⟩ := hg3d hi2 p (List.mem_of_getElem? hp)
              have hpl : p.1.toNat < qs.length := toNat_lt hp0 hp27 hql
              walk1
              refine wpAny_Name (wpAny_loadName_cell rfl rfl rfl ⟨oR, hc3, dR⟩ ?_) (by decide)
              refine wpAny_Name (wpAny_loadName_local rfl (lookup_relabel_local rfl) hn hm ?_) (by decide)
              refine PyProof.Rows.item_list (x := .int qs[p.1.toNat].1 qs[p.1.toNat].2) hl3 hp0 (i63 hp27) (by simp [hpl]) ?_
              refine ⟨⟨_, _, rfl, fun _ _ e => e⟩, ?_⟩
              rw [List.length_append, List.length_singleton, List.take_add_one, hp]
              simp [takeAt, hpl]
            case fin =>
              rintro D9 h9 tk9 vs ys nn9 hlen9 rfl F9 N9 l9 hle9
              rw [hlen9, List.length_map, List.take_length] at N9
              exact ⟨h9, _, D9, nn9, rfl, rfl, F9, N9, hle9⟩
          · have eg : valsAt i qs g3 = g3 := if_neg hi2
            rw [eg]
            repeat' ((fail_if_success (with_reducible show TurnVal _ _ _ _ _ _ _ _)); (first | k_unfold | walk1 | (dsimp only; walk1)))
            rename s.toks ≤ _ => hle
            exact ⟨_, _, Ld, nL, rfl, rfl, F20, news_pull N20 (.tail _ (.tail _ (.tail _ (.tail _ (.head _))))), hle⟩
        · rintro v s' ⟨h21, tk21, V, nV, rfl, rfl, F21, N21, hle21⟩
          subst em20 el20
          clear F20 N20
          repeat' ((fail_if_success (with_reducible show wpAny _ _ (call (Value.ref _) _ _) _ _ _)); (first | k_unfold | walk1 | (dsimp only; walk1)))
          have hvl : (valsAt i qs g3).length = 27 := by rw [valsAt_len]; exact hg3l
          refine flags_call (ps := valsAt i qs g3) (b := lv) (X.keeps F21.keep) (T.keeps F21.keep) (law_room.le (by decide) (by decide)) (news_list N21 (.head _)) (by omega) ?_
          intro h22 tk22 t22 k22
          have F22 := stays_fr k22 F21
          have N22 := stays_news k22 N21
          clear F21 N21
          rw [hvl]
          rw [hpr] at F22
          repeat' ((fail_if_success (with_reducible show wpAny _ _ (call (Value.ref _) _ _) _ _ _)); (first | k_unfold | walk1 | (dsimp only; walk1)))
          all_goals try (exact absurd rfl (by assumption))
          rename Fr _ _ _ _ => F23
          rename News _ _ _ _ => N23
          refine or_call (X.keeps F23.keep) (T.keeps F23.keep) (law_room.le (by decide) (by decide)) ?_
          intro h24 tk24 t24 k24
          have F24 := stays_fr k24 F23
          have N24 := stays_news k24 N23
          clear F23 N23
          rw [Nat.or_self]
          repeat' (first | k_unfold | walk1 | (dsimp only; walk1))
          all_goals try (exact absurd rfl (by assumption))
          rename s.toks ≤ _ => hleF
          refine hQ h24 tk24 Ld nL oG3 tb _ tp hleF F24 (Loc.mk (by kst_all) (by ksw_same)) dG3 (news_cons N24 (.tail _ (.tail _ (.tail _ (.tail _ (.head _))))) (news_cons N24 (.tail _ (.tail _ (.tail _ (.tail _ (.tail _ (.tail _ (.head _))))))) (news_cons N24 (.tail _ (.tail _ (.tail _ (.tail _ (.tail _ (.head _)))))) (news_sub N24 fun p hp => (.tail _ (.tail _ (.tail _ (.tail _ (.tail _ (.tail _ (.tail _ (List.mem_append_left _ hp)))))))))))) (tab_back hTb F24.keep fun p hp => (N24 p (.tail _ (.tail _ (.tail _ (.tail _ (.tail _ (.tail _ (.tail _ (List.mem_append_right _ hp))))))))).1) a6 ac ar
end Mine
end

section
open PySem PySem.W PyProof.Rows
namespace Mine
def ordN : Nat → List Nat
  | 1 => [0, 3, 6, 9, 12, 15, 18, 21, 24, 1, 4, 7, 10, 13, 16, 19, 22, 25, 2, 5, 8, 11, 14, 17, 20, 23, 26]
  | 2 => (List.range 27).map fun k => 9 * (k % 3) + k / 3
  | _ => List.range 27
def ordI (k : Nat) : List Int := (ordN k).map fun (x : Nat) => (x : Int)
def pcsN : Nat → List (Nat × Nat)
  | 3 => [(0, 5), (5, 9), (14, 9), (23, 4)]
  | _ => [(0, 9), (9, 9), (18, 9)]
def takeN (gp : List (Int × Tok)) (ns : List Int) : List (Int × Tok) := ns.map fun x => gp.getD x.toNat (0, 0)
theorem takeAt_N (gp op : List (Int × Tok)) : takeAt gp op = takeN gp (nums op) := by unfold takeAt takeN; rw [List.map_map]; rfl
def g2N (k : Nat) (gp qs : List (Int × Tok)) : List (Int × Tok) := if k = 2 then takeAt qs (takeN gp (ordI k)) else takeN gp (ordI k)
theorem given2_N {k : Nat} {gp op qs : List (Int × Tok)} (h : nums op = ordI k) : given2 k gp op qs = g2N k gp qs := by unfold given2 g2N; rw [takeAt_N gp op, h]
/-- the row given after k turns -/
def GG (sp qs : List (Int × Tok)) : Nat → List (Int × Tok)
  | 0 => sp
  | k + 1 => laidAll k qs (g2N k (GG sp qs k) qs) (pcsN k)
/-- its flags -/
def FF (sp qs : List (Int × Tok)) (lv : Int) : Nat → Nat
  | 0 => bitsOf (reach (nums qs) lv) 27
  | k + 1 => bitsOf (reach (nums (valsAt k qs (GG sp qs (k + 1)))) lv) 27
theorem FF_lt (sp qs : List (Int × Tok)) (lv : Int) (k : Nat) : FF sp qs lv k < 2 ^ 32 := by
  cases k <;> exact bitsOf_mono _ _ _ (by decide)
/-- what the plain law tells of the turns -/
structure Plan (sp qs : List (Int × Tok)) (lv : Int) : Prop where
  len : ∀ k, k < 4 → (GG sp qs k).length = 27
  dom : ∀ k, k < 3 → ∀ p ∈ takeN (GG sp qs k) (ordI k), 0 ≤ p.1 ∧ p.1 < 27
  tok : ∀ k, k < 2 → ∀ p ∈ takeN (GG sp qs k) (ordI k), p.2 ≠ 0 ∧ ∀ q ∈ takeN (GG sp qs k) (ordI k), p.2 = q.2 → p.1 = q.1
  nd : ∀ k, k < 2 → (nums (takeN (GG sp qs k) (ordI k))).Nodup
  flags : ∀ k, k < 4 → pressAll (bitsOf (moved (FF sp qs lv k) (ordI k)) 27) (pcsN k) = FF sp qs lv (k + 1)
theorem ordI_dom {k : Nat} (hk : k < 4) : ∀ x ∈ ordI k, 0 ≤ x ∧ x < 27 := by
  have : k = 0 ∨ k = 1 ∨ k = 2 ∨ k = 3 := by omega
  rcases this with rfl | rfl | rfl | rfl <;> decide
theorem ordI_len {k : Nat} (hk : k < 4) : (ordI k).length = 27 := by
  have : k = 0 ∨ k = 1 ∨ k = 2 ∨ k = 3 := by omega
  rcases this with rfl | rfl | rfl | rfl <;> decide
theorem pcsN_ok {k : Nat} (hk : k < 4) : (∀ q ∈ pcsN k, q.1 + q.2 ≤ 27 ∧ q.2 ≤ 9) ∧ ((pcsN k).map (·.2)).sum = 27 := by
  have : k = 0 ∨ k = 1 ∨ k = 2 ∨ k = 3 := by omega
  rcases this with rfl | rfl | rfl | rfl <;> decide
end Mine
end

section
open PySem PySem.W PyProof.Rows
namespace Mine
/-- noughts ahead of ones -/
def sortB (l : List Bool) : List Bool := List.replicate (l.count false) false ++ List.replicate (l.count true) true
theorem sortB_perm (l : List Bool) : (sortB l).Perm l := by
  rw [List.perm_iff_count]
  intro a
  unfold sortB
  rw [List.count_append, List.count_replicate, List.count_replicate]
  cases a <;> simp
theorem sortB_rises (l : List Bool) : (sortB l).Pairwise fun a b => a = true → b = true := by
  unfold sortB
  refine List.pairwise_append.mpr ⟨List.pairwise_replicate.mpr (.inr fun h => h), List.pairwise_replicate.mpr (.inr fun h => h), fun a ha b hb => ?_⟩
  rw [(List.mem_replicate.mp hb).2]
  exact fun _ => rfl
theorem rises_eq {a b : List Bool} (h : a.Perm b) (ha : a.Pairwise fun a b => a = true → b = true) (hb : b.Pairwise fun a b => a = true → b = true) : a = b :=
  h.eq_of_pairwise (fun x y _ _ h1 h2 => by cases x <;> cases y <;> simp_all) ha hb
def bitsAt (t : Int) (l : List Int) : List Bool := l.map fun v => decide (t ≤ v)
theorem bits_sorted {t : Int} {l m : List Int} (hp : l.Perm m) (hs : l.Pairwise (· ≤ ·)) : bitsAt t l = sortB (bitsAt t m) := by
  refine rises_eq ((hp.map _).trans (sortB_perm _).symm) ?_ (sortB_rises _)
  unfold bitsAt
  rw [List.pairwise_map]
  refine hs.imp fun {a b} hab h => ?_
  have := of_decide_eq_true h
  exact decide_eq_true (by omega)

/-- the value of an item that stands in row k -/
def valI (k : Nat) (ns : List Int) (p : Int × Tok) : Int := if k ≤ 2 then ns.getD p.1.toNat 0 else p.1
def VV (sp qs : List (Int × Tok)) (k : Nat) : List Int := (GG sp qs k).map (valI k (nums qs))
theorem getD_nums (qs : List (Int × Tok)) (i : Nat) : (nums qs).getD i 0 = (qs.getD i (0, 0)).1 := by
  rw [List.getD_eq_getElem?_getD, List.getD_eq_getElem?_getD, List.getElem?_map]
  cases qs[i]? <;> rfl
theorem vals_take (qs ps : List (Int × Tok)) : nums (takeAt qs ps) = ps.map fun p => (nums qs).getD p.1.toNat 0 := by
  show List.map (fun q : Int × Tok => q.1) (List.map _ ps) = _
  rw [List.map_map]
  exact List.map_congr_left fun p _ => (getD_nums qs _).symm
theorem vals_at (k : Nat) (qs ps : List (Int × Tok)) : nums (valsAt k qs ps) = ps.map (valI (k + 1) (nums qs)) := by
  unfold valsAt valI
  by_cases h : k < 2
  · rw [if_pos h, vals_take]
    exact List.map_congr_left fun p _ => by rw [if_pos (by omega)]
  · rw [if_neg h]
    exact List.map_congr_left fun p _ => by rw [if_neg (by omega)]
theorem FF_VV {sp qs : List (Int × Tok)} {lv : Int} (k : Nat) : FF sp qs lv (k + 1) = bitsOf (reach (VV sp qs (k + 1)) lv) 27 := by
  show bitsOf (reach (nums (valsAt k qs (GG sp qs (k + 1)))) lv) 27 = _
  rw [vals_at]
  rfl
theorem map_range_getD {α : Type} {l : List α} {d : α} : ∀ {n : Nat}, l.length = n → (List.range n).map (fun i => l.getD i d) = l := fun h => by
  subst h
  apply List.ext_getElem
  · simp
  · intro i h1 h2
    simp only [List.getElem_map, List.getElem_range]
    rw [List.getD_eq_getElem?_getD, List.getElem?_eq_getElem h2]
    rfl
theorem ordI_zero : ordI 0 = (List.range 27).map fun (x : Nat) => (x : Int) := rfl
theorem VV_zero {sp qs : List (Int × Tok)} (hsp : nums sp = ordI 0) (hql : qs.length = 27) : VV sp qs 0 = nums qs := by
  show sp.map (fun p => (nums qs).getD p.1.toNat 0) = _
  have e : sp.map (fun p => (nums qs).getD p.1.toNat 0) = (nums sp).map (fun x => (nums qs).getD x.toNat 0) := by rw [List.map_map]; rfl
  rw [e, hsp, ordI_zero, List.map_map]
  exact map_range_getD (l := nums qs) (d := 0) (by rw [List.length_map]; exact hql)
theorem FF_all {sp qs : List (Int × Tok)} {lv : Int} (hsp : nums sp = ordI 0) (hql : qs.length = 27) (k : Nat) : FF sp qs lv k = bitsOf (reach (VV sp qs k) lv) 27 := by
  cases k with
  | zero => rw [VV_zero hsp hql]; rfl
  | succ k => exact FF_VV k
theorem g2N_len {k : Nat} (hk : k < 4) (gp qs : List (Int × Tok)) : (g2N k gp qs).length = 27 := by
  unfold g2N
  split
  · rw [takeAt_len, takeN, List.length_map, ordI_len hk]
  · rw [takeN, List.length_map, ordI_len hk]
theorem GG_len {sp qs : List (Int × Tok)} (hsp : nums sp = ordI 0) : ∀ k, k ≤ 4 → (GG sp qs k).length = 27
  | 0, _ => by have := congrArg List.length hsp; rw [List.length_map, ordI_len (by decide)] at this; exact this
  | k + 1, hk => by
    obtain ⟨h1, h2⟩ := pcsN_ok (k := k) (by omega)
    show (laidAll k qs (g2N k (GG sp qs k) qs) (pcsN k)).length = 27
    rw [laidAll_len' _ _ _ _ (fun q hq => by rw [g2N_len (by omega)]; exact (h1 q hq).1)]
    exact h2
/-- what is taken: the values in the order of the turn -/
theorem taken_vals {sp qs : List (Int × Tok)} (hsp : nums sp = ordI 0) {k : Nat} (hk : k < 4) :
    (g2N k (GG sp qs k) qs).map (valI (k + 1) (nums qs)) = (ordN k).map fun i => (VV sp qs k).getD i 0 := by
  have hl := GG_len (qs := qs) hsp k (by omega)
  have hd : ∀ i ∈ ordN k, i < 27 := fun i hi => by
    have := (ordI_dom hk (i : Int) (List.mem_map_of_mem hi)).2
    omega
  have hv : ∀ i ∈ ordN k, (VV sp qs k).getD i 0 = valI k (nums qs) ((GG sp qs k).getD i (0, 0)) := fun i hi => by
    have h1 : i < (GG sp qs k).length := by rw [hl]; exact hd i hi
    unfold VV
    rw [List.getD_eq_getElem?_getD, List.getD_eq_getElem?_getD, List.getElem?_map, List.getElem?_eq_getElem h1]
    rfl
  rw [List.map_congr_left hv]
  have et : takeN (GG sp qs k) (ordI k) = (ordN k).map fun i => (GG sp qs k).getD i (0, 0) := by
    unfold takeN ordI
    rw [List.map_map]
    rfl
  unfold g2N
  by_cases h2 : k = 2
  · subst h2
    rw [if_pos rfl, et]
    unfold takeAt
    rw [List.map_map, List.map_map]
    refine List.map_congr_left fun i _ => ?_
    show (qs.getD _ (0, 0)).1 = (nums qs).getD _ 0
    rw [getD_nums]
  · rw [if_neg h2, et, List.map_map]
    refine List.map_congr_left fun i _ => ?_
    show valI (k + 1) _ _ = valI k _ _
    unfold valI
    by_cases h3 : k ≤ 1
    · rw [if_pos (by omega), if_pos (by omega)]
    · rw [if_neg (by omega), if_neg (by omega)]
/-- a column laid: in order, and the same values -/
theorem lay_vals (k : Nat) (qs s : List (Int × Tok)) : ((layT k (nums qs) s).map (valI (k + 1) (nums qs))).Pairwise (· ≤ ·) ∧ ((layT k (nums qs) s).map (valI (k + 1) (nums qs))).Perm (s.map (valI (k + 1) (nums qs))) := by
  refine ⟨?_, (layT_perm k (nums qs) s).map _⟩
  rw [List.pairwise_map]
  have e1 : ∀ {p : Int × Tok}, valI 1 (nums qs) p = (nums qs).getD p.1.toNat 0 := rfl
  match k with
  | 0 => exact (layR_sorted (fun p => (nums qs).getD p.toNat 0) s).imp fun {a b} h => h
  | 1 => exact (layL_sorted (fun p => (nums qs).getD p.toNat 0) s).imp fun {a b} h => h
  | 2 => exact (layR_sorted id s).imp fun {a b} h => h
  | k + 3 =>
    exact (layL_sorted id s).imp fun {a b} h => by
      show valI (k + 3 + 1) _ a ≤ valI (k + 3 + 1) _ b
      unfold valI
      rw [if_neg (by omega), if_neg (by omega)]
      exact h
theorem flat_map {α β : Type} (f : α → β) {γ : Type} (g : γ → List α) : ∀ l : List γ, (l.flatMap g).map f = l.flatMap fun q => (g q).map f
  | [] => rfl
  | q :: r => by rw [List.flatMap_cons, List.map_append, flat_map f g r, List.flatMap_cons]
theorem perm_flat {α γ : Type} {f g : γ → List α} (h : ∀ q, (f q).Perm (g q)) : ∀ l : List γ, (l.flatMap f).Perm (l.flatMap g)
  | [] => List.Perm.refl _
  | q :: r => by rw [List.flatMap_cons, List.flatMap_cons]; exact (h q).append (perm_flat h r)
/-- pieces one behind the other -/
def Contig : Nat → List (Nat × Nat) → Prop
  | _, [] => True
  | a, q :: r => q.1 = a ∧ Contig (a + q.2) r
theorem contig_flat {α : Type} (l : List α) : ∀ (pc : List (Nat × Nat)) (a : Nat), Contig a pc → pc.flatMap (fun q => (l.drop q.1).take q.2) = (l.drop a).take (pc.map (·.2)).sum
  | [], a, _ => by simp
  | q :: r, a, h => by
    obtain ⟨h1, h2⟩ := h
    rw [List.flatMap_cons, contig_flat l r _ h2, List.map_cons, List.sum_cons, h1]
    rw [List.take_add, List.drop_drop]
theorem pcs_contig {k : Nat} (hk : k < 4) : Contig 0 (pcsN k) := by
  have : k = 0 ∨ k = 1 ∨ k = 2 ∨ k = 3 := by omega
  rcases this with rfl | rfl | rfl | rfl <;> simp [Contig, pcsN]
theorem pcs_flat {α : Type} {l : List α} (hl : l.length = 27) {k : Nat} (hk : k < 4) : (pcsN k).flatMap (fun q => (l.drop q.1).take q.2) = l := by
  rw [contig_flat l _ _ (pcs_contig hk), (pcsN_ok hk).2, List.drop_zero, List.take_of_length_le (by omega)]
/-- one turn, on bits -/
def permB (k : Nat) (b : List Bool) : List Bool := (ordN k).map fun i => b.getD i false
def stepB (k : Nat) (b : List Bool) : List Bool := (pcsN k).flatMap fun q => sortB (((permB k b).drop q.1).take q.2)
theorem bits_step {sp qs : List (Int × Tok)} (hsp : nums sp = ordI 0) {k : Nat} (hk : k < 4) (t : Int) : bitsAt t (VV sp qs (k + 1)) = stepB k (bitsAt t (VV sp qs k)) := by
  have hl := GG_len (qs := qs) hsp k (by omega)
  have hd : ∀ i ∈ ordN k, i < 27 := fun i hi => by
    have := (ordI_dom hk (i : Int) (List.mem_map_of_mem hi)).2
    omega
  show ((laidAll k qs (g2N k (GG sp qs k) qs) (pcsN k)).map (valI (k + 1) (nums qs))).map _ = _
  unfold laidAll stepB
  rw [flat_map, flat_map]
  congr 1
  funext q
  obtain ⟨h1, h2⟩ := lay_vals k qs (((g2N k (GG sp qs k) qs).drop q.1).take q.2)
  refine (bits_sorted (t := t) h2 h1).trans ?_
  congr 1
  unfold bitsAt permB
  rw [List.map_take, List.map_drop, taken_vals hsp hk, List.map_take, List.map_drop, List.map_map]
  congr 2
  refine List.map_congr_left fun i hi => ?_
  have h3 : i < (VV sp qs k).length := by unfold VV; rw [List.length_map, hl]; exact hd i hi
  show decide (t ≤ (VV sp qs k).getD i 0) = _
  rw [List.getD_eq_getElem?_getD, List.getD_eq_getElem?_getD, List.getElem?_map, List.getElem?_eq_getElem h3]
  rfl
theorem ordN_perm {k : Nat} (hk : k < 4) : (ordN k).Perm (List.range 27) := by
  have : k = 0 ∨ k = 1 ∨ k = 2 ∨ k = 3 := by omega
  rcases this with rfl | rfl | rfl | rfl <;> decide +kernel
theorem VV_perm {sp qs : List (Int × Tok)} (hsp : nums sp = ordI 0) {k : Nat} (hk : k < 4) : (VV sp qs (k + 1)).Perm (VV sp qs k) := by
  have hl : (VV sp qs k).length = 27 := by unfold VV; rw [List.length_map]; exact GG_len hsp k (by omega)
  show ((laidAll k qs (g2N k (GG sp qs k) qs) (pcsN k)).map (valI (k + 1) (nums qs))).Perm _
  unfold laidAll
  rw [flat_map]
  refine (perm_flat (fun (q : Nat × Nat) => (lay_vals k qs (((g2N k (GG sp qs k) qs).drop q.1).take q.2)).2) _).trans ?_
  have e : (fun q : Nat × Nat => (((g2N k (GG sp qs k) qs).drop q.1).take q.2).map (valI (k + 1) (nums qs))) = fun (q : Nat × Nat) => ((((ordN k).map fun i => (VV sp qs k).getD i 0).drop q.1).take q.2) := by
    funext q
    rw [List.map_take, List.map_drop, taken_vals hsp hk]
  rw [e, pcs_flat (by rw [List.length_map]; have := ordI_len hk; unfold ordI at this; rwa [List.length_map] at this) hk]
  have h := (ordN_perm hk).map fun i => (VV sp qs k).getD i 0
  rw [map_range_getD hl] at h
  exact h
theorem fin_perm {sp qs : List (Int × Tok)} (hsp : nums sp = ordI 0) (hql : qs.length = 27) : (nums (GG sp qs 4)).Perm (nums qs) := by
  have h := (((VV_perm (qs := qs) hsp (k := 3) (by decide)).trans (VV_perm hsp (k := 2) (by decide))).trans (VV_perm hsp (k := 1) (by decide))).trans (VV_perm hsp (k := 0) (by decide))
  rw [VV_zero hsp hql] at h
  exact h
end Mine
end

section
open PySem PySem.W PyProof.Rows
namespace Mine
theorem bitsOf_congr {f g : Nat → Bool} : ∀ {n : Nat}, (∀ j, j < n → f j = g j) → bitsOf f n = bitsOf g n
  | 0, _ => rfl
  | n + 1, h => by
    unfold bitsOf
    rw [bitsOf_congr (n := n) fun j hj => h j (by omega), h n (by omega)]
/-- a row of bits as a number -/
def NB (b : List Bool) : Nat := bitsOf (fun j => b.getD j false) 27
theorem NB_bit (b : List Bool) (j : Nat) : (NB b).testBit j = (decide (j < 27) && b.getD j false) := bitsOf_bit _ _ _
theorem reach_NB {l : List Int} (hl : l.length = 27) (lv : Int) : bitsOf (reach l lv) 27 = NB (bitsAt lv l) := by
  refine bitsOf_congr fun j hj => ?_
  have h : j < l.length := by omega
  unfold reach bitsAt
  rw [List.getD_eq_getElem?_getD, List.getD_eq_getElem?_getD, List.getElem?_map, List.getElem?_eq_getElem h]
  rfl
theorem ordN_len {k : Nat} (hk : k < 4) : (ordN k).length = 27 := by have := ordI_len hk; unfold ordI at this; rwa [List.length_map] at this
theorem permB_len {k : Nat} (hk : k < 4) (b : List Bool) : (permB k b).length = 27 := by unfold permB; rw [List.length_map, ordN_len hk]
theorem moved_NB {k : Nat} (hk : k < 4) (b : List Bool) : bitsOf (moved (NB b) (ordI k)) 27 = NB (permB k b) := by
  refine bitsOf_congr fun j hj => ?_
  have h : j < (ordN k).length := by rw [ordN_len hk]; exact hj
  have hd := ordI_dom hk ((ordN k)[j] : Int) (List.mem_map_of_mem (List.getElem_mem h))
  unfold moved permB
  have e1 : (ordI k).getD j 0 = ((ordN k)[j] : Int) := by
    unfold ordI
    rw [List.getD_eq_getElem?_getD, List.getElem?_map, List.getElem?_eq_getElem h]
    rfl
  rw [e1, NB_bit, Int.toNat_natCast, decide_eq_true (by omega), Bool.true_and]
  rw [List.getD_eq_getElem?_getD (l := List.map _ _), List.getElem?_map, List.getElem?_eq_getElem h]
  rfl
theorem filter_range (P : Nat → Bool) (z : Nat) : ∀ d, (List.range (z + d)).filter (fun j => decide (j < z) && P j) = (List.range z).filter P
  | 0 => by
    refine List.filter_congr fun j hj => ?_
    rw [decide_eq_true (show j < z from List.mem_range.mp hj), Bool.true_and]
  | d + 1 => by
    rw [← Nat.add_assoc, List.range_succ, List.filter_append, filter_range P z d]
    have : decide (z + d < z) = false := decide_eq_false (by omega)
    simp [this]
theorem slice_map {c : List Bool} {a z : Nat} (h : a + z ≤ c.length) : (c.drop a).take z = (List.range z).map fun j => c.getD (a + j) false := by
  apply List.ext_getElem
  · simp; omega
  · intro i h1 h2
    have h3 : i < z := by simpa using h2
    have h4 : a + i < c.length := by omega
    simp only [List.getElem_take, List.getElem_drop, List.getElem_map, List.getElem_range]
    rw [List.getD_eq_getElem?_getD, List.getElem?_eq_getElem h4]
    rfl
theorem field_bit (f a z j : Nat) : (field f a z).testBit j = (decide (j < z) && f.testBit (a + j)) := by
  unfold field
  rw [Nat.testBit_and, Nat.testBit_shiftRight, Nat.one_shiftLeft, Nat.testBit_two_pow_sub_one, Bool.and_comm]
theorem count_true : ∀ l : List Bool, l.count true = (l.filter fun x => x).length
  | [] => rfl
  | true :: r => by rw [List.count_cons_self, count_true r]; rfl
  | false :: r => by rw [List.count_cons_of_ne (by decide), count_true r]; rfl
theorem pops_field {c : List Bool} (hc : c.length = 27) {a z : Nat} (h : a + z ≤ 27) : pops (field (NB c) a z) 32 = ((c.drop a).take z).count true := by
  rw [slice_map (by omega), count_true, List.filter_map, List.length_map]
  unfold pops
  have e : 32 = z + (32 - z) := by omega
  rw [e]
  have := filter_range (fun j => c.getD (a + j) false) z (32 - z)
  rw [show (fun x => x) ∘ (fun j => c.getD (a + j) false) = fun j => c.getD (a + j) false from rfl, ← this]
  congr 1
  refine List.filter_congr fun j _ => ?_
  rw [field_bit, NB_bit]
  by_cases hj : j < z
  · rw [decide_eq_true hj, decide_eq_true (show a + j < 27 by omega)]; simp
  · rw [decide_eq_false hj]; simp
/-- a column of z with o ones, pressed -/
def colB (z o : Nat) : List Bool := List.replicate (z - o) false ++ List.replicate o true
theorem colB_len {z o : Nat} (h : o ≤ z) : (colB z o).length = z := by unfold colB; simp; omega
theorem colB_get {z o i : Nat} (h : o ≤ z) (hi : i < z) : (colB z o).getD i false = decide (z - o ≤ i) := by
  unfold colB
  rw [List.getD_eq_getElem?_getD, List.getElem?_append]
  split
  · rename_i h1
    rw [List.length_replicate] at h1
    rw [List.getElem?_replicate, if_pos h1, decide_eq_false (by omega)]
    rfl
  · rename_i h1
    rw [List.length_replicate] at h1 ⊢
    rw [List.getElem?_replicate, if_pos (by omega), decide_eq_true (by omega)]
    rfl
theorem count_both : ∀ l : List Bool, l.count false + l.count true = l.length
  | [] => rfl
  | true :: r => by rw [List.count_cons_self, List.count_cons_of_ne (by decide), List.length_cons, ← count_both r]; omega
  | false :: r => by rw [List.count_cons_self, List.count_cons_of_ne (by decide), List.length_cons, ← count_both r]; omega
theorem sortB_col {l : List Bool} {z : Nat} (h : l.length = z) : sortB l = colB z (l.count true) := by
  unfold sortB colB
  congr 2
  have := count_both l
  omega
theorem press_bits (f : Nat) (o : Nat × Nat → Nat) : ∀ (pc : List (Nat × Nat)) (a0 acc j : Nat), Contig a0 pc → (∀ q ∈ pc, pops (field f q.1 q.2) 32 = o q ∧ o q ≤ q.2) →
    (pc.foldl (fun acc q => acc ||| pressed f q.1 q.2) acc).testBit j = (acc.testBit j || (decide (a0 ≤ j) && (pc.flatMap fun q => colB q.2 (o q)).getD (j - a0) false))
  | [], a0, acc, j, _, _ => by simp
  | q :: r, a0, acc, j, hc, ho => by
    obtain ⟨h1, h2⟩ := hc
    obtain ⟨h3, h4⟩ := ho q (.head _)
    rw [List.foldl_cons, press_bits f o r _ _ j h2 (fun p hp => ho p (.tail _ hp)), Nat.testBit_or, Bool.or_assoc]
    congr 1
    unfold pressed
    rw [h3, h1, Nat.one_shiftLeft, Nat.testBit_shiftLeft, Nat.testBit_two_pow_sub_one, List.flatMap_cons]
    have hlen := colB_len h4
    by_cases c1 : a0 + q.2 ≤ j
    · have e1 : (colB q.2 (o q) ++ r.flatMap fun q => colB q.2 (o q)).getD (j - a0) false = (r.flatMap fun q => colB q.2 (o q)).getD (j - (a0 + q.2)) false := by
        rw [List.getD_eq_getElem?_getD, List.getD_eq_getElem?_getD, List.getElem?_append_right (by omega), hlen]
        congr 2
        omega
      rw [e1, decide_eq_true c1, decide_eq_true (show a0 ≤ j by omega), decide_eq_false (show ¬ j - (a0 + q.2 - o q) < o q by omega)]
      simp
    · rw [decide_eq_false c1, Bool.false_and, Bool.or_false]
      by_cases c2 : a0 ≤ j
      · have e1 : (colB q.2 (o q) ++ r.flatMap fun q => colB q.2 (o q)).getD (j - a0) false = decide (q.2 - o q ≤ j - a0) := by
          rw [List.getD_eq_getElem?_getD, List.getElem?_append_left (by omega), ← List.getD_eq_getElem?_getD]
          exact colB_get h4 (by omega)
        rw [e1, decide_eq_true c2, Bool.true_and]
        by_cases c3 : q.2 - o q ≤ j - a0
        · rw [decide_eq_true c3]
          simp
          omega
        · rw [decide_eq_false c3]
          simp
          omega
      · rw [decide_eq_false c2, Bool.false_and]
        simp
        omega
theorem press_flags {c : List Bool} (hc : c.length = 27) {k : Nat} (hk : k < 4) : pressAll (NB c) (pcsN k) = NB ((pcsN k).flatMap fun q => sortB ((c.drop q.1).take q.2)) := by
  obtain ⟨p1, p2⟩ := pcsN_ok hk
  have hlen : ∀ q ∈ pcsN k, ((c.drop q.1).take q.2).length = q.2 := fun q hq => by
    have := (p1 q hq).1
    rw [List.length_take, List.length_drop]; omega
  have ho : ∀ q ∈ pcsN k, pops (field (NB c) q.1 q.2) 32 = ((c.drop q.1).take q.2).count true ∧ ((c.drop q.1).take q.2).count true ≤ q.2 := fun q hq =>
    ⟨pops_field hc (p1 q hq).1, Nat.le_trans List.count_le_length (Nat.le_of_eq (hlen q hq))⟩
  have hfl : ((pcsN k).flatMap fun q => sortB ((c.drop q.1).take q.2)) = (pcsN k).flatMap fun q => colB q.2 (((c.drop q.1).take q.2).count true) := by
    rw [List.flatMap_def, List.flatMap_def, List.map_congr_left fun q hq => sortB_col (hlen q hq)]
  have hll : ((pcsN k).flatMap fun q => sortB ((c.drop q.1).take q.2)).length = 27 := by
    rw [(perm_flat (fun (q : Nat × Nat) => sortB_perm ((c.drop q.1).take q.2)) (pcsN k)).length_eq, pcs_flat hc hk, hc]
  refine Nat.eq_of_testBit_eq fun j => ?_
  unfold pressAll
  rw [press_bits (NB c) (fun q => ((c.drop q.1).take q.2).count true) (pcsN k) 0 0 j (pcs_contig hk) ho, NB_bit, hfl]
  rw [hfl] at hll
  simp only [Nat.zero_testBit, Bool.false_or, Nat.zero_le, decide_true, Bool.true_and, Nat.sub_zero]
  by_cases hj : j < 27
  · rw [decide_eq_true hj, Bool.true_and]
  · rw [decide_eq_false hj, Bool.false_and, List.getD_eq_getElem?_getD, List.getElem?_eq_none (by omega)]
    rfl
theorem VV_len {sp qs : List (Int × Tok)} (hsp : nums sp = ordI 0) {k : Nat} (hk : k ≤ 4) : (VV sp qs k).length = 27 := by unfold VV; rw [List.length_map]; exact GG_len hsp k hk
theorem flags_step {sp qs : List (Int × Tok)} {lv : Int} (hsp : nums sp = ordI 0) (hql : qs.length = 27) {k : Nat} (hk : k < 4) :
    pressAll (bitsOf (moved (FF sp qs lv k) (ordI k)) 27) (pcsN k) = FF sp qs lv (k + 1) := by
  rw [FF_all hsp hql, FF_all hsp hql, reach_NB (VV_len hsp (by omega)), reach_NB (VV_len hsp (by omega)), moved_NB hk, press_flags (permB_len hk _) hk, bits_step hsp hk]
  rfl
theorem taken_perm {k : Nat} (hk : k < 4) {gp : List (Int × Tok)} (hl : gp.length = 27) : (takeN gp (ordI k)).Perm gp := by
  have et : takeN gp (ordI k) = (ordN k).map fun i => gp.getD i (0, 0) := by
    unfold takeN ordI
    rw [List.map_map]
    rfl
  have h := (ordN_perm hk).map fun i => gp.getD i (0, 0)
  rw [map_range_getD hl] at h
  rw [et]
  exact h
theorem GG_perm {sp qs : List (Int × Tok)} (hsp : nums sp = ordI 0) : ∀ k, k ≤ 2 → (GG sp qs k).Perm sp
  | 0, _ => List.Perm.refl _
  | k + 1, hk => by
    have ih := GG_perm (qs := qs) hsp k (by omega)
    have hl := GG_len (qs := qs) hsp k (by omega)
    show (laidAll k qs (g2N k (GG sp qs k) qs) (pcsN k)).Perm sp
    have eg : g2N k (GG sp qs k) qs = takeN (GG sp qs k) (ordI k) := if_neg (by omega)
    unfold laidAll
    refine (perm_flat (fun (q : Nat × Nat) => layT_perm k (nums qs) (((g2N k (GG sp qs k) qs).drop q.1).take q.2)) _).trans ?_
    rw [pcs_flat (g2N_len (by omega) _ _) (by omega), eg]
    exact (taken_perm (by omega) hl).trans ih
theorem plan {sp qs : List (Int × Tok)} {lv : Int} {tk : Nat} (hsp : nums sp = ordI 0) (hto : TokOk sp tk) (hql : qs.length = 27) : Plan sp qs lv := by
  have hp : ∀ k, k ≤ 2 → (takeN (GG sp qs k) (ordI k)).Perm sp := fun k hk => (taken_perm (by omega) (GG_len hsp k (by omega))).trans (GG_perm hsp k hk)
  refine ⟨fun k hk => GG_len hsp k (by omega), fun k hk p hm => ?_, fun k hk p hm => ?_, fun k hk => ?_, fun k hk => flags_step hsp hql hk⟩
  · have : p.1 ∈ nums sp := List.mem_map_of_mem ((hp k (by omega)).mem_iff.mp hm)
    rw [hsp] at this
    exact ordI_dom (by decide) _ this
  · have h1 := (hp k (by omega)).mem_iff.mp hm
    refine ⟨Nat.ne_of_gt (hto.lt p h1).1, fun q hq e => ?_⟩
    have h2 := (hp k (by omega)).mem_iff.mp hq
    obtain ⟨i, hi, rfl⟩ := List.mem_iff_getElem.mp h1
    obtain ⟨j, hj, rfl⟩ := List.mem_iff_getElem.mp h2
    rcases Nat.lt_trichotomy i j with hl | rfl | hl
    · exact absurd e (List.pairwise_iff_getElem.mp hto.ne i j hi hj hl)
    · rfl
    · exact absurd e.symm (List.pairwise_iff_getElem.mp hto.ne j i hj hi hl)
  · have h1 : (nums (takeN (GG sp qs k) (ordI k))).Perm (nums sp) := (hp k (by omega)).map _
    rw [hsp] at h1
    exact h1.nodup_iff.mpr (by decide)
end Mine
end

section
open PySem PySem.W PyProof.Rows
set_option maxRecDepth 100000
namespace Mine
/-- three columns pressed -/
def cols (a b c : Nat) : List Bool := colB 9 a ++ (colB 9 b ++ colB 9 c)
def cnt3 (l : List Bool) (a : Nat) : Nat := ((l.drop a).take 9).count true
theorem stepB_cols {k : Nat} (hk : k < 3) (b : List Bool) : stepB k b = cols (cnt3 (permB k b) 0) (cnt3 (permB k b) 9) (cnt3 (permB k b) 18) := by
  have hl := permB_len (k := k) (by omega) b
  have hp : pcsN k = [(0, 9), (9, 9), (18, 9)] := by
    have : k = 0 ∨ k = 1 ∨ k = 2 := by omega
    rcases this with rfl | rfl | rfl <;> rfl
  have hs : ∀ a, a + 9 ≤ 27 → sortB (((permB k b).drop a).take 9) = colB 9 (cnt3 (permB k b) a) := fun a ha => sortB_col (by rw [List.length_take, List.length_drop]; omega)
  unfold stepB
  rw [hp, List.flatMap_cons, List.flatMap_cons, List.flatMap_cons, List.flatMap_nil, List.append_nil]
  dsimp only
  rw [hs 0 (by omega), hs 9 (by omega), hs 18 (by omega)]
  rfl
theorem cnt3_le (l : List Bool) (a : Nat) : cnt3 l a < 10 := by
  unfold cnt3
  have h1 := List.count_le_length (a := true) (l := (l.drop a).take 9)
  rw [List.length_take] at h1
  omega
/-- after the first two turns the columns' ones differ by three at most -/
def near (a b c : Nat) : Bool := Nat.ble a b && (Nat.ble b c && Nat.ble c (a + 3))
def third (l : List Bool) (i : Nat) : List Bool := [l.getD i false, l.getD (3 + i) false, l.getD (6 + i) false]
theorem col_third : ∀ o, o < 10 → ∀ i, i < 3 → (third (colB 9 o) i).count true = (o + i) / 3 := by decide
theorem deal_cnt : ∀ (A B C : List Bool), A.length = 9 → B.length = 9 → C.length = 9 → ∀ i, i < 3 → cnt3 (permB 1 (A ++ (B ++ C))) (9 * i) = (third A i).count true + ((third B i).count true + (third C i).count true)
  | [a0, a1, a2, a3, a4, a5, a6, a7, a8], [b0, b1, b2, b3, b4, b5, b6, b7, b8], [c0, c1, c2, c3, c4, c5, c6, c7, c8], _, _, _, i, hi => by
    have key : ((permB 1 ([a0, a1, a2, a3, a4, a5, a6, a7, a8] ++ ([b0, b1, b2, b3, b4, b5, b6, b7, b8] ++ [c0, c1, c2, c3, c4, c5, c6, c7, c8]))).drop (9 * i)).take 9 = third [a0, a1, a2, a3, a4, a5, a6, a7, a8] i ++ (third [b0, b1, b2, b3, b4, b5, b6, b7, b8] i ++ third [c0, c1, c2, c3, c4, c5, c6, c7, c8] i) := by
      have : i = 0 ∨ i = 1 ∨ i = 2 := by omega
      rcases this with rfl | rfl | rfl <;> rfl
    unfold cnt3
    rw [key, List.count_append, List.count_append]
theorem deal_near {a b c : Nat} (ha : a < 10) (hb : b < 10) (hc : c < 10) : cnt3 (permB 1 (cols a b c)) 0 = a / 3 + (b / 3 + c / 3) ∧ cnt3 (permB 1 (cols a b c)) 9 = (a + 1) / 3 + ((b + 1) / 3 + (c + 1) / 3) ∧ cnt3 (permB 1 (cols a b c)) 18 = (a + 2) / 3 + ((b + 2) / 3 + (c + 2) / 3) := by
  have h := deal_cnt (colB 9 a) (colB 9 b) (colB 9 c) (colB_len (by omega)) (colB_len (by omega)) (colB_len (by omega))
  have h0 := h 0 (by decide)
  have h1 := h 1 (by decide)
  have h2 := h 2 (by decide)
  rw [col_third a ha 0 (by decide), col_third b hb 0 (by decide), col_third c hc 0 (by decide)] at h0
  rw [col_third a ha 1 (by decide), col_third b hb 1 (by decide), col_third c hc 1 (by decide)] at h1
  rw [col_third a ha 2 (by decide), col_third b hb 2 (by decide), col_third c hc 2 (by decide)] at h2
  exact ⟨h0, h1, h2⟩
def risesB : List Bool → Bool
  | [] => true
  | true :: r => r.all (fun x => x) && risesB r
  | false :: r => risesB r
theorem risesB_iff : ∀ {l : List Bool}, risesB l = true → l.Pairwise fun a b => a = true → b = true
  | [], _ => List.Pairwise.nil
  | true :: r, h => by
    unfold risesB at h
    rw [Bool.and_eq_true] at h
    exact List.pairwise_cons.mpr ⟨fun b hb _ => List.all_eq_true.mp h.1 b hb, risesB_iff h.2⟩
  | false :: r, h => by
    unfold risesB at h
    exact List.pairwise_cons.mpr ⟨fun b hb e => (nomatch e), risesB_iff h⟩
def row3 (l : List Bool) (i : Nat) : List Bool := [l.getD (3 * i) false, l.getD (3 * i + 1) false, l.getD (3 * i + 2) false]
theorem col_row : ∀ o, o < 10 → ∀ i, i < 3 → (row3 (colB 9 o) i).count true = min 3 (o - (6 - 3 * i)) := by decide
theorem count9 (a b c d e f g h i : Bool) : [a, b, c, d, e, f, g, h, i].count true = [a, d, g].count true + ([b, e, h].count true + [c, f, i].count true) := by
  simp only [List.count_cons, List.count_nil]
  ac_rfl
theorem back_cnt : ∀ (A B C : List Bool), A.length = 9 → B.length = 9 → C.length = 9 → ∀ i, i < 3 → cnt3 (permB 2 (A ++ (B ++ C))) (9 * i) = (row3 A i).count true + ((row3 B i).count true + (row3 C i).count true)
  | [a0, a1, a2, a3, a4, a5, a6, a7, a8], [b0, b1, b2, b3, b4, b5, b6, b7, b8], [c0, c1, c2, c3, c4, c5, c6, c7, c8], _, _, _, i, hi => by
    have h : i = 0 ∨ i = 1 ∨ i = 2 := by omega
    rcases h with rfl | rfl | rfl
    · exact count9 a0 b0 c0 a1 b1 c1 a2 b2 c2
    · exact count9 a3 b3 c3 a4 b4 c4 a5 b5 c5
    · exact count9 a6 b6 c6 a7 b7 c7 a8 b8 c8
theorem back_near {a b c : Nat} (ha : a < 10) (hb : b < 10) (hc : c < 10) : cnt3 (permB 2 (cols a b c)) 0 = min 3 (a - 6) + (min 3 (b - 6) + min 3 (c - 6)) ∧ cnt3 (permB 2 (cols a b c)) 9 = min 3 (a - 3) + (min 3 (b - 3) + min 3 (c - 3)) ∧ cnt3 (permB 2 (cols a b c)) 18 = min 3 a + (min 3 b + min 3 c) := by
  have h := back_cnt (colB 9 a) (colB 9 b) (colB 9 c) (colB_len (by omega)) (colB_len (by omega)) (colB_len (by omega))
  have h0 := h 0 (by decide)
  have h1 := h 1 (by decide)
  have h2 := h 2 (by decide)
  rw [col_row a ha 0 (by decide), col_row b hb 0 (by decide), col_row c hc 0 (by decide)] at h0
  rw [col_row a ha 1 (by decide), col_row b hb 1 (by decide), col_row c hc 1 (by decide)] at h1
  rw [col_row a ha 2 (by decide), col_row b hb 2 (by decide), col_row c hc 2 (by decide)] at h2
  exact ⟨h0, h1, h2⟩
def lastB (b : List Bool) : List Bool := sortB (b.take 5) ++ (sortB ((b.drop 5).take 9) ++ (sortB ((b.drop 14).take 9) ++ sortB ((b.drop 23).take 4)))
theorem stepB_last {b : List Bool} (h : b.length = 27) : stepB 3 b = lastB b := by
  have e : permB 3 b = b := map_range_getD h
  unfold stepB lastB
  rw [e]
  show sortB ((b.drop 0).take 5) ++ (_ ++ (_ ++ (_ ++ []))) = _
  rw [List.append_nil, List.drop_zero]
theorem cols_len {a b c : Nat} (ha : a < 10) (hb : b < 10) (hc : c < 10) : (cols a b c).length = 27 := by
  unfold cols
  rw [List.length_append, List.length_append, colB_len (by omega), colB_len (by omega), colB_len (by omega)]
def lastOk (a d e : Nat) : Bool := risesB (lastB (cols (min 3 (a - 6) + (min 3 (a + d - 6) + min 3 (a + d + e - 6))) (min 3 (a - 3) + (min 3 (a + d - 3) + min 3 (a + d + e - 3))) (min 3 a + (min 3 (a + d) + min 3 (a + d + e)))))
theorem last_all : ∀ d, d < 4 → ∀ e, e < 4 - d → ∀ a, a < 10 - d - e → lastOk a d e = true := by decide +kernel
theorem third_le (a : Nat) : a / 3 ≤ (a + 1) / 3 ∧ (a + 1) / 3 ≤ (a + 2) / 3 ∧ (a + 2) / 3 ≤ a / 3 + 1 := by omega
theorem add_three (a b c : Nat) : a + 1 + (b + 1 + (c + 1)) = a + (b + c) + 3 := by omega
theorem rises4 (b : List Bool) : (stepB 3 (stepB 2 (stepB 1 (stepB 0 b)))).Pairwise fun a b => a = true → b = true := by
  rw [stepB_cols (k := 0) (by decide) b]
  have h1 := cnt3_le (permB 0 b) 0
  have h2 := cnt3_le (permB 0 b) 9
  have h3 := cnt3_le (permB 0 b) 18
  generalize cnt3 (permB 0 b) 0 = x at *
  generalize cnt3 (permB 0 b) 9 = y at *
  generalize cnt3 (permB 0 b) 18 = z at *
  rw [stepB_cols (k := 1) (by decide)]
  obtain ⟨e1, e2, e3⟩ := deal_near h1 h2 h3
  have h4 := cnt3_le (permB 1 (cols x y z)) 0
  have h5 := cnt3_le (permB 1 (cols x y z)) 9
  have h6 := cnt3_le (permB 1 (cols x y z)) 18
  have n1 : cnt3 (permB 1 (cols x y z)) 0 ≤ cnt3 (permB 1 (cols x y z)) 9 := by
    rw [e1, e2]
    exact Nat.add_le_add (third_le x).1 (Nat.add_le_add (third_le y).1 (third_le z).1)
  have n2 : cnt3 (permB 1 (cols x y z)) 9 ≤ cnt3 (permB 1 (cols x y z)) 18 := by
    rw [e2, e3]
    exact Nat.add_le_add (third_le x).2.1 (Nat.add_le_add (third_le y).2.1 (third_le z).2.1)
  have n3 : cnt3 (permB 1 (cols x y z)) 18 ≤ cnt3 (permB 1 (cols x y z)) 0 + 3 := by
    rw [e3, e1, ← add_three]
    exact Nat.add_le_add (third_le x).2.2 (Nat.add_le_add (third_le y).2.2 (third_le z).2.2)
  clear e1 e2 e3
  generalize cnt3 (permB 1 (cols x y z)) 0 = p at *
  generalize cnt3 (permB 1 (cols x y z)) 9 = q at *
  generalize cnt3 (permB 1 (cols x y z)) 18 = r at *
  rw [stepB_cols (k := 2) (by decide)]
  obtain ⟨e1, e2, e3⟩ := back_near h4 h5 h6
  have h7 := cnt3_le (permB 2 (cols p q r)) 0
  have h8 := cnt3_le (permB 2 (cols p q r)) 9
  have h9 := cnt3_le (permB 2 (cols p q r)) 18
  rw [stepB_last (cols_len h7 h8 h9), e1, e2, e3]
  clear h1 h2 h3 e1 e2 e3 h7 h8 h9
  have hl := last_all (q - p) (by omega) (r - q) (by omega) p (by omega)
  unfold lastOk at hl
  rw [show p + (q - p) = q by omega, show q + (r - q) = r by omega] at hl
  exact risesB_iff hl
end Mine
end

section
open PySem PySem.W PyProof.Rows
set_option maxRecDepth 100000
namespace Mine
theorem bits4 {sp qs : List (Int × Tok)} (hsp : nums sp = ordI 0) (t : Int) : (bitsAt t (VV sp qs 4)).Pairwise fun a b => a = true → b = true := by
  rw [bits_step hsp (k := 3) (by decide), bits_step hsp (k := 2) (by decide), bits_step hsp (k := 1) (by decide), bits_step hsp (k := 0) (by decide)]
  exact rises4 _
theorem rises_sorted {l : List Int} (h : ∀ t, (bitsAt t l).Pairwise fun a b => a = true → b = true) : l.Pairwise (· ≤ ·) := by
  refine List.pairwise_iff_getElem.mpr fun i j hi hj hij => ?_
  have h := List.pairwise_iff_getElem.mp (h l[i]) i j (by unfold bitsAt; rw [List.length_map]; exact hi) (by unfold bitsAt; rw [List.length_map]; exact hj) hij
  unfold bitsAt at h
  rw [List.getElem_map, List.getElem_map] at h
  exact of_decide_eq_true (h (decide_eq_true (Int.le_refl _)))
theorem VV_four (sp qs : List (Int × Tok)) : VV sp qs 4 = nums (GG sp qs 4) := List.map_congr_left fun p _ => if_neg (by decide)
theorem fin_sorted {sp qs : List (Int × Tok)} (hsp : nums sp = ordI 0) (_hql : qs.length = 27) : (nums (GG sp qs 4)).Pairwise (· ≤ ·) := by
  rw [← VV_four]
  exact rises_sorted (bits4 hsp)
theorem cnt_bits (t : Int) : ∀ l : List Int, (bitsAt t l).count true = (l.filter fun a => decide (t ≤ a)).length
  | [] => rfl
  | a :: r => by
    have ih := cnt_bits t r
    unfold bitsAt at *
    rw [List.map_cons]
    by_cases h : t ≤ a
    · rw [decide_eq_true h, List.count_cons_self, ih, List.filter_cons_of_pos (by simpa using h), List.length_cons]
    · rw [decide_eq_false h, List.count_cons_of_ne (by decide), ih, List.filter_cons_of_neg (by simpa using h)]
theorem top_names : ∀ c, c < 28 → ((List.range 32).filter fun j => decide (j < 27) && decide (27 - c ≤ j)) = (List.range 27).drop (27 - c) := by decide
theorem fin_names {sp qs : List (Int × Tok)} {lv : Int} (hsp : nums sp = ordI 0) (hql : qs.length = 27) (hlv : lv ∈ nums qs) : prettyNames (FF sp qs lv 4) = ((List.range 27).map flagName).drop (27 - ((nums qs).filter fun a => decide (lv ≤ a)).length) := by
  have hl4 := VV_len (qs := qs) hsp (k := 4) (by decide)
  have hp : (VV sp qs 4).Perm (nums qs) := by rw [VV_four]; exact fin_perm hsp hql
  have hbl : (bitsAt lv (VV sp qs 4)).length = 27 := by unfold bitsAt; rw [List.length_map, hl4]
  have hc : (bitsAt lv (VV sp qs 4)).count true = ((nums qs).filter fun a => decide (lv ≤ a)).length := by
    rw [cnt_bits]
    exact (hp.filter _).length_eq
  have hb : bitsAt lv (VV sp qs 4) = colB 27 ((nums qs).filter fun a => decide (lv ≤ a)).length := by
    rw [← hc, ← sortB_col hbl]
    exact rises_eq (sortB_perm _).symm (bits4 hsp lv) (sortB_rises _)
  have hpos : 0 < ((nums qs).filter fun a => decide (lv ≤ a)).length := List.length_pos_of_mem (List.mem_filter.mpr ⟨hlv, by simp⟩)
  have hle : ((nums qs).filter fun a => decide (lv ≤ a)).length ≤ 27 := by
    rw [← hc, ← hbl]
    exact List.count_le_length
  have hf : FF sp qs lv 4 = NB (colB 27 ((nums qs).filter fun a => decide (lv ≤ a)).length) := by
    rw [FF_all hsp hql, reach_NB hl4, hb]
  rw [hf]
  generalize ((nums qs).filter fun a => decide (lv ≤ a)).length = c at *
  have hbit : ∀ j, (NB (colB 27 c)).testBit j = (decide (j < 27) && decide (27 - c ≤ j)) := fun j => by
    rw [NB_bit]
    by_cases hj : j < 27
    · rw [colB_get hle hj]
    · rw [decide_eq_false hj, Bool.false_and, Bool.false_and]
  have hne : NB (colB 27 c) ≠ 0 := fun e => by
    have := hbit 26
    rw [e, Nat.zero_testBit, decide_eq_true (by decide), decide_eq_true (by omega)] at this
    cases this
  unfold prettyNames fnames
  rw [if_neg hne, List.filter_congr (fun j _ => hbit j), top_names c (by omega), List.map_drop]
theorem split_filter (P : Int → Bool) {ns : List Int} {r : Nat} (hle : r ≤ ns.length) (lo : ∀ j, j < r → P (ns.getD j 0) = false) (hi : ∀ j, r ≤ j → j < ns.length → P (ns.getD j 0) = true) : (ns.filter P).length = ns.length - r := by
  have e : ns = ns.take r ++ ns.drop r := (List.take_append_drop r ns).symm
  have h1 : (ns.take r).filter P = [] := by
    rw [List.filter_eq_nil_iff]
    intro a ha
    obtain ⟨j, hj, rfl⟩ := List.mem_iff_getElem.mp ha
    rw [List.length_take] at hj
    have := lo j (by omega)
    rw [List.getD_eq_getElem?_getD, List.getElem?_eq_getElem (by omega)] at this
    rw [List.getElem_take]
    simpa using this
  have h2 : (ns.drop r).filter P = ns.drop r := by
    rw [List.filter_eq_self]
    intro a ha
    obtain ⟨j, hj, rfl⟩ := List.mem_iff_getElem.mp ha
    rw [List.length_drop] at hj
    have := hi (r + j) (by omega) (by omega)
    rw [List.getD_eq_getElem?_getD, List.getElem?_eq_getElem (by omega)] at this
    rw [List.getElem_drop]
    simpa using this
  have h3 : (ns.filter P).length = ((ns.take r ++ ns.drop r).filter P).length := by rw [← e]
  rw [h3, List.filter_append, h1, h2, List.nil_append, List.length_drop]
theorem fin_left {ns qs : List Int} {lv : Int} (hp : ns.Perm qs) (hl : qs.length = 27) {r : Nat} (h : PosL id ns lv r) : r = 27 - (qs.filter fun a => decide (lv ≤ a)).length := by
  have h1 := split_filter (fun a => decide (lv ≤ a)) h.le (fun j hj => decide_eq_false (by have := h.lo j hj; simp only [id] at this; omega)) (fun j hj hj2 => decide_eq_true (by have := h.hi j hj hj2; simpa using this))
  rw [(hp.filter _).length_eq, hp.length_eq, hl] at h1
  have := h.le
  rw [hp.length_eq, hl] at this
  omega
theorem ge_split (lv : Int) : ∀ l : List Int, (l.filter fun a => decide (lv ≤ a)).length = (l.filter fun a => decide (lv < a)).length + l.count lv
  | [] => rfl
  | a :: r => by
    have ih := ge_split lv r
    rw [List.filter_cons, List.filter_cons, List.count_cons]
    rcases Int.lt_trichotomy lv a with h | h | h
    · rw [if_pos (by simp; omega), if_pos (by simp; omega), if_neg (by simp; omega), List.length_cons, List.length_cons]; omega
    · rw [if_pos (by simp; omega), if_neg (by simp; omega), if_pos (by simp; omega), List.length_cons]; omega
    · rw [if_neg (by simp; omega), if_neg (by simp; omega), if_neg (by simp; omega)]; omega
theorem fin_right {ns qs : List Int} {lv : Int} (hp : ns.Perm qs) (hl : qs.length = 27) {r : Nat} (h : PosR id ns lv r) : r = 27 - (qs.filter fun a => decide (lv ≤ a)).length + qs.count lv := by
  have h1 := split_filter (fun a => decide (lv < a)) h.le (fun j hj => decide_eq_false (by have := h.lo j hj; simp only [id] at this; omega)) (fun j hj hj2 => decide_eq_true (by have := h.hi j hj hj2; simpa using this))
  rw [(hp.filter _).length_eq, hp.length_eq, hl] at h1
  have h2 := h.le
  rw [hp.length_eq, hl] at h2
  have h3 := ge_split lv qs
  have h4 := List.length_filter_le (fun a => decide (lv ≤ a)) qs
  omega
end Mine
end

section
open PySem PySem.W PyProof.Rows
open PySem.Calls PySem.Spec
namespace Mine
set_option maxRecDepth 100000 in
set_option maxHeartbeats 4000000 in
theorem law_there {w : World} {loose : List Str} {mean : ExcName → Option Value} {mg mb : Str → Option Value} {g : Heap} {L fa : Addr} {cd : Value} {s : Shared} {E : Value → Shared → Prop} {Q : Flow → Shared → Prop}
    {m0 : Str → Option Value} {rest : List (Addr × Obj)} {Ds : Addr} {sp : List (Int × Tok)} {nS : Nat}
    (X : (hd.heap_39 w.params).In g) (T : Top topProg loose mean mg mb g)
    (F : Fr g L s.heap (fun y => if y = "stay" then some (.ref Ds) else m0 y))
    (N : News g L s.heap rest) (mS : (Ds, listOf (tInts sp).toArray nS) ∈ rest) (spl : sp.length = 27)
    (hQ : ∀ h' tk Dt Db th nb, s.toks + 189 ≤ tk → nums th = (List.range 27).map (fun k : Nat => ((9 * (k % 3) + k / 3 : Nat) : Int)) → Fr g L h' (fun y => if y = "there" then some (.ref Dt) else if y = "back" then some (.ref Db) else if y = "stay" then some (.ref Ds) else m0 y) →
      News g L h' ((Db, listOf (tInts th).toArray nb) :: (Dt, listOf (tInts (pickP sp [0, 3, 6, 9, 12, 15, 18, 21, 24, 1, 4, 7, 10, 13, 16, 19, 22, 25, 2, 5, 8, 11, 14, 17, 20, 23, 26])).toArray 0) :: rest) → (∀ p ∈ rest, p.1 < Dt) → (∀ p ∈ rest, p.1 < Db) →
      wpAny (model pw w) (callerA.deeper (lawEnv (hd.heap_39 w.params) L fa cd)) (execs (bodyIn (hd.heap_39 w.params) 154 8) (lawEnv (hd.heap_39 w.params) L fa cd)) Q E { s with heap := h', toks := tk }) :
    wpAny (model pw w) (callerA.deeper (lawEnv (hd.heap_39 w.params) L fa cd)) (execs (bodyIn (hd.heap_39 w.params) 154 7) (lawEnv (hd.heap_39 w.params) L fa cd)) Q E s := by
  refine' at_def (K := hd.heap_39 w.params) (f := 154) ?ho ?_
  case ho => k_is
  intro eb es
  unfold lawEnv
  rw [eb, es]
  show wpAny _ _ (execs (Stmt.Assign _ _ _ :: _) _) _ _ _
  clear eb es
  replace N := news_pull N mS
  repeat' ((fail_if_success (with_reducible show wpAny _ _ (subscriptTail _ _ _ _) _ _ _)); (first | k_unfold | walk1 | (dsimp only; walk1)))
  rename Fr _ _ _ _ => F16
  rename News _ _ _ _ => N16
  refine PyProof.Rows.slice_list3 (items := (tInts sp).toArray) (lo := some 0) (hi := none) (st := some 3) F16 N16 (news_list N16 (.head _)) (IsPart.int _ _) IsPart.none (IsPart.int _ _) (by decide) ?_ (hsz := by rw [List.size_toArray, List.length_map, spl, sizeLine_eq]; decide)
  intro h20 F17 N17
  rw [slice3_27 spl, slice_0] at N17
  generalize hDa : s.heap.objs.size + 1 = Da at *
  have lDa : ∀ p ∈ (Ds, listOf (tInts sp).toArray nS) :: rest, p.1 < Da := fun p hp => hDa ▸ Nat.lt_succ_of_lt (Heap.lt_size (N16 p hp).1)
  repeat' ((fail_if_success (with_reducible show wpAny _ _ (subscriptTail _ _ _ _) _ _ _)); (first | k_unfold | walk1 | (dsimp only; walk1)))
  rename Fr _ _ _ _ => F18
  rename News _ _ _ _ => N18
  refine PyProof.Rows.slice_list3 (items := (tInts sp).toArray) (lo := some 1) (hi := none) (st := some 3) F18 N18 (news_list N18 (.tail _ (.head _))) (IsPart.int _ _) IsPart.none (IsPart.int _ _) (by decide) ?_ (hsz := by rw [List.size_toArray, List.length_map, spl, sizeLine_eq]; decide)
  intro h21 F19 N19
  rw [slice3_27 spl, slice_1] at N19
  repeat' ((fail_if_success (with_reducible show wpAny _ _ (binaryOp _ _ _) _ _ _)); (first | k_unfold | walk1 | (dsimp only; walk1)))
  refine add_lists (n := 0) (n2 := 0) F19 N19 (.tail _ (.head _)) (.head _) (by rw [List.length_map, List.length_map]; unfold pickP; have h1 := List.length_filterMap_le (fun k => sp[k]?) [0, 3, 6, 9, 12, 15, 18, 21, 24]; have h2 := List.length_filterMap_le (fun k => sp[k]?) [1, 4, 7, 10, 13, 16, 19, 22, 25]; simp at h1 h2; omega) ?_
  intro D22 h22 F22 N22 l22
  rw [← List.map_append, pickP_app] at N22
  replace N22 := news_sub N22 (b := (D22, listOf (tInts (pickP sp ([0, 3, 6, 9, 12, 15, 18, 21, 24] ++ [1, 4, 7, 10, 13, 16, 19, 22, 25]))).toArray 0) :: (Ds, listOf (tInts sp).toArray nS) :: rest) (fun p hp => by
    rcases List.mem_cons.mp hp with rfl | hp
    · exact .head _
    · exact .tail _ (.tail _ (.tail _ hp)))
  repeat' ((fail_if_success (with_reducible show wpAny _ _ (subscriptTail _ _ _ _) _ _ _)); (first | k_unfold | walk1 | (dsimp only; walk1)))
  rename Fr _ _ _ _ => F23
  rename News _ _ _ _ => N23
  refine PyProof.Rows.slice_list3 (items := (tInts sp).toArray) (lo := some 2) (hi := none) (st := some 3) F23 N23 (news_list N23 (.tail _ (.head _))) (IsPart.int _ _) IsPart.none (IsPart.int _ _) (by decide) ?_ (hsz := by rw [List.size_toArray, List.length_map, spl, sizeLine_eq]; decide)
  intro h24 F24 N24
  rw [slice3_27 spl, slice_2] at N24
  repeat' ((fail_if_success (with_reducible show wpAny _ _ (binaryOp _ _ _) _ _ _)); (first | k_unfold | walk1 | (dsimp only; walk1)))
  refine add_lists (n := 0) (n2 := 0) F24 N24 (.tail _ (.head _)) (.head _) (by rw [List.length_map, List.length_map]; unfold pickP; have h1 := List.length_filterMap_le (fun k => sp[k]?) ([0, 3, 6, 9, 12, 15, 18, 21, 24] ++ [1, 4, 7, 10, 13, 16, 19, 22, 25]); have h2 := List.length_filterMap_le (fun k => sp[k]?) [2, 5, 8, 11, 14, 17, 20, 23, 26]; simp at h1 h2 ⊢; omega) ?_
  intro Dt h25 F25 N25 l25
  rw [← List.map_append, pickP_app] at N25
  have lt : ∀ p ∈ rest, p.1 < Dt := fun p hp => l25 p (.tail _ (.tail _ (.tail _ hp)))
  replace N25 := news_sub N25 (b := (Dt, listOf (tInts (pickP sp ([0, 3, 6, 9, 12, 15, 18, 21, 24] ++ [1, 4, 7, 10, 13, 16, 19, 22, 25] ++ [2, 5, 8, 11, 14, 17, 20, 23, 26]))).toArray 0) :: rest) (fun p hp => by
    rcases List.mem_cons.mp hp with rfl | hp
    · exact .head _
    · exact .tail _ (.tail _ (.tail _ (.tail _ hp))))
  repeat' ((fail_if_success (with_reducible show wpAny _ _ (eval (Expr.ListComp _ _ _ _) _) _ _ _)); (first | k_unfold | walk1 | (dsimp only; walk1)))
  dsimp only
  refine gen_toks fun tkB htkB => ?_
  show wpAny _ _ _ _ _ _
  clear l22 l25
  refine comp_start rfl rfl (by decide) ?_
  repeat' ((fail_if_success (with_reducible show wpAny _ _ (call (Value.type _) _ _) _ _ _)); (first | k_unfold | walk1 | (dsimp only; walk1)))
  refine call_range_1 ?_
  dsimp only
  rename Fr _ _ _ _ => F26
  rename News _ _ _ _ => N26
  refine comp_range (n := 27) (a := 0) (b := 27) (fun vs ys tk => ∃ ps : List (Int × Tok), ys = tInts ps ∧ nums ps = (List.range vs.length).map (fun k : Nat => ((9 * (k % 3) + k / 3 : Nat) : Int)) ∧ tkB + 7 * vs.length ≤ tk) ?mono rfl (by rw [sizeLine_eq]; decide) (by decide) rfl rfl (IsRange.new _ _ _ _ _ _ _) (by decide) (by decide) (by decide) (by decide) (by decide) (F26.push _) (fun p hp => ⟨Heap.get?_push_of_some _ (N26 p hp).1, (N26 p hp).2⟩) ?h0 ?elt ?fin
  case mono => rintro vs ys a b ⟨ps, h1, h2, h3⟩ hab; exact ⟨ps, h1, h2, Nat.le_trans h3 hab⟩
  case h0 => exact ⟨[], rfl, rfl, by show tkB + 0 ≤ tkB + 1 + 1 + 1; omega⟩
  case elt =>
    rintro vs ys t C h tk m₂ E' hlt ⟨ps, rfl, hpl, hpk⟩ hC hn hm hk
    repeat' ((fail_if_success (with_reducible show Keeps _ _ ∧ _)); (first | k_unfold | walk1 | (dsimp only; walk1)))
    have e9 : 9 * (0 + (vs.length : Int)).fmod 3 + (0 + (vs.length : Int)).fdiv 3 = ((9 * (vs.length % 3) + vs.length / 3 : Nat) : Int) := by
      rw [Int.zero_add, Int.fmod_eq_emod_of_nonneg _ (by decide), Int.fdiv_eq_ediv_of_nonneg _ (by decide)]
      omega
    dsimp only
    rw [e9]
    refine ⟨⟨_, _, rfl, fun _ _ e => e⟩, ps ++ [(_, _)], by simp only [List.map_append, List.map_cons, List.map_nil]; rfl, ?_, ?_⟩
    · have hpl' : List.map (fun q : Int × Tok => q.1) ps = _ := hpl
      show List.map (fun q : Int × Tok => q.1) (ps ++ [(_, _)]) = _
      rw [List.map_append, hpl', List.length_append, List.length_singleton, List.range_succ, List.map_append]
      rfl
    · show tkB + 7 * (vs ++ [_]).length ≤ tk + 1 + 1 + 1 + 1 + 1 + 1 + 1
      rw [List.length_append, List.length_singleton]; omega
  case fin =>
    rintro Db h27 tk27 vs ys nb hlen ⟨th, rfl, hth, hk27⟩ F27 N27 l27
    rw [hlen] at hth hk27
    have ltb : ∀ p ∈ rest, p.1 < Db := fun p hp => l27 p (.tail _ hp)
    repeat' ((fail_if_success (with_reducible show wpAny _ _ (execs (Stmt.Assign _ _ _ :: _) _) _ _ _)); (first | k_unfold | walk1 | (dsimp only; walk1)))
    rename Fr _ _ _ _ => F28
    rename News _ _ _ _ => N28
    dsimp only
    refine' at_def (K := hd.heap_39 w.params) (f := 154) ?ho2 ?_
    case ho2 => k_is
    intro eb es
    refine wp_at ?eA ?et (hQ _ _ Dt Db th nb ?_ hth F28 (news_sub N28 fun p hp => ?_) lt ltb)
    case eA => unfold lawEnv; rw [es]
    case et => unfold lawEnv; rw [eb, es]; rfl
    · show s.toks + 189 ≤ tk27 + 1 + 1; omega
    · rcases List.mem_cons.mp hp with rfl | hp
      · exact .tail _ (.head _)
      · exact .tail _ (.tail _ hp)
end Mine
end

section
open PySem PySem.W PyProof.Rows
open PySem.Calls PySem.Spec
namespace Mine
set_option maxRecDepth 100000 in
set_option maxHeartbeats 4000000 in
theorem law_start {w : World} {loose : List Str} {mean : ExcName → Option Value} {mg mb : Str → Option Value} {g : Heap} {L fa : Addr} {cd : Value} {s : Shared} {E : Value → Shared → Prop} {Q : Flow → Shared → Prop}
    {m0 : Str → Option Value} {rest : List (Addr × Obj)} {Ds D : Addr} {sp qs : List (Int × Tok)} {nS nD : Nat} {o3 oR oL : Obj} {lv : Int} {tl : Tok}
    (X : (hd.heap_39 w.params).In g) (T : Top topProg loose mean mg mb g)
    (F : Fr g L s.heap (fun y => if y = "stay" then some (.ref Ds) else m0 y))
    (N : News g L s.heap ((L + 1 + 1 + 1, o3) :: rest)) (d3 : o3.data = .cell none) (hr : ∀ p ∈ rest, p.1 ≠ L + 1 + 1 + 1) (mS : (Ds, listOf (tInts sp).toArray nS) ∈ rest) (spl : sp.length = 27)
    (mR : (L + 1, oR) ∈ rest) (dR : oR.data = .cell (some (.ref D))) (mL : (L + 1 + 1, oL) ∈ rest) (dL : oL.data = .cell (some (.int lv tl))) (mD : (D, listOf (tInts qs).toArray nD) ∈ rest) (hql : qs.length = 27)
    (hQ : ∀ h' tk G nG oG t, s.toks ≤ tk → Fr g L h' (fun y => if y = "flags" then some (.int ((bitsOf (reach (nums qs) lv) 27 : Nat) : Int) t) else if y = "stay" then some (.ref Ds) else m0 y) → oG.data = .cell (some (.ref G)) →
      News g L h' ((L + 1 + 1 + 1, oG) :: (G, listOf (tInts sp).toArray nG) :: rest) → (∀ p ∈ rest, p.1 < G) → L + 1 + 1 + 1 < G →
      wpAny (model pw w) (callerA.deeper (lawEnv (hd.heap_39 w.params) L fa cd)) (execs (bodyIn (hd.heap_39 w.params) 154 9) (lawEnv (hd.heap_39 w.params) L fa cd)) Q E { s with heap := h', toks := tk }) :
    wpAny (model pw w) (callerA.deeper (lawEnv (hd.heap_39 w.params) L fa cd)) (execs (bodyIn (hd.heap_39 w.params) 154 8) (lawEnv (hd.heap_39 w.params) L fa cd)) Q E s := by
  refine' at_def (K := hd.heap_39 w.params) (f := 154) ?ho ?_
  case ho => k_is
  intro eb es
  unfold lawEnv
  rw [eb, es]
  show wpAny _ _ (execs (Stmt.Assign _ _ _ :: _) _) _ _ _
  clear eb es
  replace N := news_pull (news_pull (news_pull (news_pull N (.tail _ mS)) (.tail _ (.tail _ mR))) (.tail _ (.tail _ (.tail _ mL)))) (.tail _ (.tail _ (.tail _ (.tail _ mD))))
  repeat' ((fail_if_success (with_reducible show wpAny _ _ (exec (Stmt.Assign _ _ _) _) _ _ _)); (first | k_unfold | walk1 | (dsimp only; walk1)))
  refine wpAny_with_toks (n := s.toks) (Nat.le_refl _) ?_
  repeat' ((fail_if_success (with_reducible show wpAny _ _ (call (Value.type _) _ _) _ _ _)); (first | k_unfold | walk1 | (dsimp only; walk1)))
  refine call_list_seq (items := (tInts sp).toArray) (n := nS) Ds (.inl rfl) (N (Ds, _) (.tail _ (.tail _ (.tail _ (.head _))))).1 rfl rfl ?_ (by rw [List.size_toArray, List.length_map, spl, sizeLine_eq]; decide)
  intro h2 c2 k2 e2
  have F2 := stays_fr k2 F
  have N2 := stays_news k2 N
  have lG : ∀ p ∈ (L + 1 + 1 + 1, o3) :: rest, p.1 < s.heap.objs.size := fun p hp => Heap.lt_size (N p (.tail _ (.tail _ (.tail _ (.tail _ hp))))).1
  replace N2 : News g L h2 ((s.heap.objs.size, listOf (tInts sp).toArray c2) :: _) := news_new F N2 (by
    cases q : s.heap.get? s.heap.objs.size with
    | none => rfl
    | some o => exact absurd (Heap.lt_size q) (Nat.lt_irrefl _)) e2
  generalize s.heap.objs.size = G at *
  clear F N k2 e2
  repeat' ((fail_if_success (with_reducible show wpAny _ _ (call (Value.ref _) _ _) _ _ _)); (first | k_unfold | walk1 | (dsimp only; walk1)))
  refine flags_call (ps := qs) (b := lv) (X.keeps F2.keep) (T.keeps F2.keep) (law_room.le (by decide) (by decide)) (news_list N2 (.tail _ (.head _))) (by omega) ?_
  intro h3 tk3 t3 k3
  have F3 := stays_fr k3 F2
  have N3 := stays_news k3 N2
  clear F2 N2
  rw [hql]
  repeat' ((fail_if_success (with_reducible show wpAny _ _ (storeName _ _ _) _ _ _)); (first | k_unfold | walk1 | (dsimp only; walk1)))
  rename Fr _ _ _ _ => F5
  rename News _ _ _ _ => N5
  replace N5 := news_sub N5 (b := (L + 1 + 1 + 1, o3) :: (G, listOf (tInts sp).toArray c2) :: rest) (fun p hp => by
    rcases List.mem_cons.mp hp with rfl | hp
    · exact .tail _ (.tail _ (.tail _ (.tail _ (.tail _ (.tail _ (.head _))))))
    · rcases List.mem_cons.mp hp with rfl | hp
      · exact .tail _ (.head _)
      · exact .tail _ (.tail _ (.tail _ (.tail _ (.tail _ (.tail _ (.tail _ hp)))))))
  have lGc : L + 1 + 1 + 1 < G := lG (L + 1 + 1 + 1, o3) (.head _)
  refine storeX_C F5 N5 rfl (updF_mid [] ((G, listOf (tInts sp).toArray c2) :: rest) (fun _ h => nomatch h) (fun p hp => by
    rcases List.mem_cons.mp hp with rfl | hp
    · exact Nat.ne_of_gt lGc
    · exact hr p hp)) d3 ?_
  intro h6 oG F6 N6 dG
  clear F5 N5
  dsimp only [List.nil_append] at N6
  repeat' ((fail_if_success (with_reducible show wpAny _ _ (execs (Stmt.For _ _ _ _ _ :: _) _) _ _ _)); (first | k_unfold | walk1 | (dsimp only; walk1)))
  rename s.toks ≤ _ => hle
  rename Fr _ _ _ _ => F7
  rename News _ _ _ _ => N7
  dsimp only at hle ⊢
  refine' at_def (K := hd.heap_39 w.params) (f := 154) ?ho2 ?_
  case ho2 => k_is
  intro eb es
  refine wp_at ?eA ?et (hQ _ _ G c2 oG t3 hle F7 dG N7 (fun p hp => lG p (.tail _ hp)) lGc)
  case eA => unfold lawEnv; rw [es]
  case et => unfold lawEnv; rw [eb, es]; rfl
end Mine
end

section
open PySem PySem.W PyProof.Rows
open PySem.Calls PySem.Spec
namespace Mine
theorem cut_led {g h : Heap} {L : Addr} {x0 x1 x2 x3 x4 x5 x6 x7 x8 x9 a b c : Addr × Obj} {rest : List (Addr × Obj)} {G : Prop} (N : News g L h (x0 :: x1 :: x2 :: x3 :: x4 :: x5 :: x6 :: x7 :: x8 :: x9 :: a :: b :: c :: rest))
    (k : ∀ fx, News g L h (a :: b :: c :: (fx ++ [])) → (∀ p ∈ rest, p ∈ fx) → x0 ∈ fx → x1 ∈ fx → x2 ∈ fx → x3 ∈ fx → x4 ∈ fx → x5 ∈ fx → x6 ∈ fx → x7 ∈ fx → x8 ∈ fx → x9 ∈ fx → (∀ P : Addr × Obj → Prop, P x0 → P x1 → P x2 → P x3 → P x4 → P x5 → P x6 → P x7 → P x8 → P x9 → (∀ p ∈ rest, P p) → ∀ p ∈ fx, P p) → G) : G :=
  k (x0 :: x1 :: x2 :: x3 :: x4 :: x5 :: x6 :: x7 :: x8 :: x9 :: rest) (by
    rw [List.append_nil]
    exact news_cons N (.tail _ (.tail _ (.tail _ (.tail _ (.tail _ (.tail _ (.tail _ (.tail _ (.tail _ (.tail _ (.head _))))))))))) (news_cons N (.tail _ (.tail _ (.tail _ (.tail _ (.tail _ (.tail _ (.tail _ (.tail _ (.tail _ (.tail _ (.tail _ (.head _)))))))))))) (news_cons N (.tail _ (.tail _ (.tail _ (.tail _ (.tail _ (.tail _ (.tail _ (.tail _ (.tail _ (.tail _ (.tail _ (.tail _ (.head _))))))))))))) (news_cons N (.head _) (news_cons N (.tail _ (.head _)) (news_cons N (.tail _ (.tail _ (.head _))) (news_cons N (.tail _ (.tail _ (.tail _ (.head _)))) (news_cons N (.tail _ (.tail _ (.tail _ (.tail _ (.head _))))) (news_cons N (.tail _ (.tail _ (.tail _ (.tail _ (.tail _ (.head _)))))) (news_cons N (.tail _ (.tail _ (.tail _ (.tail _ (.tail _ (.tail _ (.head _))))))) (news_cons N (.tail _ (.tail _ (.tail _ (.tail _ (.tail _ (.tail _ (.tail _ (.head _)))))))) (news_cons N (.tail _ (.tail _ (.tail _ (.tail _ (.tail _ (.tail _ (.tail _ (.tail _ (.head _))))))))) (news_cons N (.tail _ (.tail _ (.tail _ (.tail _ (.tail _ (.tail _ (.tail _ (.tail _ (.tail _ (.head _)))))))))) (News.tail (News.tail (News.tail (News.tail (News.tail (News.tail (News.tail (News.tail (News.tail (News.tail (News.tail (News.tail (News.tail N))))))))))))))))))))))))))
    (fun p hp => (.tail _ (.tail _ (.tail _ (.tail _ (.tail _ (.tail _ (.tail _ (.tail _ (.tail _ (.tail _ hp))))))))))) (.head _) (.tail _ (.head _)) (.tail _ (.tail _ (.head _))) (.tail _ (.tail _ (.tail _ (.head _)))) (.tail _ (.tail _ (.tail _ (.tail _ (.head _))))) (.tail _ (.tail _ (.tail _ (.tail _ (.tail _ (.head _)))))) (.tail _ (.tail _ (.tail _ (.tail _ (.tail _ (.tail _ (.head _))))))) (.tail _ (.tail _ (.tail _ (.tail _ (.tail _ (.tail _ (.tail _ (.head _)))))))) (.tail _ (.tail _ (.tail _ (.tail _ (.tail _ (.tail _ (.tail _ (.tail _ (.head _))))))))) (.tail _ (.tail _ (.tail _ (.tail _ (.tail _ (.tail _ (.tail _ (.tail _ (.tail _ (.head _)))))))))) (fun P h0 h1 h2 h3 h4 h5 h6 h7 h8 h9 hr => all_cons h0 (all_cons h1 (all_cons h2 (all_cons h3 (all_cons h4 (all_cons h5 (all_cons h6 (all_cons h7 (all_cons h8 (all_cons h9 (hr)))))))))))
theorem four {fx : List (Addr × Obj)} {p1 p2 p3 p4 : Addr} {t1 u1 t2 u2 t3 u3 t4 u4 : Tok} (m1 : (p1, tupObj (p1, (0, t1), (5, u1))) ∈ fx) (m2 : (p2, tupObj (p2, (5, t2), (9, u2))) ∈ fx) (m3 : (p3, tupObj (p3, (14, t3), (9, u3))) ∈ fx) (m4 : (p4, tupObj (p4, (23, t4), (4, u4))) ∈ fx) :
    ∃ pc : List Piece, (pc.map fun q => Value.ref q.1) = [.ref p1, .ref p2, .ref p3, .ref p4] ∧ (∀ q ∈ pc, (q.1, tupObj q) ∈ fx) ∧ pc.map pieceOf = pcsN 3 :=
  ⟨[(p1, (0, t1), (5, u1)), (p2, (5, t2), (9, u2)), (p3, (14, t3), (9, u3)), (p4, (23, t4), (4, u4))], rfl, all_cons m1 (all_cons m2 (all_cons m3 (all_cons m4 fun _ h => nomatch h))), rfl⟩
inductive LoopJ (g : Heap) (mB : Str → Option Value) (L : Addr) (sp qs : List (Int × Tok)) (lv : Int) (fx : List (Addr × Obj)) (i : Nat) (m : Str → Option Value) (news : List (Addr × Obj)) (tk : Nat) : Prop
  | mk (tab : Array Value) (Gi : Addr) (nGi : Nat) (oGi : Obj) (t : Tok) (ex : List (Addr × Obj)) (hn : news = (L + 1 + 1 + 1, oGi) :: (116, tabObj tab) :: (Gi, listOf (tInts (GG sp qs i)).toArray nGi) :: (fx ++ ex)) (hT : TabIn g tab ex) (hx : ∀ p ∈ ex, IsRec p.2) (hd : oGi.data = .cell (some (.ref Gi))) (h6 : Gi ≠ 116) (hc : Gi ≠ L + 1 + 1 + 1) (ht : 264 < tk)
      (hl : Loc mB ["pieces", "order", "turn", "laid", "pressed", "first", "size", "lain", "due"] [("flags", .int ((FF sp qs lv i : Nat) : Int) t)] m) : LoopJ g mB L sp qs lv fx i m news tk
inductive TurnOf (fx : List (Addr × Obj)) (i : Nat) (v : Value) : Prop
  | mk (Ti OA PL : Addr) (op : List (Int × Tok)) (nO : Nat) (pc : List Piece) (nP : Nat) (hv : v = .ref Ti) (mT : (Ti, ({ cls := .type "tuple", data := .seq #[.ref OA, .ref PL] } : Obj)) ∈ fx) (mO : (OA, listOf (tInts op).toArray nO) ∈ fx) (ho : nums op = ordI i)
      (mP : (PL, listOf (pc.map fun q => Value.ref q.1).toArray nP) ∈ fx) (mq : ∀ q ∈ pc, (q.1, tupObj q) ∈ fx) (hp : pc.map pieceOf = pcsN i) : TurnOf fx i v

set_option maxRecDepth 100000 in
set_option maxHeartbeats 4000000 in
theorem law_loop {w : World} {loose : List Str} {mean : ExcName → Option Value} {mg mb : Str → Option Value} {g : Heap} {L fa : Addr} {cd : Value} {s : Shared} {E : Value → Shared → Prop} {Q : Flow → Shared → Prop}
    {m0 : Str → Option Value} {rest : List (Addr × Obj)} {Ds D Dt Db lC c1 c2 c3 G : Addr} {sp qs tp bp : List (Int × Tok)} {nS nD nT nB nC nG : Nat} {oR oL oG : Obj} {lv : Int} {tl tf a1 a2 a3 b1 b2 b3 : Tok}
    (X : (hd.heap_39 w.params).In g) (T : Top topProg loose mean mg mb g) (C : CodeHd g 120 116) (h116 : g.get? 116 = none)
    (F : Fr g L s.heap (fun y => if y = "flags" then some (.int ((FF sp qs lv 0 : Nat) : Int) tf) else if y = "there" then some (.ref Dt) else if y = "back" then some (.ref Db) else if y = "stay" then some (.ref Ds) else if y = "columns" then some (.ref lC) else m0 y))
    (N : News g L s.heap ((L + 1 + 1 + 1, oG) :: (116, tabObj #[]) :: (G, listOf (tInts sp).toArray nG) :: rest)) (dG : oG.data = .cell (some (.ref G))) (hr : ∀ p ∈ rest, p.1 ≠ 116 ∧ p.1 ≠ L + 1 + 1 + 1) (hne : L + 1 + 1 + 1 ≠ 116) (hG : G ≠ 116 ∧ G ≠ L + 1 + 1 + 1)
    (mR : (L + 1, oR) ∈ rest) (dR : oR.data = .cell (some (.ref D))) (mL : (L + 1 + 1, oL) ∈ rest) (dL : oL.data = .cell (some (.int lv tl))) (mD : (D, listOf (tInts qs).toArray nD) ∈ rest)
    (mS : (Ds, listOf (tInts sp).toArray nS) ∈ rest) (mT : (Dt, listOf (tInts tp).toArray nT) ∈ rest) (mB : (Db, listOf (tInts bp).toArray nB) ∈ rest)
    (mC : (lC, listOf #[.ref c1, .ref c2, .ref c3] nC) ∈ rest) (m1 : (c1, tupObj (c1, (0, a1), (9, b1))) ∈ rest) (m2 : (c2, tupObj (c2, (9, a2), (9, b2))) ∈ rest) (m3 : (c3, tupObj (c3, (18, a3), (9, b3))) ∈ rest)
    (hsp : nums sp = ordI 0) (htp : nums tp = ordI 1) (hbp : nums bp = ordI 2) (hql : qs.length = 27) (P : Plan sp qs lv) (htk : 264 < s.toks)
    (hQ : ∀ h' tk G' nG' oG' tab ex m' t, 264 < tk → Fr g L h' m' → Loc (fun y => if y = "flags" then some (.int ((FF sp qs lv 0 : Nat) : Int) tf) else if y = "there" then some (.ref Dt) else if y = "back" then some (.ref Db) else if y = "stay" then some (.ref Ds) else if y = "columns" then some (.ref lC) else m0 y) ["pieces", "order", "turn", "laid", "pressed", "first", "size", "lain", "due"] [("flags", .int ((FF sp qs lv 4 : Nat) : Int) t)] m' → oG'.data = .cell (some (.ref G')) →
      News g L h' ((L + 1 + 1 + 1, oG') :: (116, tabObj tab) :: (G', listOf (tInts (GG sp qs 4)).toArray nG') :: (rest ++ ex)) → TabIn g tab ex →
      wpAny (model pw w) (callerA.deeper (lawEnv (hd.heap_39 w.params) L fa cd)) (execs (bodyIn (hd.heap_39 w.params) 154 10) (lawEnv (hd.heap_39 w.params) L fa cd)) Q E { s with heap := h', toks := tk }) :
    wpAny (model pw w) (callerA.deeper (lawEnv (hd.heap_39 w.params) L fa cd)) (execs (bodyIn (hd.heap_39 w.params) 154 9) (lawEnv (hd.heap_39 w.params) L fa cd)) Q E s := by
  refine' at_def (K := hd.heap_39 w.params) (f := 154) ?ho ?_
  case ho => k_is
  intro eb es
  unfold lawEnv
  rw [eb, es]
  show wpAny _ _ (execs (Stmt.For _ _ _ _ _ :: _) _) _ _ _
  clear eb es
  repeat' ((fail_if_success (with_reducible show wpAny _ _ (exec (Stmt.For _ _ _ _ _) _) _ _ _)); (first | k_unfold | walk1 | (dsimp only; walk1)))
  refine wpAny_noRaise ?_
  refine wpAny_For ?_
  repeat' ((fail_if_success (with_reducible show wpAny _ _ (call (Value.type _) _ _) _ _ _)); (first | k_unfold | walk1 | (dsimp only; walk1)))
  rename Fr _ _ _ _ => F1
  rename News _ _ _ _ => N1
  rename_i T0 hT0 lT0 T1 hT1 lT1 T2 hT2 lT2 p1 hp1 lp1 p2 hp2 lp2 p3 hp3 lp3 p4 hp4 lp4 P3 hP3 lP3 T3 hT3 lT3 O hO lO
  refine cut_led N1 fun fx N2 hrest mfO mT3 mP3 mp4 mp3 mp2 mp1 mT2 mT1 mT0 hall => ?_
  have hfa : ∀ p ∈ fx, p.1 ≠ 116 ∧ p.1 ≠ L + 1 + 1 + 1 := hall (fun p => p.1 ≠ 116 ∧ p.1 ≠ L + 1 + 1 + 1) ⟨Nat.ne_of_gt lO.2.2.2.2.2.2.2.2.2.2.1, Nat.ne_of_gt lO.2.2.2.2.2.2.2.2.2.1⟩ ⟨Nat.ne_of_gt lT3.2.2.2.2.2.2.2.2.2.1, Nat.ne_of_gt lT3.2.2.2.2.2.2.2.2.1⟩ ⟨Nat.ne_of_gt lP3.2.2.2.2.2.2.2.2.1, Nat.ne_of_gt lP3.2.2.2.2.2.2.2.1⟩ ⟨Nat.ne_of_gt lp4.2.2.2.2.2.2.2.1, Nat.ne_of_gt lp4.2.2.2.2.2.2.1⟩ ⟨Nat.ne_of_gt lp3.2.2.2.2.2.2.1, Nat.ne_of_gt lp3.2.2.2.2.2.1⟩ ⟨Nat.ne_of_gt lp2.2.2.2.2.2.1, Nat.ne_of_gt lp2.2.2.2.2.1⟩ ⟨Nat.ne_of_gt lp1.2.2.2.2.1, Nat.ne_of_gt lp1.2.2.2.1⟩ ⟨Nat.ne_of_gt lT2.2.2.2.1, Nat.ne_of_gt lT2.2.2.1⟩ ⟨Nat.ne_of_gt lT1.2.2.1, Nat.ne_of_gt lT1.2.1⟩ ⟨Nat.ne_of_gt lT0.2.1, Nat.ne_of_gt lT0.1⟩ hr
  have hturns : ∀ i v, ([.ref T0, .ref T1, .ref T2, .ref T3] : List Value)[i]? = some v → TurnOf fx i v := fun i v hv => by
    have hcols : ∀ q ∈ ([(c1, (0, a1), (9, b1)), (c2, (9, a2), (9, b2)), (c3, (18, a3), (9, b3))] : List Piece), (q.1, tupObj q) ∈ fx := all_cons (hrest _ m1) (all_cons (hrest _ m2) (all_cons (hrest _ m3) fun _ h => nomatch h))
    match i, hv with
    | 0, hv => exact ⟨T0, Ds, lC, sp, nS, [(c1, (0, a1), (9, b1)), (c2, (9, a2), (9, b2)), (c3, (18, a3), (9, b3))], nC, (Option.some.inj hv).symm, mT0, hrest _ mS, hsp, hrest _ mC, hcols, rfl⟩
    | 1, hv => exact ⟨T1, Dt, lC, tp, nT, [(c1, (0, a1), (9, b1)), (c2, (9, a2), (9, b2)), (c3, (18, a3), (9, b3))], nC, (Option.some.inj hv).symm, mT1, hrest _ mT, htp, hrest _ mC, hcols, rfl⟩
    | 2, hv => exact ⟨T2, Db, lC, bp, nB, [(c1, (0, a1), (9, b1)), (c2, (9, a2), (9, b2)), (c3, (18, a3), (9, b3))], nC, (Option.some.inj hv).symm, mT2, hrest _ mB, hbp, hrest _ mC, hcols, rfl⟩
    | 3, hv =>
      obtain ⟨pc, e1, e2, e3⟩ := four mp1 mp2 mp3 mp4
      exact ⟨T3, Ds, P3, sp, nS, pc, 0, (Option.some.inj hv).symm, mT3, hrest _ mS, hsp, by rw [e1]; exact mP3, e2, e3⟩
    | _ + 4, hv => cases hv
  clear lT0 lT1 lT2 lp1 lp2 lp3 lp4 lP3 lT3 lO
  clear N1
  refine fr_name F1 fun mB emB F1 => ?_
  refine for_enum2 (L := L) (items := [.ref T0, .ref T1, .ref T2, .ref T3]) (LoopJ g mB L sp qs lv fx) rfl rfl rfl rfl rfl rfl rfl F1 N2 ?h0 ?hl ?turn ?done
  case h0 =>
    subst emB
    exact ⟨#[], G, nG, oG, tf, [], rfl, TabIn.none g, (fun _ h => nomatch h), dG, hG.1, hG.2, (by show 264 < s.toks + 1 + 1 + 1 + 1 + 1 + 1 + 1 + 1; omega), Loc.mk (by kst_all) (fun _ _ _ => rfl)⟩
  case hl =>
    rintro i m' news' h tk ⟨tab, Gi, nGi, oGi, t, ex, rfl, _⟩ F N
    exact news_list N (.tail _ (.tail _ (.tail _ (List.mem_append_left _ mfO))))
  case turn =>
    rintro i v m₁ news₁ h₁ tk₁ tk₂ ti own hv ⟨tab, Gi, nGi, oGi, t, ex, rfl, hTi, hexr, dGi, hG6, hGc, h264, u, rfl⟩ hti htk2 hI hIl hown F4 N4
    have hi4 : i < 4 := by
      obtain ⟨h, _⟩ := List.getElem?_eq_some_iff.mp hv
      exact h
    have hturn := hturns i v hv
    obtain ⟨Ti, OA, PL, op, nO, pc, nP, rfl, mTi, mOA, hop, mPL, mpc, hpcs⟩ := hturn
    subst emB
    dsimp only [kstB] at F4
    replace N4 := news_pull N4 (List.mem_append_right _ (.tail _ (.tail _ (.tail _ (List.mem_append_left _ mTi)))))
    show wpAny _ _ _ _ _ _
    repeat' ((fail_if_success (with_reducible show wpAny _ _ (execs (Stmt.Assign _ _ _ :: _) _) _ _ _)); (first | k_unfold | walk1 | (dsimp only; walk1)))
    rename Fr _ _ _ _ => F5
    rename News _ _ _ _ => N5
    try dsimp only
    refine gen_toks fun tkT htkT => ?_
    show wpAny _ _ _ _ _ _
    replace N5 := News.tail N5
    have N6 := news_sub N5 (b := (L + 1 + 1 + 1, oGi) :: (116, tabObj tab) :: (Gi, listOf (tInts (GG sp qs i)).toArray nGi) :: (own ++ fx)) (mem_swap3)
    have hr6 : ∀ p ∈ (Gi, listOf (tInts (GG sp qs i)).toArray nGi) :: (own ++ fx), p.1 ≠ 116 ∧ p.1 ≠ L + 1 + 1 + 1 := fun p hp => by
      rcases List.mem_cons.mp hp with rfl | hp
      · exact ⟨hG6, hGc⟩
      · rcases List.mem_append.mp hp with hp | hp
        · exact ⟨(hI (116, tabObj tab) (.tail _ (.head _)) p hp).symm, (hI (L + 1 + 1 + 1, oGi) (.head _) p hp).symm⟩
        · exact hfa p hp
    have hTh : TabIn _ tab [] := tab_back hTi F5.keep (fun p hp => (N5 p (List.mem_append_right _ (.tail _ (.tail _ (.tail _ (List.mem_append_right _ hp)))))).1)
    have mfx : ∀ {p}, p ∈ fx → p ∈ (Gi, listOf (tInts (GG sp qs i)).toArray nGi) :: (own ++ fx) := fun hp => .tail _ (List.mem_append_right _ hp)
    have eop : takeAt (GG sp qs i) op = takeN (GG sp qs i) (ordI i) := by rw [takeAt_N, hop]
    have eg2 : given2 i (GG sp qs i) op qs = g2N i (GG sp qs i) qs := given2_N hop
    have hpo1 := (pcsN_ok hi4).1
    have hpo2 := (pcsN_ok hi4).2
    have hol : op.length = 27 := by have := congrArg List.length hop; rw [List.length_map, ordI_len hi4] at this; exact this
    refine' at_def (K := hd.heap_39 w.params) (f := 154) ?ho2 ?_
    case ho2 => k_is
    intro eb es
    refine wp_at ?eA ?et (turn_body (fa := fa) (cd := cd) (i := i) (gp := GG sp qs i) (qs := qs) (op := op) (pc := pc) (lv := lv) (f := FF sp qs lv i) X T C h116 F5 N6 hr6 hne hTh dGi (mfx (hrest _ mR)) dR (mfx (hrest _ mL)) dL (.head _) (mfx (hrest _ mD)) (mfx mOA) (mfx mPL) (fun q hq => mfx (mpc q hq)) (P.len i hi4) hql hol
      (fun p hp => ordI_dom hi4 p.1 (by rw [← hop]; exact List.mem_map_of_mem hp)) (fun q hq => hpo1 (pieceOf q) (by rw [← hpcs]; exact List.mem_map_of_mem hq)) (by rw [← hpcs, List.map_map] at hpo2; exact hpo2) (FF_lt _ _ _ _) (show 264 < tkT by omega) hi4 (by rw [eop]; exact fun h => P.dom i h) (by rw [eop]; exact fun h => P.tok i h) (by rw [eop]; exact fun h => P.nd i h) (by rw [hop, hpcs, eg2]; exact P.flags i hi4) ?hq)
    case eA => unfold lawEnv; rw [es]
    case et => unfold lawEnv; rw [eb, es]; rfl
    case hq =>
      clear eb es
      rw [eg2, hpcs]
      intro h' tk G' nG' oG' tab' m' t' htk' F' hLoc dG' N' hT' hG6' hGc' hGr'
      have hpick := tab_pick hT' F'.keep
      obtain ⟨ex', hTx', hx''⟩ := hpick
      have NR := news_rec F' (news_sub N' (b := (116, tabObj tab') :: []) (fun p hp => by rcases List.mem_singleton.mp hp with rfl; exact .tail _ (.head _))) hx''
      dsimp only at htk'
      refine LEnd.mk (news' := (L + 1 + 1 + 1, oG') :: (116, tabObj tab') :: (G', listOf (tInts (GG sp qs (i + 1))).toArray nG') :: (own ++ (fx ++ ex'))) (nx := (L + 1 + 1 + 1, oG') :: (116, tabObj tab') :: (G', listOf (tInts (GG sp qs (i + 1))).toArray nG') :: (fx ++ ex')) F' ?_ (fun p hp => .tail _ (.tail _ (.tail _ (List.mem_append_left _ hp)))) mem_skip3 (fun p hp r hr' => ?_) ⟨tab', G', nG', oG', t', ex', rfl, hTx', fun p hp => (hx'' p hp).1, dG', hG6', hGc', by omega, Loc.join (s1 := ["pieces", "order", "turn", "laid", "pressed", "first", "size", "lain", "due"]) (s2 := ["pieces", "order", "turn", "laid", "pressed", "first", "size", "lain", "due"]) (fun z => Bool.or_self _) hLoc⟩
      · exact news_cons N' (.head _) (news_cons N' (.tail _ (.head _)) (news_cons N' (.tail _ (.tail _ (.head _))) (news_app (news_sub N' fun p hp => .tail _ (.tail _ (.tail _ (.tail _ (List.mem_append_left _ hp))))) (news_app (news_sub N' fun p hp => .tail _ (.tail _ (.tail _ (.tail _ (List.mem_append_right _ hp))))) (News.tail NR)))))
      · revert p
        refine all_cons (hI (L + 1 + 1 + 1, oGi) (.head _) r hr') (all_cons (hI (116, tabObj tab) (.tail _ (.head _)) r hr') (all_cons (hGr' r (.tail _ (List.mem_append_left _ hr'))).symm (all_app (fun p hp => hI p (.tail _ (.tail _ (.tail _ (List.mem_append_left _ hp)))) r hr') fun p hp e => ?_)))
        obtain ⟨r1, r2, _⟩ := hx'' p hp
        have r3 := (N' r (.tail _ (.tail _ (.tail _ (.tail _ (List.mem_append_left _ hr')))))).1
        rw [e, r3] at r2
        rw [← Option.some.inj r2] at r1
        obtain ⟨vs, hvs, hno⟩ := hown r hr'
        obtain ⟨vs', t'', hd', hv'⟩ := r1
        rw [hvs] at hd'
        cases hd'
        exact hno _ _ hv'
  case done =>
    rintro m₁ news₁ h₂ tk₁ tk₂ ⟨tab, G4, nG4, oG4, t, ex, rfl, hT4, hexr, dG4, hG6, hGc, h264, hLoc⟩ htk12 F6 N6
    subst emB
    show wpAny _ _ _ _ _ _
    refine gen_toks fun tkD htkD => ?_
    show wpAny _ _ _ _ _ _
    repeat' ((fail_if_success (with_reducible show wpAny _ _ (execs (Stmt.If _ _ _ _ :: _) _) _ _ _)); (first | k_unfold | walk1 | (dsimp only; walk1)))
    refine' at_def (K := hd.heap_39 w.params) (f := 154) ?ho2 ?_
    case ho2 => k_is
    intro eb es
    refine wp_at ?eA ?et (hQ h₂ tkD G4 nG4 oG4 tab ex m₁ t (by have h5 : tkD = tk₂ := htkD; omega) F6 hLoc dG4 (news_cons N6 (.head _) (news_cons N6 (.tail _ (.head _)) (news_cons N6 (.tail _ (.tail _ (.head _))) (news_app (news_sub N6 fun p hp => .tail _ (.tail _ (.tail _ (List.mem_append_left _ (hrest p hp))))) (news_sub N6 fun p hp => .tail _ (.tail _ (.tail _ (List.mem_append_right _ hp)))))))) hT4)
    case eA => unfold lawEnv; rw [es]
    case et => unfold lawEnv; rw [eb, es]; rfl
end Mine
end

section
open PySem PySem.W PyProof.Rows
open PySem.Calls PySem.Spec PySem.Builtin PySem.Builtin.Str PySem.StrLaws
namespace Mine
theorem kms_from {α : Type} {ps : List α} {f : α → Value} {a : Nat} {v : Int} (hv : v = (a : Int)) (h : a ≤ ps.length) : kms_pick ((ps.map f).toArray.toList) (some v) none = (ps.drop a).map f := by
  subst hv
  unfold kms_pick
  have e : (ps.map f).toArray.toList = ps.map f := rfl
  rw [e]
  have h1 : kms_lo (some (a : Int)) (ps.map f).length = a := by
    unfold kms_lo
    dsimp only
    rw [if_neg (by omega), List.length_map, Int.toNat_natCast]
    omega
  have h2 : kms_hi none (ps.map f).length = ps.length := by
    unfold kms_hi
    simp
  rw [h1, h2, List.map_drop, List.take_of_length_le (by simp)]

theorem s27 {c : Nat} (h : c ≤ 27) : (27 : Int) - (c : Int) = ((27 - c : Nat) : Int) := by omega
theorem s27l {c n : Nat} (h : n = 27) : 27 - c ≤ n := by omega
theorem s27e {c k : Nat} (h : c ≤ 27) : (((27 - c + k : Nat) : Int) == 27 - (c : Int) + ((k : Nat) : Int)) = true := beq_iff_eq.mpr (by omega)

set_option maxRecDepth 100000 in
set_option maxHeartbeats 4000000 in
theorem law_end {w : World} {loose : List Str} {mean : ExcName → Option Value} {mg mb : Str → Option Value} {g : Heap} {L fa : Addr} {cd : Value} {s : Shared} {E : Value → Shared → Prop} {Q : Flow → Shared → Prop}
    {m0 : Str → Option Value} {rest : List (Addr × Obj)} {D G Dn : Addr} {gp qs : List (Int × Tok)} {nm : List (Str × Tok)} {nD nG nN fl cnt : Nat} {oR oL oG : Obj} {lv : Int} {tl tf tc : Tok}
    (X : (hd.heap_39 w.params).In g) (T : Top topProg loose mean mg mb g)
    (F : Fr g L s.heap (fun y => if y = "flags" then some (.int (fl : Int) tf) else if y = "names" then some (.ref Dn) else if y = "count" then some (.int (cnt : Int) tc) else m0 y))
    (N : News g L s.heap rest) (mG : (L + 1 + 1 + 1, oG) ∈ rest) (dG : oG.data = .cell (some (.ref G))) (mg' : (G, listOf (tInts gp).toArray nG) ∈ rest)
    (mR : (L + 1, oR) ∈ rest) (dR : oR.data = .cell (some (.ref D))) (mL : (L + 1 + 1, oL) ∈ rest) (dL : oL.data = .cell (some (.int lv tl))) (mD : (D, listOf (tInts qs).toArray nD) ∈ rest)
    (mN : (Dn, listOf (strsT nm).toArray nN) ∈ rest)
    (hgl : gp.length = 27) (hql : qs.length = 27) (hnm : strsOf nm = (List.range 27).map flagName) (hfl : fl < 2 ^ 32) (htk : 264 < s.toks) (hcnt : cnt ≤ 27)
    (hso : (nums gp).Pairwise (· ≤ ·)) (hpe : (nums gp).Perm (nums qs)) (hpn : prettyNames fl = ((List.range 27).map flagName).drop (27 - cnt))
    (hbl : ∀ r, PosL id (nums gp) lv r → r = 27 - cnt) (hbr : ∀ r, PosR id (nums gp) lv r → r = 27 - cnt + (nums qs).count lv) (htl : tl ≠ 0) (htq : ∀ p ∈ qs, p.2 ≠ 0 ∧ (p.2 = tl → p.1 = lv))
    (hQ : ∀ h' tk m', Fr g L h' m' → News g L h' rest → Q (.ret (.bool true)) { s with heap := h', toks := tk }) :
    wpAny (model pw w) (callerA.deeper (lawEnv (hd.heap_39 w.params) L fa cd)) (execs (bodyIn (hd.heap_39 w.params) 154 10) (lawEnv (hd.heap_39 w.params) L fa cd)) Q E s := by
  refine' at_def (K := hd.heap_39 w.params) (f := 154) ?ho ?_
  case ho => k_is
  intro eb es
  unfold lawEnv
  rw [eb, es]
  show wpAny _ _ (execs (Stmt.If _ _ _ _ :: _) _) _ _ _
  clear eb es
  replace N := news_pull (news_pull (news_pull (news_pull (news_pull (news_pull N mD) (.tail _ mL)) (.tail _ (.tail _ mR))) (.tail _ (.tail _ (.tail _ mg')))) (.tail _ (.tail _ (.tail _ (.tail _ mG))))) (.tail _ (.tail _ (.tail _ (.tail _ (.tail _ mN)))))
  repeat' ((fail_if_success (with_reducible show wpAny _ _ (call (Value.builtin _) _ _) _ _ _)); (first | k_unfold | walk1 | (dsimp only; walk1)))
  rename Fr _ _ _ _ => F1
  rename News _ _ _ _ => N1
  refine kso_sorted F1 N1 (news_list N1 (.tail _ (.tail _ (.tail _ (.tail _ (.tail _ (.head _))))))) (ints_are qs) (by rw [List.length_map, hql]; decide) ?_
  intro D2 vs2 ns2 c2 h2 F2 N2 l2 i2 e2 p2 s2 _
  have hns : nums gp = ns2 := (hpe.trans p2.symm).eq_of_pairwise (fun a b _ _ h1 h2 => Int.le_antisymm h1 h2) hso s2
  subst hns
  repeat' ((fail_if_success (with_reducible show wpAny _ _ (compareOp _ _ _) _ _ _)); (first | k_unfold | walk1 | (dsimp only; walk1)))
  refine ne_intsK (news_list N2 (.tail _ (.tail _ (.tail _ (.head _))))) (ints_are gp) (news_list N2 (.head _)) i2 (by show 4 + 3 + 64 < cLine; decide) ?_
  rw [decide_eq_true rfl]
  repeat' ((fail_if_success (with_reducible show wpAny _ _ (call (Value.ref _) _ _) _ _ _)); (first | k_unfold | walk1 | (dsimp only; walk1)))
  refine pf_call (f := fl) (X.keeps F2.keep) (T.keeps F2.keep) (law_room.le (by decide) (by decide)) hfl htk ?_
  intro h3 tk3 t3 k3 _
  have F3 := stays_fr k3 F2
  have N3 := stays_news k3 N2
  clear F2 N2 F1 N1
  repeat' ((fail_if_success (with_reducible show wpAny _ _ (subscriptTail _ _ _ _) _ _ _)); (first | k_unfold | walk1 | (dsimp only; walk1)))
  rename Fr _ _ _ _ => F4
  rename News _ _ _ _ => N4
  have hnl : nm.length = 27 := by have := congrArg List.length hnm; simpa using this
  refine kms_slice_lit (its := (strsT nm).toArray) (lo := some ((27 : Int) - cnt)) (hi := none) F4 N4 (news_list N4 (.tail _ (.head _))) (IsPart.int _ _) IsPart.none (kms_from (ps := nm) (a := 27 - cnt) (s27 hcnt) (s27l hnl)) ?_ (by with_unfolding_all rfl) (fun _ => by with_unfolding_all rfl) (by rw [List.size_toArray, List.length_map, hnl, sizeLine_eq]; decide)
  intro D5 h5 F5 N5 l5
  repeat' ((fail_if_success (with_reducible show wpAny _ _ (call (Value.builtin _) _ _) _ _ _)); (first | k_unfold | walk1 | (dsimp only; walk1)))
  have hdr : strsOf (nm.drop (27 - cnt)) = prettyNames fl := by rw [hpn, ← hnm]; exact List.map_drop
  refine join_listT (l := nm.drop (27 - cnt)) (news_list N5 (.head _)) (by decide) (join_ok hdr) ?_
  intro t6 k6 _
  rw [hdr]
  show wpAny _ _ (compareOp CmpOp.NotEq (Value.str (prettyS fl) t3) (Value.str (prettyS fl) t6)) _ _ _
  refine P.ne_str ?_
  rw [bne_self_eq_false]
  repeat' ((fail_if_success (with_reducible show wpAny _ _ (call (Value.ref _) _ _) _ _ _)); (first | k_unfold | walk1 | (dsimp only; walk1)))
  rename Fr _ _ _ _ => F7
  rename News _ _ _ _ => N7
  have hord : Ord id (nums gp) := fun i j hij hj => by
    have h1 : i < (nums gp).length := Nat.lt_of_le_of_lt hij hj
    show (nums gp).getD i 0 ≤ (nums gp).getD j 0
    rw [List.getD_eq_getElem?_getD, List.getD_eq_getElem?_getD, List.getElem?_eq_getElem h1, List.getElem?_eq_getElem hj]
    by_cases e : i = j
    · subst e; exact Int.le_refl _
    · exact List.pairwise_iff_getElem.mp hso i j h1 hj (Nat.lt_of_le_of_ne hij e)
  refine bl_call (args := ⟨[.ref G, .int lv tl], []⟩) (X.keeps F7.keep) (T.keeps F7.keep) (law_room.le (by decide) (by decide)) (binds_bl2 (X.keeps F7.keep)) (news_list N7 (.tail _ (.tail _ (.tail _ (.tail _ (.head _)))))) (ints_are gp) (by rw [List.length_map, hgl]; decide) hord ?_
  intro r8 h8 tk8 t8 hr8 k8
  obtain rfl := hbl r8 hr8
  have F8 := stays_fr k8 F7
  have N8 := stays_news k8 N7
  clear F7 N7
  rw [← s27 hcnt]
  repeat' ((fail_if_success (with_reducible show wpAny _ _ (call (Value.ref _) _ _) _ _ _)); (first | k_unfold | walk1 | (dsimp only; walk1)))
  all_goals try (exact absurd rfl (by assumption))
  refine br_call (args := ⟨[.ref G, .int lv tl], []⟩) (X.keeps F8.keep) (T.keeps F8.keep) (law_room.le (by decide) (by decide)) (binds_br2 (X.keeps F8.keep)) (news_list N8 (.tail _ (.tail _ (.tail _ (.tail _ (.head _)))))) (ints_are gp) (by rw [List.length_map, hgl]; decide) hord ?_
  intro r9 h9 tk9 t9 hr9 k9
  obtain rfl := hbr r9 hr9
  have F9 := stays_fr k9 F8
  have N9 := stays_news k9 N8
  clear F8 N8
  repeat' ((fail_if_success (with_reducible show wpAny _ _ (call (Value.ref _) _ _) _ _ _)); (first | k_unfold | walk1 | (dsimp only; walk1)))
  refine count_int (ps := qs) (b := lv) (X.keeps F9.keep) (T.keeps F9.keep) (law_room.le (by decide) (by decide)) (news_list N9 (.tail _ (.tail _ (.tail _ (.tail _ (.tail _ (.tail _ (.tail _ (.head _)))))))))  (by rw [hql]; decide) htl htq ?_
  intro h10 tk10 t10 k10
  have F10 := stays_fr k10 F9
  have N10 := stays_news k10 N9
  clear F9 N9
  repeat' (first | k_unfold | walk1 | (dsimp only; walk1))
  rw [s27e hcnt]
  exact hQ _ _ _ F10 (news_sub N10 fun p hp => by simp [hp])
end Mine
end

section
open PySem PySem.W PyProof.Rows
open PySem.Calls PySem.Spec
namespace Mine
theorem fr_top {g h : Heap} {L : Addr} {m : Str → Option Value} {x : Str} {v : Option Value} (F : Fr g L h m) (e : m x = v) : Fr g L h (fun y => if y = x then v else m y) := by
  have : m = fun y => if y = x then v else m y := by
    funext y
    split
    · subst y; exact e
    · rfl
  rw [← this]
  exact F
theorem ne_data {g h : Heap} {L a b : Addr} {news : List (Addr × Obj)} {o o' : Obj} (N : News g L h news) (h1 : (a, o) ∈ news) (h2 : (b, o') ∈ news) (hd : o.data ≠ o'.data) : a ≠ b := fun e => by
  have e1 := (N _ h1).1
  have e2 := (N _ h2).1
  dsimp only at e1 e2
  rw [e, e2] at e1
  exact hd (congrArg Obj.data (Option.some.inj e1)).symm
theorem tok_same {qs : List (Int × Tok)} {tk : Nat} (h : TokOk qs tk) {kk : Nat} (hk : kk < qs.length) : ∀ p ∈ qs, p.2 ≠ 0 ∧ (p.2 = qs[kk].2 → p.1 = qs[kk].1) := fun p hp => by
  refine ⟨Nat.ne_of_gt (h.lt p hp).1, fun e => ?_⟩
  obtain ⟨j, hj, rfl⟩ := List.mem_iff_getElem.mp hp
  rcases Nat.lt_trichotomy j kk with hl | rfl | hl
  · exact absurd e (List.pairwise_iff_getElem.mp h.ne j kk hj hk hl)
  · rfl
  · exact absurd e.symm (List.pairwise_iff_getElem.mp h.ne kk j hk hj hl)
theorem nums_pick {sp : List (Int × Tok)} (h : nums sp = ordI 0) : nums (pickP sp [0, 3, 6, 9, 12, 15, 18, 21, 24, 1, 4, 7, 10, 13, 16, 19, 22, 25, 2, 5, 8, 11, 14, 17, 20, 23, 26]) = ordI 1 := by
  have e : ∀ idx : List Nat, nums (pickP sp idx) = idx.filterMap fun k => (nums sp)[k]? := fun idx => by
    unfold pickP nums
    rw [List.map_filterMap]
    congr 1
    funext k
    rw [List.getElem?_map]
  rw [e, h]
  decide

theorem pick_led {led : List (Addr × Obj)} {x0 x1 x2 x3 x4 x5 x6 x7 x8 x9 x10 : Addr × Obj} {G : Prop} (mm0 : x0 ∈ led) (mm1 : x1 ∈ led) (mm2 : x2 ∈ led) (mm3 : x3 ∈ led) (mm4 : x4 ∈ led) (mm5 : x5 ∈ led) (mm6 : x6 ∈ led) (mm7 : x7 ∈ led) (mm8 : x8 ∈ led) (mm9 : x9 ∈ led) (mm10 : x10 ∈ led)
    (k : ∀ fx : List (Addr × Obj), x0 ∈ fx → x1 ∈ fx → x2 ∈ fx → x3 ∈ fx → x4 ∈ fx → x5 ∈ fx → x6 ∈ fx → x7 ∈ fx → x8 ∈ fx → x9 ∈ fx → x10 ∈ fx → (∀ P : Addr × Obj → Prop, P x0 → P x1 → P x2 → P x3 → P x4 → P x5 → P x6 → P x7 → P x8 → P x9 → P x10 → ∀ p ∈ fx, P p) → (∀ p ∈ fx, p ∈ led) → G) : G :=
  k [x0, x1, x2, x3, x4, x5, x6, x7, x8, x9, x10] (.head _) (.tail _ (.head _)) (.tail _ (.tail _ (.head _))) (.tail _ (.tail _ (.tail _ (.head _)))) (.tail _ (.tail _ (.tail _ (.tail _ (.head _))))) (.tail _ (.tail _ (.tail _ (.tail _ (.tail _ (.head _)))))) (.tail _ (.tail _ (.tail _ (.tail _ (.tail _ (.tail _ (.head _))))))) (.tail _ (.tail _ (.tail _ (.tail _ (.tail _ (.tail _ (.tail _ (.head _)))))))) (.tail _ (.tail _ (.tail _ (.tail _ (.tail _ (.tail _ (.tail _ (.tail _ (.head _))))))))) (.tail _ (.tail _ (.tail _ (.tail _ (.tail _ (.tail _ (.tail _ (.tail _ (.tail _ (.head _)))))))))) (.tail _ (.tail _ (.tail _ (.tail _ (.tail _ (.tail _ (.tail _ (.tail _ (.tail _ (.tail _ (.head _))))))))))) (fun P h0 h1 h2 h3 h4 h5 h6 h7 h8 h9 h10 => all_cons h0 (all_cons h1 (all_cons h2 (all_cons h3 (all_cons h4 (all_cons h5 (all_cons h6 (all_cons h7 (all_cons h8 (all_cons h9 (all_cons h10 (fun _ h => nomatch h)))))))))))) (all_cons mm0 (all_cons mm1 (all_cons mm2 (all_cons mm3 (all_cons mm4 (all_cons mm5 (all_cons mm6 (all_cons mm7 (all_cons mm8 (all_cons mm9 (all_cons mm10 (fun _ h => nomatch h))))))))))))

set_option maxRecDepth 100000 in
set_option maxHeartbeats 4000000 in
theorem law_tail {w : World} {loose : List Str} {mean : ExcName → Option Value} {mg mb : Str → Option Value} {g : Heap} {L fa : Addr} {cd : Value} {s : Shared} {E : Value → Shared → Prop} {Q : Flow → Shared → Prop}
    {m0 : Str → Option Value} {led : List (Addr × Obj)} {Ds D Dn lC c1 c2 c3 : Addr} {sp qs : List (Int × Tok)} {nm : List (Str × Tok)} {nS nD nC nN cnt kk tkq tks : Nat} {oR oL o3 : Obj} {a1 a2 a3 b1 b2 b3 tc : Tok}
    (X : (hd.heap_39 w.params).In g) (T : Top topProg loose mean mg mb g) (C : CodeHd g 120 116) (l116 : 116 < L)
    (F : Fr g L s.heap (fun y => if y = "stay" then some (.ref Ds) else if y = "columns" then some (.ref lC) else if y = "names" then some (.ref Dn) else if y = "count" then some (.int (cnt : Int) tc) else m0 y))
    (N : News g L s.heap led) (m3 : (L + 1 + 1 + 1, o3) ∈ led) (d3 : o3.data = .cell none) (m6 : (116, tabObj #[]) ∈ led)
    (hql : qs.length = 27) (hkk : kk < qs.length)
    (mR : (L + 1, oR) ∈ led) (dR : oR.data = .cell (some (.ref D))) (mL : (L + 1 + 1, oL) ∈ led) (dL : oL.data = .cell (some (.int qs[kk].1 qs[kk].2))) (mD : (D, listOf (tInts qs).toArray nD) ∈ led)
    (mS : (Ds, listOf (tInts sp).toArray nS) ∈ led) (mN : (Dn, listOf (strsT nm).toArray nN) ∈ led)
    (mC : (lC, listOf #[.ref c1, .ref c2, .ref c3] nC) ∈ led) (mc1 : (c1, tupObj (c1, (0, a1), (9, b1))) ∈ led) (mc2 : (c2, tupObj (c2, (9, a2), (9, b2))) ∈ led) (mc3 : (c3, tupObj (c3, (18, a3), (9, b3))) ∈ led)
    (hsp : nums sp = ordI 0) (hspt : TokOk sp tks) (hqt : TokOk qs tkq) (hnm : strsOf nm = (List.range 27).map flagName) (hcnt : ((nums qs).filter fun a => decide (qs[kk].1 ≤ a)).length = cnt) (htk : 75 < s.toks)
    (hQ : ∀ h' tk m' tab, Fr g L h' m' → News g L h' [(116, tabObj tab)] → TriplesOk tab.toList → Q (.ret (.bool true)) { s with heap := h', toks := tk }) :
    wpAny (model pw w) (callerA.deeper (lawEnv (hd.heap_39 w.params) L fa cd)) (execs (bodyIn (hd.heap_39 w.params) 154 7) (lawEnv (hd.heap_39 w.params) L fa cd)) Q E s := by
  have hne6 : L + 1 + 1 + 1 ≠ 116 := Nat.ne_of_gt (Nat.lt_succ_of_lt (Nat.lt_succ_of_lt (Nat.lt_succ_of_lt l116)))
  have spl : sp.length = 27 := by have := congrArg List.length hsp; rw [List.length_map, ordI_len (by decide)] at this; exact this
  have h116 : g.get? 116 = none := (N _ m6).2.2
  refine law_there X T F N mS spl ?_
  intro h1 tk1 Dt Db th nb htk1 hth F1 N1 lt1 ltb1
  have up : ∀ {p}, p ∈ led → p ∈ (Db, listOf (tInts th).toArray nb) :: (Dt, listOf (tInts (pickP sp [0, 3, 6, 9, 12, 15, 18, 21, 24, 1, 4, 7, 10, 13, 16, 19, 22, 25, 2, 5, 8, 11, 14, 17, 20, 23, 26])).toArray 0) :: led := fun hp => .tail _ (.tail _ hp)
  refine pick_led (.head _) (.tail _ (.head _)) (up mS) (up mD) (up mN) (up mC) (up mc1) (up mc2) (up mc3) (up mR) (up mL) fun fx fDb fDt fS fD fN fC f1 f2 f3 fR fL hall hin => ?_
  have hfa : ∀ p ∈ fx, p.1 ≠ 116 ∧ p.1 ≠ L + 1 + 1 + 1 := by
    have lst : ∀ {a : Addr} {its : Array Value} {n : Nat} {c : Value}, (a, ({ cls := c, data := .seq its n } : Obj)) ∈ (Db, listOf (tInts th).toArray nb) :: (Dt, listOf (tInts (pickP sp [0, 3, 6, 9, 12, 15, 18, 21, 24, 1, 4, 7, 10, 13, 16, 19, 22, 25, 2, 5, 8, 11, 14, 17, 20, 23, 26])).toArray 0) :: led → a ≠ 116 ∧ a ≠ L + 1 + 1 + 1 := fun hm => ⟨ne_data N1 hm (up m6) (fun h => nomatch h), ne_data N1 hm (up m3) (by rw [d3]; exact fun h => nomatch h)⟩
    exact hall (fun p => p.1 ≠ 116 ∧ p.1 ≠ L + 1 + 1 + 1) (lst (.head _)) (lst (.tail _ (.head _))) (lst (up mS)) (lst (up mD)) (lst (up mN)) (lst (up mC)) (lst (up mc1)) (lst (up mc2)) (lst (up mc3)) ⟨Nat.ne_of_gt (Nat.lt_succ_of_lt l116), Nat.ne_of_lt (Nat.lt_succ_of_lt (Nat.lt_succ_self _))⟩ ⟨Nat.ne_of_gt (Nat.lt_succ_of_lt (Nat.lt_succ_of_lt l116)), Nat.ne_of_lt (Nat.lt_succ_self _)⟩
  have N2 : News g L h1 ((L + 1 + 1 + 1, o3) :: (116, tabObj #[]) :: fx) := news_cons N1 (up m3) (news_cons N1 (up m6) (news_sub N1 hin))
  clear N1 up
  refine law_start X T (fr_top (x := "stay") F1 rfl) N2 d3 (fun p hp => by
    rcases List.mem_cons.mp hp with rfl | hp
    · exact hne6.symm
    · exact (hfa p hp).2) (.tail _ fS) spl (.tail _ fR) dR (.tail _ fL) dL (.tail _ fD) hql ?_
  intro h3 tk3 G nG oG t3 htk3 F3 dG N3 lG lGc
  dsimp only at htk1 htk3
  have hG6 : G ≠ 116 := Nat.ne_of_gt (lG (116, tabObj #[]) (.head _))
  have N4 := news_sub N3 (b := (L + 1 + 1 + 1, oG) :: (116, tabObj #[]) :: (G, listOf (tInts sp).toArray nG) :: fx) (all_cons (.head _) (all_cons (.tail _ (.tail _ (.head _))) (all_cons (.tail _ (.head _)) fun p hp => (.tail _ (.tail _ (.tail _ hp))))))
  refine law_loop X T C h116 (fr_top (x := "flags") (fr_top (x := "there") (fr_top (x := "back") (fr_top (x := "stay") (fr_top (x := "columns") F3 rfl) rfl) rfl) rfl) rfl) N4 dG hfa hne6 ⟨hG6, Nat.ne_of_gt lGc⟩ fR dR fL dL fD fS fDt fDb fC f1 f2 f3 hsp (nums_pick hsp) (hth.trans (by decide)) hql (plan hsp hspt hql) (show 264 < tk3 by omega) ?_
  intro h5 tk5 G5 n5 o5 tab ex m5 t5 htk5 F5 hLoc d5 N5 hT5
  obtain ⟨u, rfl⟩ := hLoc
  have hlv : qs[kk].1 ∈ nums qs := List.mem_map_of_mem (List.getElem_mem hkk)
  have hpe := fin_perm (sp := sp) hsp hql
  have hlq : (nums qs).length = 27 := by rw [List.length_map]; exact hql
  have hg5 : (GG sp qs 4).length = 27 := by have := hpe.length_eq; rw [List.length_map, hlq] at this; exact this
  have hc27 : cnt ≤ 27 := by
    rw [← hcnt]
    exact Nat.le_trans (List.length_filter_le _ _) (Nat.le_of_eq hlq)
  have Fa := fr_top (x := "count") (v := some (.int (cnt : Int) tc)) F5 rfl
  have Fb := fr_top (x := "names") (v := some (.ref Dn)) Fa rfl
  have Fc := fr_top (x := "flags") (v := some (.int ((FF sp qs qs[kk].1 4 : Nat) : Int) t5)) Fb rfl
  refine law_end (gp := GG sp qs 4) (qs := qs) (fl := FF sp qs qs[kk].1 4) (cnt := cnt) (lv := qs[kk].1) X T Fc N5 (.head _) d5 (.tail _ (.tail _ (.head _))) (.tail _ (.tail _ (.tail _ (List.mem_append_left _ fR)))) dR (.tail _ (.tail _ (.tail _ (List.mem_append_left _ fL)))) dL (.tail _ (.tail _ (.tail _ (List.mem_append_left _ fD)))) (.tail _ (.tail _ (.tail _ (List.mem_append_left _ fN))))
    hg5 hql hnm (FF_lt _ _ _ _) (show 264 < tk5 from htk5) hc27 (fin_sorted hsp hql) hpe (by rw [← hcnt]; exact fin_names hsp hql hlv) (fun r hr => by rw [← hcnt]; exact fin_left hpe hlq hr) (fun r hr => by rw [← hcnt]; exact fin_right hpe hlq hr) (tok_same hqt hkk _ (List.getElem_mem hkk)).1 (tok_same hqt hkk) ?_
  intro h6 tk6 m6' F6 N6
  exact hQ h6 tk6 m6' tab F6 (news_sub N6 fun p hp => by rcases List.mem_singleton.mp hp with rfl; exact .tail _ (.head _)) hT5.ok
end Mine
end

section
open PySem PySem.W PyProof.Rows
open PySem.Calls PySem.Spec
namespace Mine
theorem words_val : Txt.words (Str.ofString "OPTIMIZED NEWLOCALS VARARGS VARKEYWORDS NESTED GENERATOR NOFREE COROUTINE ITERABLE_COROUTINE ASYNC_GENERATOR") = flagWords := by decide +kernel
theorem TokOk.set {ps : List (Int × Tok)} {a b k : Nat} {p : Int × Tok} (h : TokOk ps a) (h0 : 0 < p.2) (h1 : a ≤ p.2) (h2 : p.2 < b) : TokOk (ps.set k p) b := by
  constructor
  · intro q hq
    rcases List.mem_or_eq_of_mem_set hq with hq | rfl
    · exact ⟨(h.lt q hq).1, Nat.lt_of_lt_of_le (h.lt q hq).2 (Nat.le_of_lt (Nat.lt_of_le_of_lt h1 h2))⟩
    · exact ⟨h0, h2⟩
  · refine List.pairwise_iff_getElem.mpr fun i j hi hj hij => ?_
    rw [List.length_set] at hi hj
    rw [List.getElem_set, List.getElem_set]
    have hi' := (h.lt _ (List.getElem_mem hi)).2
    have hj' := (h.lt _ (List.getElem_mem hj)).2
    split
    · rw [if_neg (by omega)]
      exact Nat.ne_of_gt (Nat.lt_of_lt_of_le hj' h1)
    · split
      · exact Nat.ne_of_lt (Nat.lt_of_lt_of_le hi' h1)
      · exact List.pairwise_iff_getElem.mp h.ne i j hi hj hij
theorem upd_mid {d : Addr} {o o' : Obj} : ∀ (pre post : List (Addr × Obj)), (∀ p ∈ pre, p.1 ≠ d) → (∀ p ∈ post, p.1 ≠ d) → Upd d o o' (pre ++ (d, o) :: post) (pre ++ (d, o') :: post)
  | [], _, _, h => .head h
  | p :: r, post, h1, h2 => .tail (h1 p (.head _)) (upd_mid r post (fun q hq => h1 q (.tail _ hq)) h2)
theorem setL_some : ∀ (l : List Value) (k : Nat) (v : Value), k < l.length → ki_setL l k v = some (l.set k v)
  | [], _, _, h => absurd h (by simp)
  | _ :: r, 0, v, _ => rfl
  | x :: r, k + 1, v, h => by
    unfold ki_setL
    rw [setL_some r k v (by simpa using h)]
    rfl

theorem g3 {a n t : Nat} (h : a + 3 * n < t) : a + 3 * (n + 1) < t + 1 + 1 + 1 := by omega
theorem t156 {a b c d : Nat} (h1 : a ≤ b) (h2 : b < c) (h3 : d = c + 1) : a ≤ d + 1 + 1 := by omega
theorem t157 {d e : Nat} (h : e = d + 1 + 1 + 1) : d + 1 + 1 < e := by omega
theorem t158 {x a b c d e : Nat} (h0 : x + 81 < a) (h1 : a ≤ b) (h2 : b < c) (h3 : d = c + 1) (h4 : e = d + 1 + 1 + 1) : x + 81 < e := by omega
theorem fm27 {z : Int} (h0 : 0 ≤ z) (h1 : z < 27) : ∃ kk : Nat, z = (kk : Int) ∧ kk < 27 := ⟨z.toNat, by omega, by omega⟩
theorem lt63 {k : Nat} (h : k < 27) : (k : Int) < 2 ^ 63 := by omega
theorem tn10 (n : Nat) : (10 + (n : Int)).toNat = 10 + n := by omega
theorem t308 {x a b c d e f g h i j : Nat} (h0 : x + 81 < a) (h1 : a ≤ b) (h2 : c = b) (h3 : d = c) (h4 : d ≤ e) (h5 : e ≤ f) (h6 : f ≤ g) (h7 : g ≤ h) (h8 : h + 1 + 1 + 1 ≤ i) (h9 : j = i + 1 + 1 + 1 + 1 + 1 + 1 + 1 + 1) : 75 < j := by omega
theorem add17 {n : Nat} (h : n < 17) : 10 + n < 32 := by omega
theorem le_thou {a b : Nat} (h : a ≤ b) (hb : b = 27) : (a : Int) < 2 ^ 63 := by omega

set_option maxRecDepth 100000 in
set_option maxHeartbeats 4000000 in
theorem law : PySem.Challenge.rw_wb0049_01.Holds := by
  refine hd ?_
  k_go0
  rename Fr _ _ _ _ => F1
  rename News _ _ _ _ => N1
  rename Top _ _ _ _ _ _ => T
  rename Frag.In _ _ => X
  rename IntsAre _ _ => hI
  rename ¬ (63 : Int) < _ => hc63
  rename_i h1 tk1 o3 o2 o1 d3 d2 d1 X0 K0 l116
  clear X0
  replace d1 : o1.data = .cell none := d1
  replace d2 : o2.data = .cell none := d2
  replace d3 : o3.data = .cell none := d3
  rename World => w
  rename Shared => s₁
  rename Str → Option Value => mb
  rename_i vs as' hLs ra w1 r0 hr hc1 hD
  rename List Int => ns
  rename_i w2 w3 a0
  clear hD hr r0 w1 ra hLs hc1
  replace F1 : Fr (ghostOf s₁.heap [(120, 116)]) s₁.heap.objs.size h1 (fun y => if y = "script" then some (.ref a0) else none) := F1
  generalize hg : ghostOf s₁.heap [(120, 116)] = g at *
  generalize hL : s₁.heap.objs.size = L at *
  show wpAny _ _ _ _ _ _
  try k_fold
  repeat' ((fail_if_success (with_reducible show wpAny _ _ (eval (Expr.ListComp _ _ _ _) _) _ _ _)); (first | k_unfold | walk1 | (dsimp only; walk1)))
  refine comp_start rfl rfl (by decide) ?_
  repeat' ((fail_if_success (with_reducible show wpAny _ _ (call (Value.type _) _ _) _ _ _)); (first | k_unfold | walk1 | (dsimp only; walk1)))
  refine call_range_1 ?_
  dsimp only
  refine comp_range (n := 27) (a := 0) (b := 27) (fun vs ys tk => ∃ ps : List (Int × Tok), ys = tInts ps ∧ ps.length = vs.length ∧ TokOk ps tk ∧ tk1 + 3 * vs.length < tk) ?mono rfl (by rw [sizeLine_eq]; decide) (by decide) rfl rfl (IsRange.new _ _ _ _ _ _ _) (by decide) (by decide) (by decide) (by decide) (by decide) (F1.push _) (fun p hp => ⟨Heap.get?_push_of_some _ (N1 p hp).1, (N1 p hp).2⟩) ?h0 ?elt ?fin
  case mono => rintro vs ys a b ⟨ps, h1, h2, h3, h4⟩ hab; exact ⟨ps, h1, h2, h3.mono hab, Nat.lt_of_lt_of_le h4 hab⟩
  case h0 => exact ⟨[], rfl, rfl, TokOk.nil _, by show tk1 + 0 < tk1 + 3; exact Nat.lt_add_of_pos_right (by decide)⟩
  case elt =>
    rintro vs ys t C h tk m₂ E' hlt ⟨ps, rfl, hpl, hpt, hpk⟩ hC hn hm hk
    repeat' ((fail_if_success (with_reducible show Keeps _ _ ∧ _)); (first | k_unfold | walk1 | (dsimp only; walk1)))
    refine ⟨⟨_, _, rfl, fun _ _ e => e⟩, ps ++ [(_, _)], by simp only [List.map_append, List.map_cons, List.map_nil]; rfl, by simp [hpl], hpt.snoc ?_ ?_ ?_, ?_⟩
    · exact Nat.succ_pos _
    · exact Nat.le_trans (Nat.le_succ _) (Nat.le_succ _)
    · exact Nat.lt_succ_self _
    · show tk1 + 3 * (vs ++ [_]).length < tk + 1 + 1 + 1
      rw [List.length_append, List.length_singleton]; exact g3 hpk
  case fin =>
    rintro D h2 tk2 vs2 ys2 nn hlen ⟨ps, rfl, hpl, hpt, hpk⟩ F2 N2 hD
    rw [hlen] at hpl hpk
    clear hlen vs2
    have o1D : L + 1 < D := hD (L + 1, o1) (.tail _ (.tail _ (.head _)))
    have o2D : L + 1 + 1 < D := hD _ (.tail _ (.head _))
    have o3D : L + 1 + 1 + 1 < D := hD _ (.head _)
    have o6D : 116 < D := hD (116, tabObj #[]) (.tail _ (.tail _ (.tail _ (.head _))))
    have hD' : ∀ {oR : Obj}, ∀ p ∈ ([(L + 1 + 1 + 1, o3), (L + 1 + 1, o2), (L + 1, oR), (116, tabObj #[])] : List (Addr × Obj)), p.1 < D := all_cons (hD _ (.head _)) (all_cons (hD _ (.tail _ (.head _))) (all_cons o1D (all_cons (hD _ (.tail _ (.tail _ (.tail _ (.head _))))) fun _ h => nomatch h)))
    repeat' ((fail_if_success (with_reducible show wpAny _ _ (execs (Stmt.For _ _ _ _ _ :: _) _) _ _ _)); (first | k_unfold | walk1 | (dsimp only; walk1)))
    dsimp only
    repeat' ((fail_if_success (with_reducible show wpAny _ _ (exec (Stmt.For _ _ _ _ _) _) _ _ _)); (first | k_unfold | walk1 | (dsimp only; walk1)))
    refine wpAny_For ?_
    repeat' ((fail_if_success (with_reducible show wpAny _ _ (call (Value.type _) _ _) _ _ _)); (first | k_unfold | walk1 | (dsimp only; walk1)))
    rename Fr _ _ _ _ => F3
    rename News _ _ _ _ => N3
    rename IntsAre _ (List.take 60 ns) => hI60
    rename_i _ oR dR S ws _ _ _ lS
    refine fr_name F3 fun m0 em0 F3 => ?_
    have hlt60 : ws.length ≤ 60 := by rw [hI60.length]; exact List.length_take_le _ _
    refine for_enum (L := L) (items := ws) (fun i m news tk => ∃ (qs : List (Int × Tok)) (n : Nat), news = [(S, listOf ws.toArray 0), (D, listOf (tInts qs).toArray n), (L + 1 + 1 + 1, o3), (L + 1 + 1, o2), (L + 1, oR), (116, tabObj #[])] ∧ qs.length = 27 ∧ TokOk qs tk ∧ tk1 + 81 < tk ∧ Loc m0 ["k", "x"] [] m) rfl rfl rfl rfl rfl rfl rfl F3 N3 ?h0 ?hl ?turn ?done
    case h0 => subst em0; exact ⟨ps, nn, rfl, hpl, hpt.mono (Nat.le_succ _), (Nat.lt_succ_of_lt hpk), Loc.mk (by kst_all) (fun _ _ _ => rfl)⟩
    case hl => rintro i m' news' h tk ⟨qs, n, rfl, _⟩ F N; exact ⟨_, (N _ (.head _)).1, rfl, _, rfl⟩
    case turn =>
      rintro i v m₁ news₁ h₂ tk₁ tk₂ ti own hv ⟨qs, n, rfl, hql, hqt, hqk, u, rfl⟩ hti htk hI hIl F4 N4
      subst em0
      have hvx : ∃ x tx, v = .int x tx := by
        obtain ⟨t, h⟩ := hI60.int_at i v hv
        exact ⟨_, t, h⟩
      obtain ⟨x, tx, rfl⟩ := hvx
      dsimp only [kstB] at F4
      refine wpAny_assign_Name ?_
      show wpAny _ _ _ _ _ _
      k_fold
      repeat' ((fail_if_success (with_reducible show wpAny _ _ (execs (Stmt.AugAssign _ _ _ _ :: _) _) _ _ _)); (first | k_unfold | walk1 | (dsimp only; walk1)))
      dsimp only
      refine gen_toks fun tk5 htk5 => ?_
      show wpAny _ _ _ _ _ _
      repeat' ((fail_if_success (with_reducible show wpAny _ _ (getItem _ _) _ _ _)); (first | k_unfold | walk1 | (dsimp only; walk1)))
      rename Fr _ _ _ _ => F5
      rename News _ _ _ _ => N5
      have hk27 : ((i : Int).fmod 27) = ((i % 27 : Nat) : Int) := by rw [Int.fmod_eq_emod_of_nonneg _ (by decide)]; rfl
      have hki : i % 27 < qs.length := by rw [hql]; exact Nat.mod_lt _ (by decide)
      rw [hk27]
      refine wpAny_getItem_list (x := .int qs[i % 27].1 qs[i % 27].2) ⟨_, (N5 (D, _) (List.mem_append_right _ (.tail _ (.head _)))).1, rfl, _, rfl⟩ (Int.natCast_nonneg _) (lt63 (Nat.mod_lt _ (by decide))) (by rw [Int.toNat_natCast]; simp [hki]) ?_
      repeat' ((fail_if_success (with_reducible show wpAny _ _ (setItem _ _ _) _ _ _)); (first | k_unfold | walk1 | (dsimp only; walk1)))
      rename Fr _ _ _ _ => F6
      rename News _ _ _ _ => N6
      dsimp only
      have hset : ∀ t, ki_setL (tInts qs).toArray.toList ((i % 27 : Nat) : Int).toNat (Value.int (qs[i % 27].1 + x) t) = some (tInts (qs.set (i % 27) (qs[i % 27].1 + x, t))) := fun t => by
        rw [Int.toNat_natCast, setL_some _ _ _ (by simp [hki])]
        simp [List.map_set]
      have hne : ∀ q ∈ own, q.1 ≠ D := fun q hq => (hI (D, _) (.tail _ (.head _)) q hq).symm
      refine ki_set (n := n) F6 N6 (Int.natCast_nonneg _) (lt63 (Nat.mod_lt _ (by decide))) (hset _) (by
        have := upd_mid (d := D) (o := listOf (tInts qs).toArray n) (o' := listOf (tInts (qs.set (i % 27) (qs[i % 27].1 + x, tk5 + 1 + 1))).toArray n) (own ++ [(S, listOf ws.toArray 0)]) [(L + 1 + 1 + 1, o3), (L + 1 + 1, o2), (L + 1, oR), (116, tabObj #[])] (fun q hq => by
          rcases List.mem_append.mp hq with hq | hq
          · exact hne q hq
          · rcases List.mem_singleton.mp hq with rfl
            exact Nat.ne_of_gt lS.1) (fun q hq => Nat.ne_of_lt (hD' q hq))
        rw [List.append_assoc, List.append_assoc] at this
        exact this) ?_
      intro h7 F7 N7
      repeat' ((fail_if_success (with_reducible show wpAny _ _ (execs [] _) _ _ _)); (first | k_unfold | walk1 | (dsimp only; walk1)))
      dsimp only
      refine gen_toks fun tk8 htk8 => ?_
      show wpAny _ _ _ _ _ _
      repeat' (first | k_unfold | walk1 | (dsimp only; walk1))
      refine LEnd.mk (nx := [(S, listOf ws.toArray 0), (D, listOf (tInts (qs.set (i % 27) (qs[i % 27].1 + x, tk5 + 1 + 1))).toArray n), (L + 1 + 1 + 1, o3), (L + 1 + 1, o2), (L + 1, oR), (116, tabObj #[])]) F7 N7 (fun q hq => List.mem_append_left _ hq) (fun q hq => List.mem_append_right _ hq) (all_cons (hI (S, listOf ws.toArray 0) (.head _)) (all_cons (hI (D, listOf (tInts qs).toArray n) (.tail _ (.head _))) (all_cons (hI (L + 1 + 1 + 1, o3) (.tail _ (.tail _ (.head _)))) (all_cons (hI (L + 1 + 1, o2) (.tail _ (.tail _ (.tail _ (.head _))))) (all_cons (hI (L + 1, oR) (.tail _ (.tail _ (.tail _ (.tail _ (.head _)))))) (all_cons (hI (116, tabObj #[]) (.tail _ (.tail _ (.tail _ (.tail _ (.tail _ (.head _))))))) fun _ h => nomatch h)))))) ⟨_, n, rfl, by simp [hql], hqt.set ?_ ?_ ?_, ?_, Loc.mk (fun _ h => nomatch h) (by ksw_same)⟩
      · exact Nat.succ_pos _
      · exact t156 hti htk htk5
      · exact t157 htk8
      · exact t158 hqk hti htk htk5 htk8
    case done =>
      rintro m₁ news₁ h₂ tk₁ tk₂ ⟨qs, n, rfl, hql, hqt, hqk, u, rfl⟩ htk F4 N4
      subst em0
      dsimp only [kstB] at F4
      show wpAny _ _ _ _ _ _
      k_fold
      refine gen_toks fun tk9 htk9 => ?_
      show wpAny _ _ _ _ _ _
      repeat' ((fail_if_success (with_reducible show wpAny _ _ (execs (Stmt.Assign _ _ _ :: _) _) _ _ _)); (first | k_unfold | walk1 | (dsimp only; walk1)))
      dsimp only
      refine gen_toks fun tk10 htk10 => ?_
      show wpAny _ _ _ _ _ _
      repeat' ((fail_if_success (with_reducible show wpAny _ _ (exec (Stmt.Assign _ _ _) _) _ _ _)); (first | k_unfold | walk1 | (dsimp only; walk1)))
      refine wpAny_with_toks (n := tk10) (Nat.le_refl _) ?_
      repeat' ((fail_if_success (with_reducible show wpAny _ _ (subscriptTail _ _ _ (Value.int _ _)) _ _ _)); (first | k_unfold | walk1 | (dsimp only; walk1)))
      rename Fr _ _ _ _ => F5
      rename News _ _ _ _ => N5
      have hkkx : ∃ kk : Nat, ((8 + (List.take 60 ns).sum).fmod 27) = (kk : Int) ∧ kk < 27 := by
        have h0 : 0 ≤ ((8 + (List.take 60 ns).sum).fmod 27) := Int.fmod_nonneg_of_pos _ (by decide)
        have h1 : ((8 + (List.take 60 ns).sum).fmod 27) < 27 := Int.fmod_lt_of_pos _ (by decide)
        exact fm27 h0 h1
      obtain ⟨kk, hkk, hkk27⟩ := hkkx
      rw [hkk]
      have hkq : kk < qs.length := by rw [hql]; exact hkk27
      refine PyProof.Rows.item_list (x := .int qs[kk].1 qs[kk].2) ⟨_, (N5 (D, _) (.tail _ (.tail _ (.head _)))).1, rfl, _, rfl⟩ (Int.natCast_nonneg _) (lt63 hkk27) (by rw [Int.toNat_natCast]; simp [hkq]) ?_
      repeat' ((fail_if_success (with_reducible show wpAny _ _ (execs (Stmt.Assign _ _ _ :: _) _) _ _ _)); (first | k_unfold | walk1 | (dsimp only; walk1)))
      dsimp only
      rename tk10 ≤ _ => hle10
      dsimp only at hle10
      refine gen_toks fun tk11 htk11 => ?_
      rw [← htk11] at hle10
      show wpAny _ _ _ _ _ _
      rename_i o2' _ _ dL
      repeat' ((fail_if_success (with_reducible show wpAny _ _ (exec (Stmt.Assign _ _ _) _) _ _ _)); (first | k_unfold | walk1 | (dsimp only; walk1)))
      refine wpAny_with_toks (n := tk11) (Nat.le_refl _) ?_
      repeat' ((fail_if_success (with_reducible show wpAny _ _ (eval (Expr.ListComp _ _ _ _) _) _ _ _)); (first | k_unfold | walk1 | (dsimp only; walk1)))
      rename Fr _ _ _ _ => F6
      rename News _ _ _ _ => N6
      refine comp_ge (l := D) (c := L + 1 + 1) (co := o2') (b := qs[kk].1) (tb := qs[kk].2) (ps := qs) rfl (by decide) rfl (by decide) rfl (fun _ => rfl) rfl (by decide) (by decide) rfl (by rw [hql]; decide) F6 N6 (N6 (L + 1 + 1, o2') (.tail _ (.tail _ (.tail _ (.tail _ (.head _)))))).1 dL ⟨_, (N6 (D, _) (.tail _ (.tail _ (.head _)))).1, rfl, _, rfl⟩ (fun Q' E' h => nameX_C N6 rfl (.tail _ (.tail _ (.tail _ (.tail _ (.tail _ (.head _)))))) dR h) ?_
      intro D2 h7 tk12 ys hys hl2 F7 N7
      repeat' ((fail_if_success (with_reducible show wpAny _ _ (call (Value.builtin _) _ _) _ _ _)); (first | k_unfold | walk1 | (dsimp only; walk1)))
      refine call_len_list hl2 (by rw [hys]; have := List.length_filter_le (fun a => decide (qs[kk].1 ≤ a)) (nums qs); rw [List.length_map] at this; exact le_thou this hql) ?_
      rw [hys]
      repeat' ((fail_if_success (with_reducible show wpAny _ _ (execs (Stmt.Assign _ _ _ :: _) _) _ _ _)); (first | k_unfold | walk1 | (dsimp only; walk1)))
      dsimp only
      rename tk11 ≤ _ => hle11
      dsimp only at hle11
      refine gen_toks fun tk13 htk13 => ?_
      rw [← htk13] at hle11
      show wpAny _ _ _ _ _ _
      rename Fr _ _ _ _ => F8
      rename News _ _ _ _ => N8
      generalize hcnt : (List.filter (fun a => decide (qs[kk].1 ≤ a)) (nums qs)).length = cnt at *
      repeat' ((fail_if_success (with_reducible show wpAny _ _ (exec (Stmt.Assign _ _ _) _) _ _ _)); (first | k_unfold | walk1 | (dsimp only; walk1)))
      refine wpAny_with_toks (n := tk13) (Nat.le_refl _) ?_
      repeat' ((fail_if_success (with_reducible show wpAny _ _ (call (Value.builtin "str.split") _ _) _ _ _)); (first | k_unfold | walk1 | (dsimp only; walk1)))
      rename Fr _ _ _ _ => F9
      rename News _ _ _ _ => N9
      refine KSpl.split0 F9 N9 ?_ (by rw [sizeLine_eq]; decide)
      intro Dn lw h10 tk14 hlw hsw F10 N10 hDn
      rw [words_val] at hlw
      repeat' ((fail_if_success (with_reducible show wpAny _ _ (execs (Stmt.AugAssign _ _ _ _ :: _) _) _ _ _)); (first | k_unfold | walk1 | (dsimp only; walk1)))
      dsimp only
      rename tk13 ≤ _ => hle13
      dsimp only at hle13
      refine gen_toks fun tk15 htk15 => ?_
      rw [← htk15] at hle13
      show wpAny _ _ _ _ _ _
      repeat' ((fail_if_success (with_reducible show wpAny _ _ (exec (Stmt.AugAssign _ _ _ _) _) _ _ _)); (first | k_unfold | walk1 | (dsimp only; walk1)))
      refine wpAny_with_toks (n := tk15) (Nat.le_refl _) ?_
      repeat' ((fail_if_success (with_reducible show wpAny _ _ (eval (Expr.ListComp _ _ _ _) _) _ _ _)); (first | k_unfold | walk1 | (dsimp only; walk1)))
      rename Fr _ _ _ _ => F11
      rename News _ _ _ _ => N11
      refine comp_start rfl rfl (by decide) ?_
      repeat' ((fail_if_success (with_reducible show wpAny _ _ (call (Value.type _) _ _) _ _ _)); (first | k_unfold | walk1 | (dsimp only; walk1)))
      refine call_range_2 ?_
      dsimp only
      refine comp_range (n := 17) (a := 10) (b := 27) (fun vs ys _ => ∃ zs : List (Str × Tok), ys = strsT zs ∧ strsOf zs = (List.range vs.length).map fun j => flagName (10 + j)) ?mono rfl (by rw [sizeLine_eq]; decide) (by decide) rfl rfl (IsRange.new _ _ _ _ _ _ _) (by decide) (by decide) (by decide) (by decide) (by decide) (F11.push _) (fun p hp => ⟨Heap.get?_push_of_some _ (N11 p hp).1, (N11 p hp).2⟩) ?h0 ?elt ?fin
      case mono => exact fun _ _ _ _ h _ => h
      case h0 => exact ⟨[], rfl, rfl⟩
      case elt =>
        rintro vs ys t C h tk m₂ E' hlt ⟨zs, rfl, hzs⟩ hC hn hm hk
        repeat' ((fail_if_success (with_reducible show wpAny _ _ (eval (Expr.Name _ _) _) _ _ _)); (first | k_unfold | walk1 | (dsimp only; walk1)))
        refine nameG_B (fun b o e => hk b o (Heap.get?_push_of_some _ (F11.keep b o e))) X T (by k_is) boot_hex (by decide) ?_ rfl rfl rfl rfl (by decide)
        repeat' ((fail_if_success (with_reducible show wpAny _ _ (call (Value.builtin "hex") _ _) _ _ _)); (first | k_unfold | walk1 | (dsimp only; walk1)))
        have epow : (1 * 2 ^ (10 + (vs.length : Int)).toNat : Int) = ((2 ^ (10 + vs.length) : Nat) : Int) := by
          rw [Int.one_mul, tn10]; norm_cast
        rw [epow]
        refine P.hex_of_int ?_ (hex_len (add17 hlt))
        refine ⟨⟨_, _, rfl, fun _ _ e => e⟩, zs ++ [(_, _)], by simp only [List.map_append, List.map_cons, List.map_nil]; rfl, ?_⟩
        show List.map (fun q : Str × Tok => q.1) (zs ++ [(baseText "0x" 16 ((2 ^ (10 + vs.length) : Nat) : Int), _)]) = _
        have hzs' : List.map (fun q : Str × Tok => q.1) zs = _ := hzs
        rw [List.map_append, hzs', List.length_append, List.length_singleton, List.range_succ, List.map_append]
        congr 1
        show [_] = [flagName (10 + vs.length)]
        rw [flagName_hex (Nat.le_add_right _ _)]
      case fin =>
        rintro D3 h12 tk16 vs3 ys3 nn3 hlen ⟨zs, rfl, hzs⟩ F12 N12 hD3
        rw [hlen] at hzs
        clear hlen vs3
        repeat' ((fail_if_success (with_reducible show wpAny _ _ (inplaceOp _ _ _) _ _ _)); (first | k_unfold | walk1 | (dsimp only; walk1)))
        have hDne : ∀ q ∈ ([(D3, listOf (strsT zs).toArray nn3)] : List (Addr × Obj)), q.1 ≠ Dn := fun q hq => by
          rcases List.mem_singleton.mp hq with rfl
          exact Nat.ne_of_gt (hD3 (Dn, _) (.head _))
        have zl : zs.length = 17 := by have := congrArg List.length hzs; simpa using this
        have ll : lw.length = 10 := by have := congrArg List.length hlw; rw [List.length_map] at this; rw [this]; rfl
        refine iadd_lists (pre := [(D3, listOf (strsT zs).toArray nn3)]) (xs := strsT lw) (ys := strsT zs) (n := 0) F12 N12 hDne (fun q hq => Nat.ne_of_lt (hDn q hq)) (N12 _ (.head _)).1 (by rw [List.length_map, List.length_map, ll, zl]; decide) ?_
        intro h13 n13 F13 N13
        rw [show strsT lw ++ strsT zs = strsT (lw ++ zs) by simp] at N13
        have hnm : strsOf (lw ++ zs) = (List.range 27).map flagName := by
          show (lw ++ zs).map (·.1) = _
          have hzs' : zs.map (·.1) = _ := hzs
          rw [List.map_append, hlw, hzs']
          decide +kernel
        repeat' ((fail_if_success (with_reducible show wpAny _ _ (execs (Stmt.Assign _ _ _ :: _) _) _ _ _)); (first | k_unfold | walk1 | (dsimp only; walk1)))
        dsimp only
        rename tk15 ≤ _ => hle15
        dsimp only at hle15
        refine gen_toks fun tk17 htk17 => ?_
        rw [← htk17] at hle15
        show wpAny _ _ _ _ _ _
        repeat' ((fail_if_success (with_reducible show wpAny _ _ (exec (Stmt.Assign _ _ _) _) _ _ _)); (first | k_unfold | walk1 | (dsimp only; walk1)))
        refine wpAny_with_toks (n := tk17) (Nat.le_refl _) ?_
        repeat' ((fail_if_success (with_reducible show wpAny _ _ (call (Value.type _) _ _) _ _ _)); (first | k_unfold | walk1 | (dsimp only; walk1)))
        refine call_range_1 ?_
        dsimp only
        repeat' ((fail_if_success (with_reducible show wpAny _ _ (call (Value.type _) _ _) _ _ _)); (first | k_unfold | walk1 | (dsimp only; walk1)))
        rename Fr _ _ _ _ => F14
        rename News _ _ _ _ => N14
        refine call_list_rangeT (n := 27) rfl (IsRange.new _ _ _ _ _ _ _) (by decide) (Nat.succ_pos _) (F14.push _) (fun p hp => ⟨Heap.get?_push_of_some _ (N14 p hp).1, (N14 p hp).2⟩) ?_
        intro Ds h18 tk18 sp c18 hsp hspt htk18 F15 N15 hDs
        dsimp only at htk18
        repeat' ((fail_if_success (with_reducible show wpAny _ _ (execs (Stmt.Assign _ _ _ :: _) _) _ _ _)); (first | k_unfold | walk1 | (dsimp only; walk1)))
        dsimp only
        rename tk17 ≤ _ => hle17
        dsimp only at hle17
        rename Fr _ _ _ _ => F16
        rename News _ _ _ _ => N16
        rename_i u1 hu1 lu1 u2 hu2 lu2 u3 hu3 lu3 lC hlC llC tT htT ltT k1 k2 k3
        refine gen_toks fun tk19 htk19 => ?_
        have spl : sp.length = 27 := by have := congrArg List.length hsp; simpa using this
        show wpAny _ _ _ _ _ _
        rename CodeHd g _ _ => Chd
        refine' at_def (K := hd.heap_39 w.params) (f := 154) ?ho9 ?_
        case ho9 => k_is
        intro eb es
        have Fa := fr_top (x := "count") (v := some (.int (cnt : Int) (tk12 + 1))) F16 rfl
        have Fb := fr_top (x := "names") (v := some (.ref Dn)) Fa rfl
        have Fc := fr_top (x := "columns") (v := some (.ref lC)) Fb rfl
        have Fd := fr_top (x := "stay") (v := some (.ref Ds)) Fc rfl
        refine' wp_at ?eA9 ?et9 (law_tail (nD := n) (nN := n13) (nC := 0) (nS := c18) (nm := lw ++ zs) (kk := kk) (cnt := cnt) (o3 := o3) (oR := oR) (oL := o2') (D := D) (qs := qs) (c1 := u1) (c2 := u2) (c3 := u3) (lC := lC) (Dn := Dn) (a1 := tk18) (b1 := tk18 + 1) (a2 := tk18 + 1 + 1) (b2 := tk18 + 1 + 1 + 1) (a3 := tk18 + 1 + 1 + 1 + 1) (b3 := tk18 + 1 + 1 + 1 + 1 + 1) X T Chd l116 Fd N16 (.tail _ (.tail _ (.tail _ (.tail _ (.tail _ (.tail _ (.tail _ (.tail _ (.tail _ (.tail _ (.tail _ (.head _)))))))))))) d3 (.tail _ (.tail _ (.tail _ (.tail _ (.tail _ (.tail _ (.tail _ (.tail _ (.tail _ (.tail _ (.tail _ (.tail _ (.tail _ (.tail _ (.head _))))))))))))))) hql hkq (.tail _ (.tail _ (.tail _ (.tail _ (.tail _ (.tail _ (.tail _ (.tail _ (.tail _ (.tail _ (.tail _ (.tail _ (.tail _ (.head _)))))))))))))) dR (.tail _ (.tail _ (.tail _ (.tail _ (.tail _ (.tail _ (.tail _ (.tail _ (.tail _ (.tail _ (.tail _ (.tail _ (.head _))))))))))))) dL (.tail _ (.tail _ (.tail _ (.tail _ (.tail _ (.tail _ (.tail _ (.tail _ (.tail _ (.tail _ (.head _))))))))))) (.tail _ (.tail _ (.tail _ (.tail _ (.tail _ (.head _)))))) (.tail _ (.tail _ (.tail _ (.tail _ (.tail _ (.tail _ (.tail _ (.head _)))))))) (.tail _ (.head _)) (.tail _ (.tail _ (.tail _ (.tail _ (.head _))))) (.tail _ (.tail _ (.tail _ (.head _)))) (.tail _ (.tail _ (.head _))) hsp hspt hqt hnm hcnt (t308 hqk htk htk9 htk10 hle10 hle11 hle13 hle15 htk18 htk19) ?hq9)
        case eA9 => unfold lawEnv; rw [es]
        case et9 => unfold lawEnv; rw [eb, es]; rfl
        clear eb es
        intro h30 tk30 m30 tab F30 N30 hok
        dsimp only
        repeat' (first | k_unfold | walk1 | (dsimp only; walk1))
        kc_close
end Mine
end

set_option maxRecDepth 100000 in
set_option maxHeartbeats 8000000 in
theorem PySem.Challenge.cw_wb0049_01_holds : PySem.Challenge.rw_wb0049_01.Holds := by
  exact Mine.law
