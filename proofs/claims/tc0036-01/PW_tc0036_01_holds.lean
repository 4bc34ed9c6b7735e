import PyProof.Rows.All
import Wide.All
import OpenK.AllK
import Wide.FinOn
import Lean
import PySem.Challenge.RW_tc0036_01
set_option Elab.async false
set_option linter.unusedVariables false
set_option linter.unusedSimpArgs false
set_option maxRecDepth 100000
set_option maxHeartbeats 8000000
open PySem PySem.W PyProof.Rows PySem.Calls
namespace Mine36


open_top hd for PySem.Challenge.rw_tc0036_01

theorem calm_MBase : True := by w_top off; trivial
/-- room for n more nested levels -/
structure Sm (A : Around) (n : Nat) : Prop where
  hh : A.handled = none
  hd : A.depth + n ≤ 900
  hu : A.units + 20 * n ≤ 9000
theorem Sm.deeper {A : Around} {n : Nat} {env : Env} (S : Sm A (n + 1)) : Sm (A.deeper env) n :=
  ⟨S.hh, by rw [depth_deeper]; have := S.hd; omega, by rw [units_deeper]; have := S.hu; omega⟩
theorem Sm.mono {A : Around} {n m : Nat} (S : Sm A n) (h : m ≤ n) : Sm A m := ⟨S.hh, by have := S.hd; omega, by have := S.hu; omega⟩
theorem Sm.room {A : Around} {n : Nat} (S : Sm A n) : A.depth < recursionLimit := by have := S.hd; simp only [recursionLimit]; omega
theorem enterK {prog : Program} {w : World} {A : Around} {s : Shared} {K : Frag} {p : Program} {loose : List Str} {mean : ExcName → Option Value} {mg mb : Str → Option Value}
    {R : Result → Shared → Prop} {name qual : Str} {params : Arguments} {body : List Stmt} {scope : Scope} {dV kV doc pm cdv ct oc : Value} {an od : Option Addr} {osl : Array (Option Value)} {f : Addr} {args : Args} {binds : List (Str × Value)}
    (X : K.In s.heap) (T : Top p loose mean mg mb s.heap)
    (ho : K.lookup f = some ⟨oc, od, .func (fnOf name qual params body scope dV kV doc pm an cdv ct), osl⟩) (hcd : codeIn K cdv qual = true) (hroom : A.depth < recursionLimit)
    (hbind : BindsTo s (fnOf name qual params body scope dV kV doc pm an cdv ct) args binds) (hloc : ∀ y ∈ binds, scope.names.lookup y.1 = some .local)
    (h : ∀ L' h₁, Fr s.heap L' h₁ (fun y => binds.reverse.lookup y) → News s.heap L' h₁ [] → 
      wpAny (model prog w) (A.deeper (envOf qual scope L' f cdv)) (execs body (envOf qual scope L' f cdv))
        (fun fl s' => R (.ok (.ret (match fl with | .ret v => v | _ => .none))) s') (fun _ _ => False)
        { s with heap := h₁, toks := s.toks + binds.length })
    (hco : scope.isCoroutine = false) (hgen : scope.isGenerator = false) (hk : scope.kind = .function)
    (hcell : ∀ x ∈ scope.names, x.2 ≠ .cell) : codeAny (model prog w) A (.call (.ref f) args) R s := by
  refine codeAny_call_def (fd := fnOf name qual params body scope dV kV doc pm an cdv ct) (body := body) (binds := binds) hroom (X _ _ ho) rfl T.nolimit (codeRec_of X hcd) rfl hbind hcell hloc (fun h₁ hns hk₁ => ?_) hco hgen hk
  exact wpAny_mono (h s.heap.objs.size h₁ ⟨hns, hk₁, Nat.le_refl _⟩ News.nil) (fun fl s' hl => hl) fun _ _ y => y.elim
theorem hide_in {h₀ h : Heap} {D : Addr} (hk : ∀ b o, h₀.get? b = some o → h.get? b = some o) (hD : h₀.get? D = none) : ∀ b o, h₀.get? b = some o → (h.hide D).get? b = some o := fun b o e => by
  refine (Heap.hide_ne h fun q => ?_).trans (hk b o e)
  rw [q, hD] at e; cases e
theorem enterD {prog : Program} {w : World} {A : Around} {s : Shared} {K : Frag} {p : Program} {loose : List Str} {mean : ExcName → Option Value} {mg mb : Str → Option Value} {D : Addr} {oD : Obj}
    {R : Result → Shared → Prop} {name qual : Str} {params : Arguments} {body : List Stmt} {scope : Scope} {dV kV doc pm cdv ct oc : Value} {an od : Option Addr} {osl : Array (Option Value)} {f : Addr} {args : Args} {binds : List (Str × Value)}
    (X : K.In (s.heap.hide D)) (T : Top p loose mean mg mb (s.heap.hide D)) (hD : s.heap.get? D = some oD)
    (ho : K.lookup f = some ⟨oc, od, .func (fnOf name qual params body scope dV kV doc pm an cdv ct), osl⟩) (hcd : codeIn K cdv qual = true) (hroom : A.depth < recursionLimit)
    (hbind : BindsTo s (fnOf name qual params body scope dV kV doc pm an cdv ct) args binds) (hloc : ∀ y ∈ binds, scope.names.lookup y.1 = some .local)
    (h : ∀ L' h₁, Fr (s.heap.hide D) L' h₁ (fun y => binds.reverse.lookup y) → News (s.heap.hide D) L' h₁ [(D, oD)] → 
      wpAny (model prog w) (A.deeper (envOf qual scope L' f cdv)) (execs body (envOf qual scope L' f cdv))
        (fun fl s' => R (.ok (.ret (match fl with | .ret v => v | _ => .none))) s') (fun _ _ => False)
        { s with heap := h₁, toks := s.toks + binds.length })
    (hco : scope.isCoroutine = false) (hgen : scope.isGenerator = false) (hk : scope.kind = .function)
    (hcell : ∀ x ∈ scope.names, x.2 ≠ .cell) : codeAny (model prog w) A (.call (.ref f) args) R s := by
  refine codeAny_call_def (fd := fnOf name qual params body scope dV kV doc pm an cdv ct) (body := body) (binds := binds) hroom (Heap.of_hide (X _ _ ho)) rfl (T.nolimit.keeps fun b o e => Heap.of_hide e) (codeRec_of (X.keeps fun b o e => Heap.of_hide e) hcd) rfl hbind hcell hloc (fun h₁ hns hk₁ => ?_) hco hgen hk
  refine wpAny_mono (h s.heap.objs.size h₁ ⟨hns, fun b o e => hk₁ b o (Heap.of_hide e), Nat.le_of_eq (Heap.hide_size _ _)⟩ ?_) (fun fl s' hl => hl) fun _ _ y => y.elim
  intro q hq
  obtain rfl := List.mem_singleton.mp hq
  exact ⟨hk₁ _ _ hD, Nat.ne_of_lt (Heap.lt_size hD), Heap.hide_self _ _⟩
/-- all but D stays -/
def But (D : Addr) (h h' : Heap) : Prop := ∀ b o, b ≠ D → h.get? b = some o → h'.get? b = some o
theorem But.of_fr {h h' : Heap} {D L : Addr} {m : Str → Option Value} (F : Fr (h.hide D) L h' m) : But D h h' := fun b o n e => F.keep b o ((Heap.hide_ne h n).trans e)
theorem But.fr {h₀ h h' : Heap} {D L : Addr} {m : Str → Option Value} (B : But D h h') (F : Fr h₀ L h m) (hL : D ≠ L) (hn : h₀.get? D = none) : Fr h₀ L h' m := by
  obtain ⟨oL, a1, a2, hoL, a3⟩ := F.ns
  refine ⟨⟨oL, a1, a2, B L oL hL.symm hoL, a3⟩, fun b x e => B b x ?_ (F.keep b x e), F.above⟩
  rintro rfl
  rw [hn] at e
  cases e
theorem But.news {h₀ h h' : Heap} {D L : Addr} {o o' : Obj} {pre post : List (Addr × Obj)} (B : But D h h') (N : News h₀ L h (pre ++ (D, o) :: post)) (h1 : ∀ p ∈ pre, p.1 ≠ D) (h2 : ∀ p ∈ post, p.1 ≠ D) (ho : h'.get? D = some o') :
    News h₀ L h' (pre ++ (D, o') :: post) := by
  intro p hp
  rcases List.mem_append.mp hp with hp | hp
  · have z := N p (List.mem_append.mpr (.inl hp))
    exact ⟨B _ _ (h1 p hp) z.1, z.2⟩
  · rcases List.mem_cons.mp hp with rfl | hp
    · exact ⟨ho, (N (D, o) (List.mem_append.mpr (.inr (.head _)))).2⟩
    · have z := N p (List.mem_append.mpr (.inr (.tail _ hp)))
      exact ⟨B _ _ (h2 p hp) z.1, z.2⟩
def Hold (P : Prop) : Prop := P
theorem hold {P : Prop} (h : Hold P) : P := h
/-- the two first pieces made one, as long as the first is above the second -/
def squash : List Str → List Str
  | x :: y :: r => if y.cps.toList < x.cps.toList then squash ((x ++ y) :: r) else x :: y :: r
  | l => l
termination_by l => l.length
def tot : List Str → Nat
  | [] => 0
  | x :: r => x.length + tot r
theorem seq_one {v v' : Value} {vs : List Value} : seqIndex? 1 (v :: v' :: vs).toArray.size = some 1 := by
  unfold seqIndex?
  simp
  omega
section
variable {prog : Program} {w : World} {A : Around} {s : Shared} {h₀ : Heap} {L : Addr} {m : Str → Option Value} {news : List (Addr × Obj)} {E : Value → Shared → Prop}
theorem isList_keep {h h' : Heap} {p : Addr} {its : Array Value} (hk : ∀ b o, h.get? b = some o → h'.get? b = some o) (x : h.IsList p its) : h'.IsList p its := let ⟨o, ho, r⟩ := x; ⟨o, hk _ _ ho, r⟩
theorem isList_of {h : Heap} {p : Addr} {its : Array Value} {n : Nat} (x : h.get? p = some (listOf its n)) : h.IsList p its := ⟨_, x, rfl, n, rfl⟩
theorem cat_at {l b : Addr} {xs ys : List Value} {Q : Value → Shared → Prop} (F : Fr h₀ L s.heap m) (N : News h₀ L s.heap news) (hl : s.heap.IsList l xs.toArray) (hb : s.heap.IsList b ys.toArray) (hz : xs.length + ys.length ≤ 1000)
    (h : ∀ r h', Fr h₀ L h' m → News h₀ L h' ((r, listOf (xs ++ ys).toArray 0) :: news) → (∀ p ∈ news, p.1 < r) → Q (.ref r) { s with heap := h' }) :
    wpAny (model prog w) A (binaryOp .Add (.ref l) (.ref b)) Q E s :=
  add_arrays F N hl hb (fun h' F' N' => h _ h' F' N' fun p hp => Heap.lt_size (N p hp).1) (by rw [List.size_toArray, List.size_toArray, sizeLine_eq]; omega)
theorem len_at {l : Addr} {xs : List Value} {Q : Value → Shared → Prop} (hl : s.heap.IsList l xs.toArray) (hz : xs.length ≤ 100000)
    (h : ∀ t tk, Q (.int xs.length t) { s with toks := tk }) : wpAny (model prog w) A (call (.builtin "len") [.ref l]) Q E s := by
  refine len_list hl (by rw [List.size_toArray]; omega) ?_
  have := h (s.toks + 1) (s.toks + 1 + 1)
  rwa [List.size_toArray]
theorem item_at {value slice : Expr} {l : Addr} {xs : List Value} {k : Int} {u : Tok} {v : Value} {Q : Value → Shared → Prop} (hl : s.heap.IsList l xs.toArray) (h0 : 0 ≤ k) (hk : k < 2 ^ 63) (hx : xs[k.toNat]? = some v) (h : Q v s)
    (hs : subscripted slice false (.ref l) (.int k u) = operate [.ref l, .int k u] (getItem (.ref l) (.int k u)) := by with_unfolding_all rfl) (hg : ∀ r, letTemporaryGo value (.ref l) r = pure () := by intro _; with_unfolding_all rfl) :
    wpAny (model prog w) A (subscriptTail value slice (.ref l) (.int k u)) Q E s := item_listL hl h0 hk hx h hs hg
end
theorem enterC {prog : Program} {w : World} {A : Around} {s : Shared} {K : Frag} {p : Program} {loose : List Str} {mean : ExcName → Option Value} {mg mb : Str → Option Value}
    {R : Result → Shared → Prop} {name qual : Str} {params : Arguments} {body : List Stmt} {scope : Scope} {dV kV doc pm cdv ct oc : Value} {an od : Option Addr} {osl : Array (Option Value)} {f : Addr} {args : Args} {binds : List (Str × Value)}
    (X : K.In s.heap) (T : Top p loose mean mg mb s.heap)
    (ho : K.lookup f = some ⟨oc, od, .func (fnOf name qual params body scope dV kV doc pm an cdv ct), osl⟩) (hcd : codeIn K cdv qual = true) (hroom : A.depth < recursionLimit)
    (hbind : BindsTo s (fnOf name qual params body scope dV kV doc pm an cdv ct) args binds) (hkind : (binds.all fun y => scope.names.lookup y.1 == some .local || scope.names.lookup y.1 == some .cell) = true)
    (hnd : ((cellsFrom 0 scope.names []).map (·.1)).Nodup)
    (h : ∀ L' h₁ tk cells, Fr s.heap L' h₁ (bindL (envOfC qual scope L' f cdv).kindOf binds fun _ => none) → News s.heap L' h₁ cells →
      CellsAre (bindC (envOfC qual scope L' f cdv).kindOf binds fun _ => none) (cellsFrom (L' + 1) scope.names []) cells →
      wpAny (model prog w) (A.deeper (envOfC qual scope L' f cdv)) (execs body (envOfC qual scope L' f cdv))
        (fun fl s' => R (.ok (.ret (match fl with | .ret v => v | _ => .none))) s') (fun _ _ => False)
        { s with heap := h₁, toks := tk })
    (hco : scope.isCoroutine = false) (hgen : scope.isGenerator = false) (hk : scope.kind = .function) : codeAny (model prog w) A (.call (.ref f) args) R s := by
  refine codeAny_call_function hroom (X _ _ ho) rfl hco hgen rfl (codeRec_of X hcd) (hbind _ _ _ _ ?_)
  refine wpAny_newFunctionEnv_cells hk (kindsX hkind _) fun env' he s' x => ?_
  subst he
  refine ⟨T.nolimit.keeps x.toInCall.keep, codeAny_func ?_⟩
  obtain ⟨h₁, tk, rfl, _⟩ := x.done
  have hk₁ := x.toInCall.keep
  obtain ⟨cells, NC, Y⟩ := Cl.news (h₀ := s.heap) (Nat.le_refl _) fun n c hm => ⟨x.cell n c (lookup_of_mem_nodup (cellsFrom_names scope.names 0 (s.heap.objs.size + 1) [] [] rfl ▸ hnd) hm), x.above n c hm⟩
  exact wpAny_mono (h s.heap.objs.size h₁ tk cells ⟨x.toInCall.ns, hk₁, Nat.le_refl _⟩ NC Y) (fun fl s' hl => hl) fun _ _ y => y.elim
theorem tot_squash : ∀ ls : List Str, tot (squash ls) = tot ls := by
  intro ls
  induction hn : ls.length using Nat.strongRecOn generalizing ls with
  | ind n ih =>
    match ls with
    | [] => unfold squash; rfl
    | [x] => unfold squash; rfl
    | x :: y :: r =>
      unfold squash
      split
      · rw [ih ((x ++ y) :: r).length (by rw [← hn]; simp) _ rfl]
        simp only [tot, Str.length_append]; omega
      · rfl
theorem len_squash : ∀ ls : List Str, (squash ls).length ≤ ls.length := by
  intro ls
  induction hn : ls.length using Nat.strongRecOn generalizing ls with
  | ind n ih =>
    match ls with
    | [] => unfold squash; simp
    | [x] => unfold squash; simpa using Nat.le_of_eq hn
    | x :: y :: r =>
      unfold squash
      split
      · have := ih ((x ++ y) :: r).length (by rw [← hn]; simp) _ rfl
        simp only [List.length_cons] at this hn ⊢
        omega
      · exact Nat.le_of_eq hn
/-- the pieces that the signs leave, taken from the first on -/
def up (cs : List Nat) : List Str := cs.foldl (fun ps c => squash (⟨#[c]⟩ :: ps)) []
theorem up_snoc (cs : List Nat) (c : Nat) : up (cs ++ [c]) = squash (⟨#[c]⟩ :: up cs) := by unfold up; rw [List.foldl_append]; rfl
theorem tot_up (cs : List Nat) : tot (up cs) = cs.length ∧ (up cs).length ≤ cs.length := by
  induction hn : cs.length generalizing cs with
  | zero => rw [List.length_eq_zero_iff.mp hn]; exact ⟨rfl, Nat.le_refl _⟩
  | succ n ih =>
    obtain ⟨l, a, rfl⟩ : ∃ l a, cs = l ++ [a] := ⟨cs.dropLast, cs.getLast (by intro q; rw [q] at hn; cases hn), (List.dropLast_concat_getLast _).symm⟩
    rw [List.length_append, List.length_singleton] at hn
    have hl : l.length = n := by omega
    have h := ih l hl
    rw [up_snoc]
    refine ⟨?_, ?_⟩
    · rw [tot_squash]; simp only [tot, h.1, Str.length]; simp; omega
    · have := len_squash (⟨#[a]⟩ :: up l)
      simp only [List.length_cons] at this
      omega
theorem take_snoc {α : Type} {l : List α} {i : Nat} {c : α} (h : l[i]? = some c) : l.take (i + 1) = l.take i ++ [c] := by rw [List.take_add_one, h]; rfl
theorem rev_slice (x : Str) (u : Tok) : (Txt.sliceBy x none none (-1, u)).cps.toList = x.cps.toList.reverse := by
  rw [PyProof.Rows.step_rev_list]
  apply List.ext_getElem?
  intro i
  by_cases hi : i < x.cps.size
  · have hl : i < x.length := hi
    rw [List.getElem?_map, List.getElem?_range hl, List.getElem?_reverse (by simpa using hi)]
    simp only [Option.map_some, Array.length_toList, Array.getElem?_toList]
    have : x.length = x.cps.size := rfl
    rw [this, Array.getD_eq_getD_getElem?, Array.getElem?_eq_getElem (by omega)]
    rfl
  · rw [List.getElem?_eq_none (by simp; exact Nat.not_lt.mp hi), List.getElem?_eq_none (by simpa using hi)]

section
theorem calm_MA : True := by w_top off; trivial
theorem fill0 : (fun (_ : OpenLaw) (_ : Params → Frag) => True) PySem.Challenge.rw_tc0036_01 hd.heap_39 := by k_fill; trivial
-- entering a def of the text
local macro_rules | `(tactic| walk_at "m enter") => `(tactic| (
  refine wpAny_call ?_
  refine' enterK ?k1 ?k2 ?k6 ?k7 ?k8 ?kB ?kC ?_ ?c2 ?c3 ?c4 ?c5
  (case k1 => assumption)
  (case k2 => assumption)
  (case k6 => k_is)
  (case k7 => k_is)
  (case k8 => exact Sm.room (by assumption))
  (case kB => exact BindsTo.of_eq rfl)
  (case kC => exact locs rfl)
  (case c2 => exact rfl)
  (case c3 => exact rfl)
  (case c4 => exact rfl)
  (case c5 => decide)
  intro L' h' F' N'
  dsimp only))
local macro_rules | `(tactic| walk_at "m enterD") => `(tactic| (
  refine wpAny_call ?_
  refine' enterD ?k1 ?k2 ?k3 ?k6 ?k7 ?k8 ?kB ?kC ?_ ?c2 ?c3 ?c4 ?c5
  (case k1 => assumption)
  (case k2 => assumption)
  (case k3 => assumption)
  (case k6 => k_is)
  (case k7 => k_is)
  (case k8 => exact Sm.room (by assumption))
  (case kB => exact BindsTo.of_eq rfl)
  (case kC => exact locs rfl)
  (case c2 => exact rfl)
  (case c3 => exact rfl)
  (case c4 => exact rfl)
  (case c5 => decide)
  intro L' h' F' N'
  dsimp only))
theorem gt_spec {w : World} {loose : List Str} {mean : ExcName → Option Value} {mg mb : Str → Option Value} {A : Around}
   {s : Shared} {x y : Str} {t u : Tok} {Q E : Value → Shared → Prop}
  (X : (hd.heap_39 w.params).In s.heap) (T : Top hd.view_39 loose mean mg mb s.heap) (S : Sm A 3)
  (k : ∀ h' tk, (∀ b o, s.heap.get? b = some o → h'.get? b = some o) → Q (.bool (y.cps.toList < x.cps.toList)) {s with heap := h', toks := tk}) :
  wpAny (model PySem.Challenge.rw_tc0036_01.row.prog w) A (call (.ref 52) [.str x t, .str y u]) Q E s := by
  obtain ⟨ha, dp, fr, gd, un⟩ := A
  obtain rfl : ha = none := S.hh
  walk_at "m enter"
  k_steps
  (dsimp only; exact k _ _ (Fr.keep (by assumption)))
theorem add_spec {w : World} {loose : List Str} {mean : ExcName → Option Value} {mg mb : Str → Option Value} {A : Around}
   {s : Shared} {x y : Str} {t u : Tok} {Q E : Value → Shared → Prop}
  (X : (hd.heap_39 w.params).In s.heap) (T : Top hd.view_39 loose mean mg mb s.heap) (S : Sm A 3) (hx : x.length ≤ 100000) (hy : y.length ≤ 100000)
  (k : ∀ h' tk v, (∀ b o, s.heap.get? b = some o → h'.get? b = some o) → Q (.str (x ++ y) v) {s with heap := h', toks := tk}) :
  wpAny (model PySem.Challenge.rw_tc0036_01.row.prog w) A (call (.ref 59) [.str x t, .str y u]) Q E s := by
  obtain ⟨ha, dp, fr, gd, un⟩ := A
  obtain rfl : ha = none := S.hh
  walk_at "m enter"
  k_steps
  (dsimp only; exact k _ _ _ (Fr.keep (by assumption)))
theorem setitem_spec {w : World} {loose : List Str} {mean : ExcName → Option Value} {mg mb : Str → Option Value} {A : Around}
   {s : Shared} {D : Addr} {v v' : Value} {vs : List Value} {n : Nat} {t : Tok} {Q E : Value → Shared → Prop}
  (X : (hd.heap_39 w.params).In (s.heap.hide D)) (T : Top hd.view_39 loose mean mg mb (s.heap.hide D)) (S : Sm A 3)
  (hD : s.heap.get? D = some (listOf (v :: vs).toArray n))
  (k : ∀ h' tk, But D s.heap h' → h'.get? D = some (listOf (v' :: vs).toArray n) → Q .none {s with heap := h', toks := tk}) :
  wpAny (model PySem.Challenge.rw_tc0036_01.row.prog w) A (call (.ref 87) [.ref D, .int 0 t, v']) Q E s := by
  obtain ⟨ha, dp, fr, gd, un⟩ := A
  obtain rfl : ha = none := S.hh
  walk_at "m enterD"
  k_steps
  all_goals (try (dsimp only; exact k _ _ (But.of_fr (by assumption)) (News.get (by assumption) (.head _))))
  all_goals trace_state
local macro_rules | `(tactic| walk_at "delItem ref int") => `(tactic| (k_here; k_dflt (refine' ki_del (k := 1) ?F ?N ?f ?k ?e ?U ?z ?_; (case F => k_asm); (case N => k_asm); (case U => k_upd); (case f => rfl); (case k => exact seq_one); (case e => rfl); (case z => (simp only [List.length_cons, sizeLine_eq]; omega))); intro h' F' N'))
theorem delitem_spec {w : World} {loose : List Str} {mean : ExcName → Option Value} {mg mb : Str → Option Value} {A : Around}
   {s : Shared} {D : Addr} {v v' : Value} {vs : List Value} {n : Nat} {t : Tok} {Q E : Value → Shared → Prop}
  (X : (hd.heap_39 w.params).In (s.heap.hide D)) (T : Top hd.view_39 loose mean mg mb (s.heap.hide D)) (S : Sm A 3)
  (hD : s.heap.get? D = some (listOf (v :: v' :: vs).toArray n)) (hz : vs.length ≤ 1000)
  (k : ∀ h' tk, But D s.heap h' → h'.get? D = some (listOf (v :: vs).toArray (n + 1)) → Q .none {s with heap := h', toks := tk}) :
  wpAny (model PySem.Challenge.rw_tc0036_01.row.prog w) A (call (.ref 80) [.ref D, .int 1 t]) Q E s := by
  obtain ⟨ha, dp, fr, gd, un⟩ := A
  obtain rfl : ha = none := S.hh
  walk_at "m enterD"
  k_steps
  all_goals (try (dsimp only; exact k _ _ (But.of_fr (by assumption)) (News.get (by assumption) (.head _))))
  all_goals trace_state
section
variable {w : World} {loose : List Str} {mean : ExcName → Option Value} {mg mb : Str → Option Value} {A : Around} {s : Shared} {h₀ : Heap} {L : Addr} {m : Str → Option Value} {news : List (Addr × Obj)} {Q E : Value → Shared → Prop}
theorem gt_at {x y : Str} {t u : Tok} (F : Fr h₀ L s.heap m) (N : News h₀ L s.heap news) (X : (hd.heap_39 w.params).In h₀) (T : Top hd.view_39 loose mean mg mb h₀) (S : Sm A 3)
  (k : ∀ h' tk, Fr h₀ L h' m → News h₀ L h' news → Q (.bool (y.cps.toList < x.cps.toList)) {s with heap := h', toks := tk}) :
  wpAny (model PySem.Challenge.rw_tc0036_01.row.prog w) A (call (.ref 52) [.str x t, .str y u]) Q E s :=
  gt_spec (X.keeps F.keep) (T.keeps F.keep) S fun h' tk hk => k h' tk (F.keeps hk) (N.grown hk)
theorem add_at {x y : Str} {t u : Tok} (F : Fr h₀ L s.heap m) (N : News h₀ L s.heap news) (X : (hd.heap_39 w.params).In h₀) (T : Top hd.view_39 loose mean mg mb h₀) (S : Sm A 3) (hx : x.length ≤ 100000) (hy : y.length ≤ 100000)
  (k : ∀ h' tk v, Fr h₀ L h' m → News h₀ L h' news → Q (.str (x ++ y) v) {s with heap := h', toks := tk}) :
  wpAny (model PySem.Challenge.rw_tc0036_01.row.prog w) A (call (.ref 59) [.str x t, .str y u]) Q E s :=
  add_spec (X.keeps F.keep) (T.keeps F.keep) S hx hy fun h' tk v hk => k h' tk v (F.keeps hk) (N.grown hk)
theorem setitem_at {D : Addr} {v v' : Value} {vs : List Value} {n : Nat} {t : Tok} {rest : List (Addr × Obj)} (F : Fr h₀ L s.heap m) (N : News h₀ L s.heap ((D, listOf (v :: vs).toArray n) :: rest)) (hr : ∀ p ∈ rest, p.1 ≠ D)
  (X : (hd.heap_39 w.params).In h₀) (T : Top hd.view_39 loose mean mg mb h₀) (S : Sm A 3)
  (k : ∀ h' tk, Fr h₀ L h' m → News h₀ L h' ((D, listOf (v' :: vs).toArray n) :: rest) → Q .none {s with heap := h', toks := tk}) :
  wpAny (model PySem.Challenge.rw_tc0036_01.row.prog w) A (call (.ref 87) [.ref D, .int 0 t, v']) Q E s :=
  have z := N _ (.head _)
  setitem_spec (X.keeps (hide_in F.keep z.2.2)) (T.keeps (hide_in F.keep z.2.2)) S z.1 fun h' tk hb ho => k h' tk (hb.fr F z.2.1 z.2.2) (hb.news (pre := []) N (fun _ h => nomatch h) hr ho)
theorem delitem_at {D : Addr} {v v' : Value} {vs : List Value} {n : Nat} {t : Tok} {rest : List (Addr × Obj)} (F : Fr h₀ L s.heap m) (N : News h₀ L s.heap ((D, listOf (v :: v' :: vs).toArray n) :: rest)) (hr : ∀ p ∈ rest, p.1 ≠ D)
  (X : (hd.heap_39 w.params).In h₀) (T : Top hd.view_39 loose mean mg mb h₀) (S : Sm A 3) (hz : vs.length ≤ 1000)
  (k : ∀ h' tk, Fr h₀ L h' m → News h₀ L h' ((D, listOf (v :: vs).toArray (n + 1)) :: rest) → Q .none {s with heap := h', toks := tk}) :
  wpAny (model PySem.Challenge.rw_tc0036_01.row.prog w) A (call (.ref 80) [.ref D, .int 1 t]) Q E s :=
  have z := N _ (.head _)
  delitem_spec (X.keeps (hide_in F.keep z.2.2)) (T.keeps (hide_in F.keep z.2.2)) S z.1 hz fun h' tk hb ho => k h' tk (hb.fr F z.2.1 z.2.2) (hb.news (pre := []) N (fun _ h => nomatch h) hr ho)
end
end

theorem calm_MB : True := by w_top off; trivial
-- entering a def of the text
local macro_rules | `(tactic| walk_at "m enter") => `(tactic| (
  refine wpAny_call ?_
  refine' enterK ?k1 ?k2 ?k6 ?k7 ?k8 ?kB ?kC ?_ ?c2 ?c3 ?c4 ?c5
  (case k1 => assumption)
  (case k2 => assumption)
  (case k6 => k_is)
  (case k7 => k_is)
  (case k8 => exact Sm.room (by assumption))
  (case kB => exact BindsTo.of_eq rfl)
  (case kC => exact locs rfl)
  (case c2 => exact rfl)
  (case c3 => exact rfl)
  (case c4 => exact rfl)
  (case c5 => decide)
  intro L' h' F' N'
  dsimp only))
local macro_rules | `(tactic| walk_at "m sm") => `(tactic| first | assumption | exact (Sm.deeper (by assumption)).mono (by decide) | exact Sm.mono (by assumption) (by decide))
local macro_rules | `(tactic| walk_at "call ref cons nil") => `(tactic| ((with_reducible show wpAny _ _ (call (Value.ref 52) [Value.str _ _, Value.str _ _]) _ _ _); k_dflt (refine' gt_at ?F ?N ?X ?T ?S ?_; (case F => k_asm); (case N => k_asm); (case X => k_asm); (case T => k_asm); (case S => walk_at "m sm"); intro h' tk' F' N')))
local macro_rules | `(tactic| walk_at "call ref cons nil") => `(tactic| ((with_reducible show wpAny _ _ (call (Value.ref 59) [Value.str _ _, Value.str _ _]) _ _ _); k_dflt (refine' add_at ?F ?N ?X ?T ?S ?x ?y ?_; (case F => k_asm); (case N => k_asm); (case X => k_asm); (case T => k_asm); (case S => walk_at "m sm"); (case x => omega); (case y => omega); intro h' tk' v' F' N')))
local macro_rules | `(tactic| walk_at "call ref cons nil") => `(tactic| ((with_reducible show wpAny _ _ (call (Value.ref 87) [Value.ref _, Value.int _ _, _]) _ _ _); k_dflt (refine' setitem_at ?F ?N ?r ?X ?T ?S ?_; (case F => k_asm); (case N => k_asm); (case r => exact List.forall_mem_nil _); (case X => k_asm); (case T => k_asm); (case S => walk_at "m sm"); intro h' tk' F' N')))
local macro_rules | `(tactic| walk_at "call ref cons nil") => `(tactic| ((with_reducible show wpAny _ _ (call (Value.ref 80) [Value.ref _, Value.int _ _]) _ _ _); k_dflt (refine' delitem_at ?F ?N ?r ?X ?T ?S ?z ?_; (case F => k_asm); (case N => k_asm); (case r => exact List.forall_mem_nil _); (case X => k_asm); (case T => k_asm); (case S => walk_at "m sm"); (case z => omega); intro h' tk' F' N')))
local macro_rules | `(tactic| walk_at "exec While BoolOp cons nil") => `(tactic| refine hold ?_)
local macro_rules | `(tactic| walk_at "m list") => `(tactic| first | exact News.isList (by k_asm) (by k_mem) | exact isList_keep (Fr.keep (by k_asm)) (by assumption))
local macro_rules | `(tactic| walk_at "m len") => `(tactic| ((try simp only [List.length_cons, List.length_nil]); omega))
local macro_rules | `(tactic| walk_at "binaryOp Add ref ref") => `(tactic| (k_here; k_dflt (refine' cat_at ?F ?N ?l ?b ?z ?_; (case F => k_asm); (case N => k_asm); (case l => walk_at "m list"); (case b => walk_at "m list"); (case z => walk_at "m len"); k_whole); intro r' h' F' N' l1; (try k_lt l1); (try k_sweep)))
local macro_rules | `(tactic| walk_at "call builtin:len cons nil") => `(tactic| (k_here; (with_reducible show wpAny _ _ (call _ [Value.ref _]) _ _ _); k_dflt (refine' len_at ?l ?z ?_; (case l => walk_at "m list"); (case z => walk_at "m len")); intro t' tk'))
local macro_rules | `(tactic| walk_at "subscriptTail Name Constant ref int") => `(tactic| (k_here; k_dflt (refine' item_at ?l ?a ?b ?x ?_; (case l => walk_at "m list"); (case a => decide); (case b => decide); (case x => rfl))))
theorem ahead_spec {w : World} {loose : List Str} {mean : ExcName → Option Value} {mg mb : Str → Option Value} {A : Around}
   {s : Shared} {c : Str} {t : Tok} {p : Addr} {vs : List Value} {ls : List Str} {Q E : Value → Shared → Prop}
  (X : (hd.heap_39 w.params).In s.heap) (T : Top hd.view_39 loose mean mg mb s.heap) (S : Sm A 5)
  (hp : s.heap.IsList p vs.toArray) (hv : StrsAre vs ls) (hlen : ls.length ≤ 100) (htot : c.length + tot ls ≤ 1000)
  (k : ∀ r vs' n h' tk, (∀ b o, s.heap.get? b = some o → h'.get? b = some o) → h'.get? r = some (listOf vs'.toArray n) → s.heap.get? r = none → StrsAre vs' (squash (c :: ls)) → Q (.ref r) {s with heap := h', toks := tk}) :
  wpAny (model PySem.Challenge.rw_tc0036_01.row.prog w) A (call (.ref 242) [.str c t, .ref p]) Q E s := by
  obtain ⟨ha, dp, fr, gd, un⟩ := A
  obtain rfl : ha = none := S.hh
  have hvl := hv.len_eq
  walk_at "m enter"
  k_steps
  unfold Hold
  rename_i L9 h9a tk9 l9 h9b q9 D h9c q9b h9 F9 N9
  have N9' : News s.heap L9 h9 [(D, listOf (Value.str c t :: vs).toArray 0)] := fun p hp => N9 p (by rw [List.mem_singleton.mp hp]; exact .head _)
  refine While_inv (n₀ := (c :: ls).length) (fun n m' news' => m' = _ ∧ ∃ xs us k', news' = [(D, listOf us.toArray k')] ∧ StrsAre us xs ∧ n = xs.length ∧ squash xs = squash (c :: ls) ∧ tot xs ≤ 1000 ∧ xs.length ≤ 101) F9 N9'
    ⟨rfl, c :: ls, _, 0, rfl, .cons _ _ hv, rfl, rfl, htot, by simp only [List.length_cons]; omega⟩ ?_
  rintro n m₁ news₁ h₁ tk₁ F₁ N₁ ⟨rfl, xs, us, k', rfl, hS, rfl, hsq, hto, hle⟩
  clear F9 N9 N9'
  match xs, us, hS with
  | [], _, .nil => 
    k_steps
    dsimp only
    exact k D _ _ _ _ F₁.keep (N₁ _ (.head _)).1 (N₁ _ (.head _)).2.2 (by rw [← hsq]; unfold squash; exact .nil)
  | [x], _, .cons _ tx .nil => 
    k_steps
    dsimp only
    exact k D _ _ _ _ F₁.keep (N₁ _ (.head _)).1 (N₁ _ (.head _)).2.2 (by rw [← hsq]; unfold squash; exact .cons _ _ .nil)
  | x :: y :: r, _, .cons _ tx (.cons _ ty hr) =>
    have hrl := hr.len_eq
    simp only [List.length_cons, tot] at hle hto
    k_steps
    · rename_i hlt _ _ _ _ _ _ _ _ F2 N2
      refine WhileStep.intro (by assumption) (by assumption) (n' := ((x ++ y) :: r).length) (by simp only [List.length_cons]; omega) ⟨rfl, (x ++ y) :: r, _, _, rfl, .cons _ _ hr, rfl, ?_, ?_, ?_⟩
      · rw [← hsq]
        conv => rhs; unfold squash
        rw [if_pos (by assumption)]
      · simp only [tot, Str.length_append]; omega
      · simp only [List.length_cons]; omega
    · dsimp only
      rename_i F2 N2 hnl
      exact k D _ _ _ _ F2.keep (N2 _ (.head _)).1 (N2 _ (.head _)).2.2 (by rw [← hsq]; unfold squash; rw [if_neg hnl]; exact .cons _ _ (.cons _ _ hr))
    · exfalso
      rename_i hnl
      simp only [List.length_cons] at hnl
      omega

theorem calm_MRe : True := by w_top off; trivial
theorem rp_plain : PlainAttrs "re.Pattern" :=
  ⟨⟨"object.__getattribute__", by rw [typeLookup_type, builtinLookup_eq_fast]; kernel_rfl, by decide +kernel⟩, by rw [typeLookup_type, builtinLookup_eq_fast]; kernel_rfl⟩
theorem rp_search : Slot "re.Pattern" "search" "re.Pattern.search" :=
  .of (owner := "re.Pattern") (n := "search") (by rw [typeLookup_type, builtinLookup_eq_fast]; kernel_rfl) (by decide +kernel) (by decide +kernel) (by decide +kernel)
    (by first | exact .inl (by decide +kernel) | exact .inr (by decide +kernel)) (by rw [isSubtype_type]; kernel_rfl)
theorem rp_type : typeOf (.builtin "re.Pattern.search") = pure (.type "method_descriptor") := by show builtinType _ = _; rw [builtinType_eq_fast]; kernel_rfl
theorem rp_entry : entryFor table "re.Pattern.search" = some Builtin.«re.Pattern.search» := entryFor_of_tree (by kernel_rfl)
theorem rp_owner : Manifest.owners.lookup (String.ofList ['n', 'r', 'e', 't', 't', 'a', 'P', '.', 'e', 'r'].reverse) = some Manifest.sig_re_Pattern := by kernel_rfl
theorem rp_args (a b : Value) : argsOk "re.Pattern.search" ⟨[a, b], []⟩ := by
  unfold argsOk; rw [signature?_of (id := "re.Pattern.search") (n := ['h', 'c', 'r', 'a', 'e', 's']) (o := ['n', 'r', 'e', 't', 't', 'a', 'P', '.', 'e', 'r']) (by kernel_rfl) rp_owner]; kernel_rfl
/-- no sign of the text lies in the set at the pattern's head -/
structure Clean (code : Array Nat) (x : Array Nat) : Prop where
  info : Sre.ops[code.getD 0 0]? = some .INFO
  len : code.getD 1 0 ≠ 4294967295
  set : code.getD 2 0 = 4
  least : code.getD 3 0 = 1
  out : ∀ i, i < x.size → ∀ seen, ∃ seen', Sre.inSet code (x.getD i 0) code.size 5 true seen = .ok (false, seen')
theorem admitted_none {m : Sre.M} (h : ∀ i, i < m.lim → ∀ seen, ∃ seen', Sre.inSet m.code (m.text.getD i 0) m.code.size 5 true seen = .ok (false, seen')) :
    ∀ fuel s seen, ∃ seen', m.admitted fuel s seen = .ok (none, seen')
  | 0, s, seen => ⟨seen, rfl⟩
  | fuel + 1, s, seen => by
    unfold Sre.M.admitted
    by_cases hs : s ≥ m.lim
    · exact ⟨seen, by rw [if_pos hs]⟩
    · rw [if_neg hs]
      obtain ⟨seen', e⟩ := h s (by omega) seen
      rw [e]
      exact admitted_none h fuel (s + 1) seen'
theorem attempt_fails {m : Sre.M} {s : Nat} {b : Bool} (h1 : m.hasFirstSet = true) (h : ∀ i, i < m.lim → ∀ seen, ∃ seen', Sre.inSet m.code (m.text.getD i 0) m.code.size 5 true seen = .ok (false, seen')) :
    ∃ m' : Sre.M, m.attemptFrom s b = m'.say false ∧ m'.frames = m.frames ∧ m'.outcome = m.outcome := by
  unfold Sre.M.attemptFrom
  rw [h1]
  obtain ⟨seen', e⟩ := admitted_none h (m.lim + 1 - s) s m.seen
  rw [e]
  exact ⟨_, rfl, rfl, rfl⟩
theorem search_fails {code text : Array Nat} (c : Clean code text) : ∃ m : Sre.M, Sre.forSearch code text 0 0 text.size false = m.say false ∧ m.frames = [] ∧ m.outcome = none := by
  unfold Sre.forSearch
  dsimp only
  split
  · exact ⟨_, rfl, rfl, rfl⟩
  · refine attempt_fails ?_ c.out
    show ((match Sre.ops[code.getD 0 0]? with | some .INFO => true | _ => false) && code.getD 2 0 == 4) = true
    rw [c.info, c.set]
    rfl
section
variable {prog : Program} {w : World} {A : Around} {s : Shared} {E : Value → Shared → Prop}
theorem run_fails {m : Sre.M} {Q : Option Sre.M → Shared → Prop} (h1 : m.frames = []) (h2 : m.outcome = none) (h : Q none s) :
    wpAny (model prog w) A (Builtin.Re.reRunToEnd (m.say false)) Q E s := by
  obtain ⟨code, text, lim, start, lastStart, wholeText, mustAdvance, pc, pos, handed, outermost, marks, lastmark, lastindex, loops, inner, frames, weight, answer, seen, outcome⟩ := m
  simp only at h1 h2
  subst h1 h2
  unfold Builtin.Re.reRunToEnd
  refine wpAny_bind (m := Builtin.Re.reDrive (2 ^ 64) _) ?_
  rw [show (2 ^ 64 : Nat) = (2 ^ 64 - 1) + 1 from by decide]
  unfold Builtin.Re.reDrive
  dsimp only
  refine wpAny_pure ?_
  refine wpAny_bind (wpAny_mono (Q := fun _ s' => s' = s) ?_ (fun _ s' e => ?_) fun _ _ e => e)
  · refine wpAny_forIn_list _ (fun _ _ s' => s' = s) _ ?_ (fun _ _ e => e) _ _ rfl
    rintro i rest b s' rfl
    split
    · exact wpAny_bind (wpAny_rule (wpAny_pure rfl))
    · exact wpAny_pure rfl
  · subst e
    exact wpAny_pure h
theorem named_one (v : Value) : Builtin.Re.reNamed "re.Pattern.search" "search" ["string", "pos", "endpos"] 1 [v] [] = pure [some v, none, none] := by
  kernel_rfl
theorem wpAny_ite_neg' {α : Type} {M : Model} {A : Around} {E : Value → Shared → Prop} {s : Shared} {c : Prop} [Decidable c] {a b : Sem α} {Q : α → Shared → Prop} (hc : ¬ c) (h : wpAny M A b Q E s) : wpAny M A (if c then a else b) Q E s := by rw [if_neg hc]; exact h
theorem wpAny_of_eq' {α : Type} {M : Model} {A : Around} {E : Value → Shared → Prop} {s : Shared} {a b : Sem α} {Q : α → Shared → Prop} (e : a = b) (h : wpAny M A b Q E s) : wpAny M A a Q E s := e ▸ h
theorem search_clean {pa ca : Addr} {op oc : Obj} {vs items : Array Value} {n : Nat} {x : Str} {t t2 t6 : Tok} {Q : Value → Shared → Prop} (hp : s.heap.get? pa = some op) (hcls : op.cls = .type "re.Pattern") (hd : op.data = .fields vs)
    (h5 : vs.getD 5 .none = .ref ca) (h6 : vs.getD 6 .none = .int 0 t6) (h2 : vs.getD 2 .none = .int 0 t2) (hc : s.heap.get? ca = some oc) (hcd : oc.data = .seq items n)
    (hx : x.cps.size ≤ 100000) (hcl : Clean ((items.map Builtin.Re.reRawOf).map (·.toNat)) x.cps) (h : Q .none s) : wpAny (model prog w) A (call (.builtin "re.Pattern.search") [.ref pa, .str x t]) Q E s := by
  refine wpAny_call_entry rp_search ⟨op, hp, hcls⟩ rp_entry ?_ (rp_args _ _)
  unfold Builtin.«re.Pattern.search»
  refine wpAny_bind (m := Builtin.Re.reTarget _ _ _) ?_
  unfold Builtin.Re.reTarget
  dsimp only
  refine wpAny_bind (wpAny_of_eq (named_one _) ?_)
  dsimp only
  refine wpAny_bind (wpAny_pure (wpAny_bind (wpAny_pure (wpAny_bind (wpAny_fieldsOf hp hd ?_)))))
  refine wpAny_bind (m := Builtin.Re.reTextOf _) (wpAny_of_eq (a := (x.cps, 0)) (by kernel_rfl) ?_)
  rw [h6, h5, h2]
  refine wpAny_ite_neg' ?_ (wpAny_ite_neg' ?_ ?_)
  · exact fun q => Bool.noConfusion (q : false = true)
  · exact fun q => Bool.noConfusion (q : false = true)
  refine wpAny_bind (m := Builtin.Re.reNoCollectionInside _ _) (wpAny_pure ?_)
  refine wpAny_bind (m := Builtin.Re.reRawItems _) ?_
  unfold Builtin.Re.reRawItems
  refine wpAny_bind (wpAny_seqItems hc hcd (wpAny_pure (wpAny_pure ?_)))
  have e1 : min (2 ^ 63 - 1 : Int).toNat x.cps.size = x.cps.size := by
    have : (2 ^ 63 - 1 : Int).toNat = 9223372036854775807 := by decide
    omega
  have e2 : min (Int.toNat 0) x.cps.size = 0 := by simp
  dsimp only
  unfold Builtin.Re.reAnswer
  dsimp only
  rw [e1, e2]
  obtain ⟨m, f1, f2, f3⟩ := search_fails hcl
  refine wpAny_bind (wpAny_of_eq' ?_ (run_fails f2 f3 (wpAny_pure ⟨_, rfl, h⟩)))
  rw [← f1]
  rfl
end
/-- just the signs A, B, C, a, b, c -/
def Abc (x : Str) : Prop := ∀ c ∈ x.cps.toList, c = 65 ∨ c = 66 ∨ c = 67 ∨ c = 97 ∨ c = 98 ∨ c = 99
theorem Abc.at {x : Str} (h : Abc x) {i : Nat} (hi : i < x.cps.size) : x.cps.getD i 0 = 65 ∨ x.cps.getD i 0 = 66 ∨ x.cps.getD i 0 = 67 ∨ x.cps.getD i 0 = 97 ∨ x.cps.getD i 0 = 98 ∨ x.cps.getD i 0 = 99 := by
  apply h
  rw [Array.getD_eq_getD_getElem?, Array.getElem?_eq_getElem hi, Option.getD_some]
  simp
def codeName : Array Nat := #[14, 10, 4, 1, 1, 22, 0, 31, 16, 127, 0, 13, 7, 22, 0, 31, 16, 127, 0, 1]
def codeValue : Array Nat := #[14, 14, 4, 1, 1, 9, 4294966783, 0, 0, 2147483648, 0, 0, 0, 0, 0, 13, 11, 9, 4294966783, 0, 0, 2147483648, 0, 0, 0, 0, 0, 1]
theorem clean_name {x : Str} (h : Abc x) : Clean codeName x.cps where
  info := rfl
  len := by decide
  set := rfl
  least := rfl
  out := fun i hi seen => by
    rcases h.at hi with e | e | e | e | e | e <;> rw [e] <;> exact ⟨_, rfl⟩
theorem clean_value {x : Str} (h : Abc x) : Clean codeValue x.cps where
  info := rfl
  len := by decide
  set := rfl
  least := rfl
  out := fun i hi seen => by
    rcases h.at hi with e | e | e | e | e | e <;> rw [e] <;> exact ⟨_, rfl⟩
section
variable {prog : Program} {w : World} {A : Around} {s : Shared} {E : Value → Shared → Prop} {h₀ : Heap} {L : Addr} {m : Str → Option Value} {K : Frag}
theorem search_meth {pa : Addr} {vs : Array Value} {sl : Array (Option Value)} {pl : Sem Bool} {Q : Value × List Value → Shared → Prop} (F : Fr h₀ L s.heap m) (X : K.In h₀)
    (e : K.lookup pa = some ⟨.type "re.Pattern", none, .fields vs, sl⟩) (h : Q (.builtin "re.Pattern.search", [.ref pa]) s) : wpAny (model prog w) A (getMethod (.ref pa) "search" pl) Q E s :=
  have ho := (X.keeps F.keep) _ _ e
  getMethod_builtin ⟨_, ho, rfl⟩ rp_plain rp_search rp_type (fun a q => by cases q; exact ⟨_, ho, rfl⟩) h
theorem search_name {pa ca : Addr} {vs items : Array Value} {sl sl' : Array (Option Value)} {n : Nat} {x : Str} {t t2 t6 : Tok} {dd : Option Addr} {Q : Value → Shared → Prop} (F : Fr h₀ L s.heap m) (X : K.In h₀)
    (e : K.lookup pa = some ⟨.type "re.Pattern", none, .fields vs, sl⟩) (h5 : vs.getD 5 .none = .ref ca) (h6 : vs.getD 6 .none = .int 0 t6) (h2 : vs.getD 2 .none = .int 0 t2)
    (ec : K.lookup ca = some ⟨.type "tuple", dd, .seq items n, sl'⟩) (hi : (items.map Builtin.Re.reRawOf).map (·.toNat) = codeName ∨ (items.map Builtin.Re.reRawOf).map (·.toNat) = codeValue) (hx : x.length ≤ 100000) (ha : Abc x) (h : Q .none s) :
    wpAny (model prog w) A (call (.builtin "re.Pattern.search") [.ref pa, .str x t]) Q E s :=
  search_clean ((X.keeps F.keep) _ _ e) rfl rfl h5 h6 h2 ((X.keeps F.keep) _ _ ec) rfl hx (hi.elim (fun q => q ▸ clean_name ha) fun q => q ▸ clean_value ha) h
end

theorem calm_MC : True := by w_top off; trivial
-- entering a def of the text
section
local macro_rules | `(tactic| walk_at "getMethod ref") => `(tactic| (k_here; (with_reducible show wpAny _ _ (getMethod (Value.ref _) (PySem.Str.ofString "search") _) _ _ _); k_dflt (refine' search_meth ?F ?X ?e ?_; (case F => k_asm); (case X => k_asm); (case e => k_is))))
local macro_rules | `(tactic| walk_at "call builtin:re.Pattern.search cons nil") => `(tactic| (k_here; k_dflt (refine' search_name ?F ?X ?e ?h5 ?h6 ?h2 ?ec ?hi ?hx ?ha ?_; (case F => k_asm); (case X => k_asm); (case e => k_is); (case h5 => rfl); (case h6 => rfl); (case h2 => rfl); (case ec => k_is); (case hi => first | exact .inl (by decide +kernel) | exact .inr (by decide +kernel)); (case hx => assumption); (case ha => assumption))))
theorem conv_spec {w : World} {loose : List Str} {mean : ExcName → Option Value} {mg mb : Str → Option Value} {A : Around}
   {s : Shared} {x : Value} {v : Str} {t : Tok} {b : Bool} {Q E : Value → Shared → Prop}
  (X : (hd.heap_39 w.params).In s.heap) (T : Top hd.view_39 loose mean mg mb s.heap) (S : Sm A 5) (hl : v.length ≤ 100000) (ha : Abc v)
  (k : ∀ h' tk, (∀ b o, s.heap.get? b = some o → h'.get? b = some o) → Q (.str v t) {s with heap := h', toks := tk}) :
  wpAny (model PySem.Challenge.rw_tc0036_01.row.prog w) A (call (.ref 132) [x, .str v t] [(PySem.Str.ofString "name", .bool b)]) Q E s := by
  obtain ⟨ha, dp, fr, gd, un⟩ := A
  obtain rfl : ha = none := S.hh
  walk_at "m enter"
  k_steps
  all_goals (dsimp only; exact k _ _ (Fr.keep (by assumption)))
end

theorem calm_MComp : True := by w_top off; trivial
/-- how a turn of a comprehension may end: own stands, J holds of what else stands -/
def TurnEnd (g : Heap) (C : Addr) (s₀ : Shared) (own : List (Addr × Obj)) (J : List (Addr × Obj) → Nat → Prop) (s' : Shared) : Prop :=
  ∃ h' tk m' nw im', s' = { s₀ with heap := h', toks := tk } ∧ Fr g C h' m' ∧ News g C h' nw ∧ (∀ p ∈ own, p ∈ nw) ∧ (∀ p ∈ im', p ∈ nw) ∧ (∀ p ∈ own, ∀ q ∈ im', p.1 ≠ q.1) ∧ J im' tk
section
variable {prog : Program} {w : World} {A : Around} {E : Value → Shared → Prop} {env : Env}
theorem comp_core {elt iter : Expr} {x : Str} {px : Pos} {ifs : List Expr} {scope : Scope} {cl : List (Str × Addr)} {pos : Pos} {s₂ : Shared} {g : Heap} {I : Addr} {fp wr : List Addr} {n : Nat} {P : Nat → Value → Prop} {St : Nat → Heap → Prop}
    (W : Walks prog w A I fp wr n P St) (hsz : n ≤ 1000) (hwr : ∀ b ∈ wr, b = I) (hfp : ∀ b ∈ fp, b = I ∨ ∃ o, g.get? b = some o)
    (hg : ∀ b o, g.get? b = some o → s₂.heap.get? b = some o) (hgs : g.objs.size ≤ s₂.heap.objs.size) (hI : ∃ oI, s₂.heap.get? I = some oI) (hIg : g.get? I = none) (hst : St 0 s₂.heap) (hSI : ∀ i h, St i h → ∃ o, h.get? I = some o)
    (hcell : ∀ y ∈ scope.names, y.2 ≠ .cell) (hkind : scope.kind = .function) (hx : scope.names.lookup x = some .local)
    (J : Nat → List Value → List (Addr × Obj) → Nat → Prop) (hJm : ∀ i ys im tk tk', J i ys im tk → tk ≤ tk' → J i ys im tk') (im₀ : List (Addr × Obj)) (N₀ : ∀ p ∈ im₀, s₂.heap.get? p.1 = some p.2 ∧ p.1 ≠ I ∧ g.get? p.1 = none) (j₀ : J 0 [] im₀ s₂.toks)
    (turn : ∀ i v ys im own C h tk m, i < n → P i v → J i ys im tk → s₂.heap.objs.size ≤ C → m x = some v → Fr g C h m → News g C h (own ++ im) → (∀ p ∈ own, ∀ q ∈ im, p.1 ≠ q.1) →
      wpAny (model prog w) A (forIn ifs true fun c r => if r = true then do let ok ← isTrue c (compEnvC scope cl C env) (eval c (compEnvC scope cl C env)); pure (ForInStep.yield ok) else pure (ForInStep.yield r))
        (fun ok s₃ => if ok = true then wpAny (model prog w) A (eval elt (compEnvC scope cl C env)) (fun y s₄ => TurnEnd g C s₂ own (J (i + 1) (ys ++ [y])) s₄) (fun _ _ => False) s₃ else TurnEnd g C s₂ own (J (i + 1) ys) s₃)
        (fun _ _ => False) { s₂ with heap := h, toks := tk })
    {RR : Value → Addr → Result → Shared → Prop}
    (done : ∀ D C ys k im h tk m', s₂.heap.get? D = none → s₂.heap.get? C = none → D ≠ C → h.Ns C m' → h.get? D = some (listOf ys.toArray k) → (∀ b o, g.get? b = some o → h.get? b = some o) →
      (∀ p ∈ im, h.get? p.1 = some p.2 ∧ p.1 ≠ C ∧ p.1 ≠ D ∧ g.get? p.1 = none) → J n ys im tk → RR (.ref D) C (.ok .next) { s₂ with heap := h, toks := tk }) :
    wpAny (model prog w) A (newList []) (fun acc s₃ => wpAny (model prog w) A (newFunctionEnv scope env.globals cl [] env.qual none .none (some env)) (fun cenv s₄ =>
      codeAny (model prog w) A (.compStart (.ListComp elt [⟨.Name x px, iter, ifs, 0⟩] scope pos) 0 (.ref I) acc { cenv with scope := relabel scope env }) (RR acc cenv.locals) s₄) E s₃) E s₂ := by
  refine wpAny_newObj_type (wpAny_newFunctionEnv hcell (by intro y hy; simp at hy) (fun h₁ hns₁ hsb₁ => ?_) hkind)
  dsimp only at hns₁ hsb₁ ⊢
  generalize hH2 : s₂.heap.push { cls := .type "list", dict := none, data := .seq ([] : List Value).toArray } = H2 at hns₁ hsb₁ ⊢
  have hC : H2.objs.size = s₂.heap.objs.size + 1 := by rw [← hH2, Heap.size_push]
  generalize hDD : s₂.heap.objs.size = D at hC ⊢
  generalize hCC : H2.objs.size = C at hC hns₁ hsb₁ ⊢
  have hDC : D ≠ C := by omega
  have below : ∀ b o, s₂.heap.get? b = some o → b ≠ C ∧ b ≠ D := fun b o e => ⟨Nat.ne_of_lt (by rw [hC, ← hDD]; exact Nat.lt_succ_of_lt (Heap.lt_size e)), Nat.ne_of_lt (hDD ▸ Heap.lt_size e)⟩
  have old : ∀ b o, s₂.heap.get? b = some o → h₁.get? b = some o := fun b o e => hsb₁.extBut b o (below b o e).1 (Heap.get?_push_of_some _ (hH2 ▸ Heap.get?_push_of_some _ e))
  have fresh : ∀ a, D ≤ a → s₂.heap.get? a = none := fun a ha => by
    cases e : s₂.heap.get? a with
    | none => rfl
    | some o' => exact absurd (Heap.lt_size e) (Nat.not_lt.mpr (hDD ▸ ha))
  have hD0 := fresh D (Nat.le_refl _)
  have hC0 := fresh C (by omega)
  have gnone : ∀ a, s₂.heap.get? a = none → g.get? a = none := fun a ha => by
    cases e : g.get? a with
    | none => rfl
    | some o => rw [hg a o e] at ha; cases ha
  obtain ⟨oI, hI⟩ := hI
  have hID := below I oI hI
  have hacc : h₁.get? D = some (listOf ([] : List Value).toArray 0) := hsb₁.extBut _ _ hDC (Heap.get?_push_of_some _ (by rw [← hH2, ← hDD]; exact Heap.get?_push_size _ rfl))
  have hst₁ : St 0 h₁ := W.frame _ _ _ hst fun b _ o e => old b o e
  have hDf : D ∉ fp := fun hm => (hfp D hm).elim (fun q => hID.2 q.symm) fun ⟨o, q⟩ => by rw [gnone D hD0] at q; cases q
  have hCf : C ∉ fp := fun hm => (hfp C hm).elim (fun q => hID.1 q.symm) fun ⟨o, q⟩ => by rw [gnone C hC0] at q; cases q
  have loop : ∀ s₃ : Shared, s₃ = { s₂ with heap := h₁, toks := s₂.toks + ([] : List (Str × Value)).length } →
      codeAny (model prog w) A (.compLoop (.ListComp elt [⟨.Name x px, iter, ifs, 0⟩] scope pos) 0 (.ref I) (.ref D) (compEnvC scope cl C env)) (RR (.ref D) C) s₃ := by
    rintro s₃ rfl
    refine codeAny_compLoop_tests
      (fun k s' => ∃ i ys c im oI h tk m, k = n - i ∧ i ≤ n ∧ ys.length ≤ i ∧ s' = { s₂ with heap := h, toks := tk } ∧ St i h ∧ h.get? I = some oI ∧ h.get? D = some (listOf ys.toArray c) ∧ h.Ns C m ∧ (∀ b o, g.get? b = some o → h.get? b = some o) ∧
        (∀ p ∈ im, h.get? p.1 = some p.2 ∧ p.1 ≠ C ∧ p.1 ≠ D ∧ p.1 ≠ I ∧ g.get? p.1 = none) ∧ J i ys im tk) ?_ (n - 0)
      ⟨0, [], 0, im₀, oI, h₁, _, _, rfl, Nat.zero_le _, Nat.le_refl _, rfl, hst₁, old _ _ hI, hacc, hns₁, fun b o e => old b o (hg b o e), fun p hp => ⟨old _ _ (N₀ p hp).1, (below _ _ (N₀ p hp).1).1, (below _ _ (N₀ p hp).1).2, (N₀ p hp).2⟩, j₀⟩
    rintro k s' ⟨i, ys, c, im, oI', h, tk, m, rfl, hin, hyl, rfl, hsti, hIh, hDh, hns, hgh, him, hj⟩
    have offI : ∀ b, b ≠ I → b ∉ wr := fun b hb hm => hb (hwr b hm)
    by_cases hlt : i < n
    · refine wpAny_with_toks (n := tk) (Nat.le_refl _) (W.item i _ _ _ hlt hsti fun v h₂ tk₂ hPv hst₂ hk₂ htk₂ => ?_)
      refine wpAny_assign_Name (wpAny_storeName_local (env := compEnvC scope cl C env) (lookup_relabel_local hx) (hns.at' fun o e => hk₂ _ o (offI _ hID.1.symm) e) (fun h₃ hn₃ hs₃ => ?_) (by simp [compEnvC, relabel, hkind]))
      have up : ∀ b o, b ≠ C → b ≠ I → h.get? b = some o → h₃.get? b = some o := fun b o h1 h2 e => hs₃.extBut b o h1 (hk₂ b o (offI b h2) e)
      have hst₃ : St (i + 1) h₃ := W.frame _ _ _ hst₂ fun b hb o e => hs₃.extBut b o (fun q => hCf (by rw [← show b = C from q]; exact hb)) e
      obtain ⟨oI3, hI3⟩ := hSI _ _ hst₃
      have gC := gnone C hC0
      have gD := gnone D hD0
      have g3 : ∀ b o, g.get? b = some o → h₃.get? b = some o := fun b o e => up b o (fun q => by rw [q, gC] at e; cases e) (fun q => by rw [q, hIg] at e; cases e) (hgh b o e)
      have hDh3 := up D _ hDC hID.2.symm hDh
      have own3 : News g C h₃ ([(I, oI3), (D, listOf ys.toArray c)] ++ im) := by
        intro p hp
        rcases List.mem_append.mp hp with hp | hp
        · rcases List.mem_cons.mp hp with rfl | hp
          · exact ⟨hI3, hID.1, hIg⟩
          · obtain rfl := List.mem_singleton.mp hp
            exact ⟨hDh3, hDC, gD⟩
        · have z := him p hp
          exact ⟨up _ _ z.2.1 z.2.2.2.1 z.1, z.2.1, z.2.2.2.2⟩
      refine wpAny_mono (turn i v ys im [(I, oI3), (D, listOf ys.toArray c)] C h₃ _ _ hlt hPv (hJm _ _ _ _ _ hj (Nat.le_succ_of_le htk₂)) (by omega) (if_pos rfl) ⟨hn₃, g3, by omega⟩ own3 ?_) (fun ok s₃ h₃' => ?_) fun _ _ y => y.elim
      · intro p hp q hq
        have z := him q hq
        rcases List.mem_cons.mp hp with rfl | hp
        · exact z.2.2.2.1.symm
        · obtain rfl := List.mem_singleton.mp hp
          exact z.2.2.1.symm
      have close : ∀ {ys' : List Value} {s' : Shared} {c' : Nat} {h5 : Heap} {h4 : Heap} {tk4 : Nat} {m4 : Str → Option Value} {nw im' : List (Addr × Obj)}, ys'.length ≤ i + 1 → s' = { s₂ with heap := h5, toks := tk4 } → Fr g C h4 m4 → News g C h4 nw →
          (∀ p ∈ [(I, oI3), (D, listOf ys.toArray c)], p ∈ nw) → (∀ p ∈ im', p ∈ nw) → (∀ p ∈ [(I, oI3), (D, listOf ys.toArray c)], ∀ q ∈ im', p.1 ≠ q.1) → J (i + 1) ys' im' tk4 → (∀ b o, b ≠ D → h4.get? b = some o → h5.get? b = some o) → h5.get? D = some (listOf ys'.toArray c') →
          ∃ k', k' < n - i ∧ ∃ i ys c im oI h tk m, k' = n - i ∧ i ≤ n ∧ ys.length ≤ i ∧ s' = { s₂ with heap := h, toks := tk } ∧ St i h ∧ h.get? I = some oI ∧ h.get? D = some (listOf ys.toArray c) ∧ h.Ns C m ∧ (∀ b o, g.get? b = some o → h.get? b = some o) ∧
            (∀ p ∈ im, h.get? p.1 = some p.2 ∧ p.1 ≠ C ∧ p.1 ≠ D ∧ p.1 ≠ I ∧ g.get? p.1 = none) ∧ J i ys im tk := by
        intro ys' s' c' h5 h4 tk4 m4 nw im' hyl' es F4 N4 ho him' hap hj' h45 hD5
        have I4 := (N4 _ (ho _ (.head _))).1
        refine ⟨n - (i + 1), by omega, i + 1, ys', c', im', oI3, h5, tk4, m4, rfl, hlt, hyl', es, ?_, h45 _ _ hID.2 I4, hD5, F4.ns.at' fun o e => h45 _ o hDC.symm e, fun b o e => h45 b o (fun q => by rw [q, gD] at e; cases e) (F4.keep b o e), ?_, hj'⟩
        · refine W.frame _ _ _ hst₃ fun b hb o e => ?_
          rcases hfp b hb with rfl | ⟨o', e'⟩
          · rw [hI3] at e; cases e; exact h45 _ _ hID.2 I4
          · have := g3 b o' e'
            rw [e] at this; cases this
            exact h45 b o (fun q => by rw [q, gD] at e'; cases e') (F4.keep b o e')
        · intro p hp
          have z := N4 p (him' p hp)
          have a1 := hap _ (.head _) p hp
          have a2 := hap _ (.tail _ (.head _)) p hp
          exact ⟨h45 _ _ a2.symm z.1, z.2.1, a2.symm, a1.symm, z.2.2⟩
      cases ok with
      | false =>
        simp only [Bool.false_eq_true, if_false] at h₃' ⊢
        obtain ⟨h', tk', m', nw, im', es, F4, N4, ho, him', hap, hj'⟩ := h₃'
        exact close (by omega) es F4 N4 ho him' hap hj' (fun _ _ _ e => e) (N4 _ (ho _ (.tail _ (.head _)))).1
      | true =>
        simp only [if_true] at h₃' ⊢
        refine wpAny_mono h₃' (fun y s₄ h₄ => ?_) fun _ _ y => y.elim
        obtain ⟨h', tk', m', nw, im', rfl, F4, N4, ho, him', hap, hj'⟩ := h₄
        refine append_at (hsz := by rw [List.size_toArray, sizeLine_eq]; omega) (N4 _ (ho _ (.tail _ (.head _)))).1 fun h5 hs5 hD5 => ?_
        exact close (by rw [List.length_append]; simp only [List.length_singleton]; omega) rfl F4 N4 ho him' hap hj' (fun b o hb e => hs5.extBut b o hb e) (c' := c + 1) (by rw [hD5]; simp)
    · have hin' : i = n := by omega
      subst hin'
      refine wpAny_with_toks (n := tk) (Nat.le_refl _) (W.done _ _ _ hsti fun h₂ tk₂ hk₂ htk₂ => ?_)
      exact done D C ys c im h₂ _ _ hD0 hC0 hDC (hns.at' fun o e => hk₂ _ o (offI _ hID.1.symm) e) (hk₂ _ _ (offI _ hID.2.symm) hDh) (fun b o e => hk₂ b o (offI b fun q => by rw [q, hIg] at e; cases e) (hgh b o e))
        (fun p hp => have z := him p hp; ⟨hk₂ _ _ (offI _ z.2.2.2.1) z.1, z.2.1, z.2.2.1, z.2.2.2.2⟩) (hJm _ _ _ _ _ hj htk₂)
  exact codeAny_compStart_list (loop _ rfl) (W.self 0 _ _ _ hst₁ (loop _ rfl))
/-- a comprehension over one clause, its source evaluated first -/
theorem comp_eval {elt iter : Expr} {x : Str} {px : Pos} {ifs : List Expr} {scope : Scope} {cl : List (Str × Addr)} {pos : Pos} {s : Shared} {Q : Value → Shared → Prop}
    (hclos : closureFor scope env = pure cl) (hkind : scope.kind = .function) (hnames : ∀ y ∈ scope.names, y.2 = .local → scope.names.lookup y.1 = some .local) (hs : ∀ v, foldedSetIterable iter env v = pure v)
    (h : wpAny (model prog w) A (eval iter env) (fun v s₁ => wpAny (model prog w) A (pyIter v) (fun it s₂ => wpAny (model prog w) A (newList []) (fun acc s₃ => wpAny (model prog w) A (newFunctionEnv scope env.globals cl [] env.qual none .none (some env)) (fun cenv s₄ =>
      codeAny (model prog w) A (.compStart (.ListComp elt [⟨.Name x px, iter, ifs, 0⟩] scope pos) 0 it acc { cenv with scope := relabel scope env })
        (fun r s' => (∃ u, r = .ok u) ∧ ∃ m, s'.heap.Ns cenv.locals m ∧ ∀ h', Heap.SameBut cenv.locals s'.heap h' → Q acc { s' with heap := h' }) s₄) E s₃) E s₂) E s₁) E s) :
    wpAny (model prog w) A (eval (.ListComp elt [⟨.Name x px, iter, ifs, 0⟩] scope pos) env) Q E s := by
  rw [eval_ListComp]
  refine wpAny_comprehension_free (use := none) rfl hs hclos hkind hnames ?_
  refine wpAny_mono h (fun v s₁ h₁ => wpAny_mono h₁ (fun it s₂ h₂ => wpAny_mono h₂ (fun acc s₃ h₃ => wpAny_mono h₃ (fun cenv s₄ h₄ => codeAny_mono h₄ ?_) fun _ _ y => y) fun _ _ y => y) fun _ _ y => y) fun _ _ y => y
  rintro r s' ⟨⟨u, rfl⟩, m, hn, hq⟩
  exact ⟨m, hn, hq⟩
/-- the same over a list that stands in g -/
theorem comp_list {elt iter : Expr} {x : Str} {px : Pos} {ifs : List Expr} {scope : Scope} {cl : List (Str × Addr)} {pos : Pos} {s : Shared} {Q : Value → Shared → Prop} {g : Heap} {l : Addr} {items : List Value}
    (hh : A.handled = none) (hl : g.IsList l items.toArray) (hsz : items.length ≤ 1000) (hg : ∀ b o, g.get? b = some o → s.heap.get? b = some o) (hgs : g.objs.size ≤ s.heap.objs.size)
    (hcell : ∀ y ∈ scope.names, y.2 ≠ .cell) (hkind : scope.kind = .function) (hx : scope.names.lookup x = some .local)
    (J : Nat → List Value → List (Addr × Obj) → Prop) (im₀ : List (Addr × Obj)) (N₀ : ∀ p ∈ im₀, s.heap.get? p.1 = some p.2 ∧ g.get? p.1 = none) (j₀ : J 0 [] im₀)
    (turn : ∀ i v ys im own C h tk m, items[i]? = some v → J i ys im → s.heap.objs.size ≤ C → m x = some v → Fr g C h m → News g C h (own ++ im) → (∀ p ∈ own, ∀ q ∈ im, p.1 ≠ q.1) →
      wpAny (model prog w) A (forIn ifs true fun c r => if r = true then do let ok ← isTrue c (compEnvC scope cl C env) (eval c (compEnvC scope cl C env)); pure (ForInStep.yield ok) else pure (ForInStep.yield r))
        (fun ok s₃ => if ok = true then wpAny (model prog w) A (eval elt (compEnvC scope cl C env)) (fun y s₄ => TurnEnd g C s own (fun im _ => J (i + 1) (ys ++ [y]) im) s₄) (fun _ _ => False) s₃ else TurnEnd g C s own (fun im _ => J (i + 1) ys im) s₃)
        (fun _ _ => False) { s with heap := h, toks := tk })
    (done : ∀ D ys k im h tk, s.heap.get? D = none → h.get? D = some (listOf ys.toArray k) → (∀ b o, g.get? b = some o → h.get? b = some o) →
      (∀ p ∈ im, h.get? p.1 = some p.2 ∧ p.1 ≠ D ∧ g.get? p.1 = none) → J items.length ys im → Q (.ref D) { s with heap := h, toks := tk }) :
    wpAny (model prog w) A (pyIter (.ref l)) (fun it s₂ => wpAny (model prog w) A (newList []) (fun acc s₃ => wpAny (model prog w) A (newFunctionEnv scope env.globals cl [] env.qual none .none (some env)) (fun cenv s₄ =>
      codeAny (model prog w) A (.compStart (.ListComp elt [⟨.Name x px, iter, ifs, 0⟩] scope pos) 0 it acc { cenv with scope := relabel scope env })
        (fun r s' => (∃ u, r = .ok u) ∧ ∃ m, s'.heap.Ns cenv.locals m ∧ ∀ h', Heap.SameBut cenv.locals s'.heap h' → Q acc { s' with heap := h' }) s₄) E s₃) E s₂) E s := by
  refine wpAny_pyIter_list (isList_keep hg hl) ?_
  generalize hI : s.heap.objs.size = I
  have hI0 : s.heap.get? I = none := by
    cases e : s.heap.get? I with
    | none => rfl
    | some o => exact absurd (Heap.lt_size e) (by rw [hI]; exact Nat.lt_irrefl _)
  have hIg : g.get? I = none := by
    cases e : g.get? I with
    | none => rfl
    | some o => rw [hg _ _ e] at hI0; cases hI0
  have hpI : (s.heap.push { cls := .type "list_iterator", data := .fields #[.ref l, .int 0 0] }).get? I = some { cls := .type "list_iterator", data := .fields #[.ref l, .int 0 0] } := by rw [← hI]; exact Heap.get?_push_size _ rfl
  obtain ⟨ol, hol, hrest⟩ := hl
  have hlI : l ≠ I := fun q => by rw [q, hIg] at hol; cases hol
  have up : ∀ b o, s.heap.get? b = some o → (s.heap.push { cls := .type "list_iterator", data := .fields #[.ref l, .int 0 0] }).get? b = some o := fun b o e => Heap.get?_push_of_some _ e
  refine comp_core (s₂ := { s with heap := s.heap.push { cls := .type "list_iterator", data := .fields #[.ref l, .int 0 0] } }) (g := g) (n := items.length) (env := env) (elt := elt) (iter := iter) (px := px) (ifs := ifs) (cl := cl) (pos := pos) (RR := fun acc C r s' => (∃ u, r = .ok u) ∧ ∃ m, s'.heap.Ns C m ∧ ∀ h', Heap.SameBut C s'.heap h' → Q acc { s' with heap := h' }) (Walks.list hh I l hlI items.toArray) hsz (by simp) ?_ (fun b o e => up b o (hg b o e))
    (by show _ ≤ (s.heap.push _).objs.size; rw [Heap.size_push]; omega) ⟨_, hpI⟩ hIg ⟨⟨_, hpI, rfl, rfl⟩, ⟨ol, up _ _ (hg _ _ hol), hrest⟩⟩ ?_ hcell hkind hx (fun i ys im _ => J i ys im) (fun _ _ _ _ _ h _ => h) im₀ (fun p hp => ⟨up _ _ (N₀ p hp).1, (fun q => by have := (N₀ p hp).1; rw [q, hI0] at this; cases this), (N₀ p hp).2⟩) j₀ ?_ ?_
  · intro b hb
    simp only [List.mem_cons, List.not_mem_nil, or_false] at hb
    exact hb.elim .inl fun q => .inr ⟨ol, q ▸ hol⟩
  · rintro i h ⟨⟨o, ho, _⟩, _⟩
    exact ⟨o, ho⟩
  · intro i v ys im own C h tk m hi hv hj hC hm F N hap
    refine turn i v ys im own C h tk m (by simpa using hv) hj ?_ hm F N hap
    have : s.heap.objs.size + 1 ≤ C := by
      have := hC
      show s.heap.objs.size + 1 ≤ C
      rwa [show ({ s with heap := s.heap.push { cls := .type "list_iterator", data := .fields #[.ref l, .int 0 0] } } : Shared).heap.objs.size = s.heap.objs.size + 1 from Heap.size_push _ _] at this
    exact Nat.le_of_succ_le this
  · intro D C ys k im h tk m' hD hC hDC hn hDh hgh him hj
    have dn : ∀ a, (s.heap.push { cls := .type "list_iterator", data := .fields #[.ref l, .int 0 0] }).get? a = none → s.heap.get? a = none := fun a ha => by
      cases e : s.heap.get? a with
      | none => rfl
      | some o => rw [up _ _ e] at ha; cases ha
    refine ⟨⟨_, rfl⟩, m', hn, fun h' hs' => ?_⟩
    refine done D ys k im h' tk (dn D hD) (hs'.extBut _ _ hDC hDh) (fun b o e => hs'.extBut _ _ (fun q => ?_) (hgh b o e)) (fun p hp => ⟨hs'.extBut _ _ (him p hp).2.1 (him p hp).1, (him p hp).2.2⟩) hj
    have := up _ _ (hg _ _ e)
    rw [q] at this
    rw [hC] at this; cases this
/-- the same over a range; J is told of the tokens too -/
theorem comp_range {elt iter : Expr} {x : Str} {px : Pos} {ifs : List Expr} {scope : Scope} {cl : List (Str × Addr)} {pos : Pos} {s : Shared} {Q : Value → Shared → Prop} {g : Heap} {r : Addr} {a₀ b₀ : Int} {t₀ u₀ v₀ : Tok} {n : Nat}
    (hh : A.handled = none) (hr : IsRange s.heap r a₀ b₀ 1 t₀ u₀ v₀) (hsmall : Builtin.Range.small a₀ b₀ 1 = true) (hszr : Builtin.Range.rangeSize a₀ b₀ 1 = (n : Int)) (hsz : n ≤ 1000) (hg : ∀ b o, g.get? b = some o → s.heap.get? b = some o) (hgs : g.objs.size ≤ s.heap.objs.size)
    (hcell : ∀ y ∈ scope.names, y.2 ≠ .cell) (hkind : scope.kind = .function) (hx : scope.names.lookup x = some .local)
    (J : Nat → List Value → List (Addr × Obj) → Nat → Prop) (hJm : ∀ i ys im tk tk', J i ys im tk → tk ≤ tk' → J i ys im tk') (im₀ : List (Addr × Obj)) (N₀ : ∀ p ∈ im₀, s.heap.get? p.1 = some p.2 ∧ g.get? p.1 = none) (j₀ : J 0 [] im₀ s.toks)
    (turn : ∀ i u ys im own C h tk m, i < n → J i ys im tk → s.heap.objs.size ≤ C → m x = some (.int (a₀ + (i : Int)) u) → Fr g C h m → News g C h (own ++ im) → (∀ p ∈ own, ∀ q ∈ im, p.1 ≠ q.1) →
      wpAny (model prog w) A (forIn ifs true fun c r => if r = true then do let ok ← isTrue c (compEnvC scope cl C env) (eval c (compEnvC scope cl C env)); pure (ForInStep.yield ok) else pure (ForInStep.yield r))
        (fun ok s₃ => if ok = true then wpAny (model prog w) A (eval elt (compEnvC scope cl C env)) (fun y s₄ => TurnEnd g C s own (J (i + 1) (ys ++ [y])) s₄) (fun _ _ => False) s₃ else TurnEnd g C s own (J (i + 1) ys) s₃)
        (fun _ _ => False) { s with heap := h, toks := tk })
    (done : ∀ D ys k im h tk, s.heap.get? D = none → h.get? D = some (listOf ys.toArray k) → (∀ b o, g.get? b = some o → h.get? b = some o) →
      (∀ p ∈ im, h.get? p.1 = some p.2 ∧ p.1 ≠ D ∧ g.get? p.1 = none) → J n ys im tk → Q (.ref D) { s with heap := h, toks := tk }) :
    wpAny (model prog w) A (pyIter (.ref r)) (fun it s₂ => wpAny (model prog w) A (newList []) (fun acc s₃ => wpAny (model prog w) A (newFunctionEnv scope env.globals cl [] env.qual none .none (some env)) (fun cenv s₄ =>
      codeAny (model prog w) A (.compStart (.ListComp elt [⟨.Name x px, iter, ifs, 0⟩] scope pos) 0 it acc { cenv with scope := relabel scope env })
        (fun r s' => (∃ u, r = .ok u) ∧ ∃ m, s'.heap.Ns cenv.locals m ∧ ∀ h', Heap.SameBut cenv.locals s'.heap h' → Q acc { s' with heap := h' }) s₄) E s₃) E s₂) E s := by
  refine wpAny_pyIter_range hr hsmall ?_
  generalize hI : s.heap.objs.size = I
  rw [hszr]
  have hI0 : s.heap.get? I = none := by
    cases e : s.heap.get? I with
    | none => rfl
    | some o => exact absurd (Heap.lt_size e) (by rw [hI]; exact Nat.lt_irrefl _)
  have hIg : g.get? I = none := by
    cases e : g.get? I with
    | none => rfl
    | some o => rw [hg _ _ e] at hI0; cases hI0
  have hpI : (s.heap.push { cls := .type "range_iterator", data := .fields #[rawInt a₀, rawInt (n : Int), rawInt 1] }).get? I = some { cls := .type "range_iterator", data := .fields #[rawInt a₀, rawInt (n : Int), rawInt 1] } := by rw [← hI]; exact Heap.get?_push_size _ rfl
  have up : ∀ b o, s.heap.get? b = some o → (s.heap.push { cls := .type "range_iterator", data := .fields #[rawInt a₀, rawInt (n : Int), rawInt 1] }).get? b = some o := fun b o e => Heap.get?_push_of_some _ e
  refine comp_core (s₂ := { s with heap := s.heap.push { cls := .type "range_iterator", data := .fields #[rawInt a₀, rawInt (n : Int), rawInt 1] } }) (g := g) (n := n) (env := env) (elt := elt) (iter := iter) (px := px) (ifs := ifs) (cl := cl) (pos := pos) (RR := fun acc C r s' => (∃ u, r = .ok u) ∧ ∃ m, s'.heap.Ns C m ∧ ∀ h', Heap.SameBut C s'.heap h' → Q acc { s' with heap := h' }) (Walks.range hh I a₀ 1 n) hsz (by simp) (by simp) (fun b o e => up b o (hg b o e))
    (by show _ ≤ (s.heap.push _).objs.size; rw [Heap.size_push]; omega) ⟨_, hpI⟩ hIg (by show IsRangeIter _ _ _ _ _; simpa using hpI) ?_ hcell hkind hx J hJm im₀ (fun p hp => ⟨up _ _ (N₀ p hp).1, (fun q => by have := (N₀ p hp).1; rw [q, hI0] at this; cases this), (N₀ p hp).2⟩) j₀ ?_ ?_
  · intro i h ho
    exact ⟨_, ho⟩
  · rintro i v ys im own C h tk m hi ⟨u, hu⟩ hj hC hm F N hap
    have hu' : v = .int (a₀ + (i : Int)) u := by rw [hu]; simp
    subst hu'
    refine turn i u ys im own C h tk m hi hj ?_ hm F N hap
    have : s.heap.objs.size + 1 ≤ C := by
      have := hC
      show s.heap.objs.size + 1 ≤ C
      rwa [show ({ s with heap := s.heap.push { cls := .type "range_iterator", data := .fields #[rawInt a₀, rawInt (n : Int), rawInt 1] } } : Shared).heap.objs.size = s.heap.objs.size + 1 from Heap.size_push _ _] at this
    exact Nat.le_of_succ_le this
  · intro D C ys k im h tk m' hD hC hDC hn hDh hgh him hj
    have dn : ∀ a, (s.heap.push { cls := .type "range_iterator", data := .fields #[rawInt a₀, rawInt (n : Int), rawInt 1] }).get? a = none → s.heap.get? a = none := fun a ha => by
      cases e : s.heap.get? a with
      | none => rfl
      | some o => rw [up _ _ e] at ha; cases ha
    refine ⟨⟨_, rfl⟩, m', hn, fun h' hs' => ?_⟩
    refine done D ys k im h' tk (dn D hD) (hs'.extBut _ _ hDC hDh) (fun b o e => hs'.extBut _ _ (fun q => ?_) (hgh b o e)) (fun p hp => ⟨hs'.extBut _ _ (him p hp).2.1 (him p hp).1, (him p hp).2.2⟩) hj
    have := up _ _ (hg _ _ e)
    rw [q] at this
    rw [hC] at this; cases this
end
section
variable {M : Model} {A : Around} {E : Value → Shared → Prop} {s : Shared} {env : Env} {g : Heap} {C c : Addr} {m mg mb : Str → Option Value} {x : Str} {pos : Pos} {v : Value} {o : Obj} {K : Frag} {p : Program} {loose : List Str}
theorem nmL {Q : Value → Shared → Prop} (hC : env.locals = C) (F : Fr g C s.heap m) (hv : m x = some v) (h : Q v s) (hk : env.scope.kind = .function) (hx : env.kindOf x = some .local) (hd : (x == ("__debug__" : Str)) = false) :
    wpAny M A (eval (.Name x pos) env) Q E s := wpAny_Name (wpAny_loadName_local hk hx (hC ▸ F.ns) hv h) hd
theorem nmC {Q : Value → Shared → Prop} (hc : env.cells.lookup x = some c) (ho : s.heap.get? c = some o) (hcd : o.data = .cell (some v)) (h : Q v s) (hk : env.scope.kind = .function) (hx : env.kindOf x = some .cell) (hd : (x == ("__debug__" : Str)) = false) :
    wpAny M A (eval (.Name x pos) env) Q E s := wpAny_Name (wpAny_loadName_cell hk hx hc ⟨o, ho, hcd⟩ h) hd
theorem nmB {Q : Value → Shared → Prop} (F : Fr g C s.heap m) (X : K.In g) (T : TopRead p loose mg mb g) (e : nsIn K mainGlobals x = some none) (hv : bootBuiltins x = some v) (hn : x ≠ "__name__") (h : Q v s)
    (hg : env.globals = mainGlobals) (hb : env.builtins = builtinsNs) (hk : env.scope.kind = .function) (hx : env.kindOf x = some .globalImplicit) (hd : (x == ("__debug__" : Str)) = false) :
    wpAny M A (eval (.Name x pos) env) Q E s :=
  Name_function_global hk hx (loadGlobal_builtin (env := env) (by rw [hg]; exact T.g.keeps F.keep) (mg_none_of X T.g e) (by rw [hb]; exact T.b.keeps F.keep) ((T.builtins x hn).trans hv) h) hd
theorem ifs_nil {f : Expr → Bool → Sem (ForInStep Bool)} {Q : Bool → Shared → Prop} (h : Q true s) : wpAny M A (forIn ([] : List Expr) true f) Q E s := by
  rw [List.forIn_nil]; exact wpAny_pure h
theorem ifs_one {c : Expr} {Q : Bool → Shared → Prop} (h : wpAny M A (isTrue c env (eval c env)) Q E s) :
    wpAny M A (forIn [c] true fun c r => if r = true then do let ok ← isTrue c env (eval c env); pure (ForInStep.yield ok) else pure (ForInStep.yield r)) Q E s := by
  rw [List.forIn_cons]
  refine wpAny_bind ?_
  simp only [if_true]
  refine wpAny_bind (wpAny_mono h (fun b s' hb => wpAny_pure ?_) fun _ _ y => y)
  show wpAny _ _ (forIn [] b _) _ _ _
  rw [List.forIn_nil]
  exact wpAny_pure hb
end

theorem calm_MD : True := by w_top off; trivial
-- entering a def of the text
local macro_rules | `(tactic| walk_at "m enterC") => `(tactic| (
  refine wpAny_call ?_
  refine' enterC ?k1 ?k2 ?k6 ?k7 ?k8 ?kB ?kC ?kN ?_ ?c2 ?c3 ?c4
  (case k1 => assumption)
  (case k2 => assumption)
  (case k6 => k_is)
  (case k7 => k_is)
  (case k8 => exact Sm.room (by assumption))
  (case kB => exact BindsTo.of_eq rfl)
  (case kC => exact rfl)
  (case kN => decide +kernel)
  (case c2 => exact rfl)
  (case c3 => exact rfl)
  (case c4 => exact rfl)
  intro L' h' tk' cells' F' N' Y'
  k_cells Y'
  dsimp only))
section
variable {w : World} {loose : List Str} {mean : ExcName → Option Value} {mg mb : Str → Option Value} {A : Around} {s : Shared} {h₀ : Heap} {L : Addr} {m : Str → Option Value} {news : List (Addr × Obj)} {Q E : Value → Shared → Prop}
theorem conv_at {x : Value} {v : Str} {t : Tok} {b : Bool} (F : Fr h₀ L s.heap m) (N : News h₀ L s.heap news) (X : (hd.heap_39 w.params).In h₀) (T : Top hd.view_39 loose mean mg mb h₀) (S : Sm A 5) (hl : v.length ≤ 100000) (ha : Abc v)
  (k : ∀ h' tk, Fr h₀ L h' m → News h₀ L h' news → Q (.str v t) {s with heap := h', toks := tk}) :
  wpAny (model PySem.Challenge.rw_tc0036_01.row.prog w) A (call (.ref 132) [x, .str v t] [(PySem.Str.ofString "name", .bool b)]) Q E s :=
  conv_spec (X.keeps F.keep) (T.keeps F.keep) S hl ha fun h' tk hk => k h' tk (F.keeps hk) (N.grown hk)
end
theorem InstAt.kept {h h' : Heap} {x C : Addr} {ox : Obj} {od : Option Obj} (I : PySem.W.InstAt h x ox C od) (hk : ∀ b o, h.get? b = some o → h'.get? b = some o) : PySem.W.InstAt h' x ox C od := by
  obtain ⟨a, b, c, d⟩ := I
  refine ⟨hk _ _ a, b, c, ?_⟩
  revert d
  cases ox.dict <;> cases od <;> intro d
  · exact d
  · exact d
  · exact d
  · exact hk _ _ d
local macro_rules | `(tactic| k_inst) => `(tactic| exact InstAt.kept (by assumption) (Fr.keep (by assumption)))
local macro_rules | `(tactic| walk_at "call ref cons") => `(tactic| ((with_reducible show wpAny _ _ (call (Value.ref 132) [_, Value.str _ _] _) _ _ _); (with_unfolding_all show wpAny _ _ (call _ _ [(PySem.Str.ofString "name", Value.bool _)]) _ _ _); k_dflt (refine' conv_at ?F ?N ?X ?T ?S ?l ?a ?_; (case F => k_asm); (case N => k_asm); (case X => k_asm); (case T => k_asm); (case S => walk_at "m sm"); (case l => omega); (case a => assumption); intro h' tk' F' N')))
theorem tooLong_of {n : Nat} (h : n ≤ 1000) : PySem.Builtin.Str.tooLong n = false := by
  unfold PySem.Builtin.Str.tooLong
  rw [sizeLine_eq]
  exact decide_eq_false (by omega)
theorem lower_at {prog : Program} {w : World} {A : Around} {s : Shared} {E : Value → Shared → Prop} {x y : Str} {t : Tok} {Q : Value → Shared → Prop} (e : Txt.lower x = y) (hy : y.length ≤ 1000) (h : ∀ t' tk', Q (.str y t') { s with toks := tk' }) :
    wpAny (model prog w) A (call (.builtin "str.lower") [.str x t]) Q E s :=
  SC.lower (by rw [e]; exact tooLong_of hy) (by rw [e]; exact h _ _)
local macro_rules | `(tactic| walk_at "call builtin:str.lower cons nil") => `(tactic| (k_here; k_dflt (refine' lower_at ?e ?y ?_; (case e => assumption); (case y => omega); intro t' tk')))
def Hdr (h : Heap) (x tl : Addr) : Prop := ∃ dx sl hsh tk n, PySem.W.InstAt h x ⟨.ref 231, some dx, .plain, sl⟩ 231 (some (dictOf [⟨hsh, .str (PySem.Str.ofString "_headers") tk, .ref tl⟩] n))
local macro_rules | `(tactic| walk_at "eval ListComp") => `(tactic| refine hold ?_)
local macro_rules | `(tactic| walk_at "pyIter ref") => `(tactic| refine hold ?_)
local macro_rules | `(tactic| walk_at "m comp") => `(tactic| (unfold Hold; refine' comp_eval ?hc ?hk ?hn ?hs ?_; (case hc => with_unfolding_all rfl); (case hk => rfl); (case hn => decide); (case hs => intro _; with_unfolding_all rfl)))
local macro_rules | `(tactic| walk_at "eval Name") => `(tactic| (k_here; k_dflt (first
  | (refine' nmL rfl ?F ?v ?_ ?k ?x ?d; (case k => rfl); (case x => rfl); (case d => decide); (case F => k_asm); (case v => first | assumption | exact rfl))
  | (refine' nmC rfl ?o ?c ?_ ?k ?x ?d; (case k => rfl); (case x => rfl); (case d => decide); (case o => exact Fr.keep (by assumption) _ _ (by assumption)); (case c => assumption))
  | (refine' nameG_K ?F ?X ?T ?e ?_ ?g ?k ?x ?d; (case g => rfl); (case k => rfl); (case x => rfl); (case d => decide); (case F => k_asm); (case X => k_asm); (case T => k_asm); (case e => k_is))
  | (refine' nmB ?F ?X ?T ?e ?v ?n ?_ ?g ?b ?k ?x ?d; (case g => rfl); (case b => rfl); (case k => rfl); (case x => rfl); (case d => decide); (case F => k_asm); (case X => k_asm); (case T => k_asm); (case e => k_is); (case v => boot_fast); (case n => decide)))))
/-- a table's rows: tuples of two texts -/
def Prs (h : Heap) : List Value → List (Str × Str) → Prop
  | [], [] => True
  | v :: vs, p :: ps => (∃ a t u n, v = .ref a ∧ h.get? a = some ⟨.type "tuple", none, .seq #[.str p.1 t, .str p.2 u] n, #[]⟩) ∧ Prs h vs ps
  | _, _ => False
theorem Prs.length {h : Heap} : ∀ {vs : List Value} {ps : List (Str × Str)}, Prs h vs ps → vs.length = ps.length
  | [], [], _ => rfl
  | _ :: _, _ :: _, x => by rw [List.length_cons, List.length_cons, Prs.length x.2]
theorem Prs.at {h : Heap} : ∀ {vs : List Value} {ps : List (Str × Str)} {i : Nat} {v : Value}, Prs h vs ps → vs[i]? = some v → ∃ p, ps[i]? = some p ∧ ∃ a t u n, v = .ref a ∧ h.get? a = some ⟨.type "tuple", none, .seq #[.str p.1 t, .str p.2 u] n, #[]⟩
  | _ :: _, p :: _, 0, _, x, e => by
    simp only [List.getElem?_cons_zero, Option.some.injEq] at e
    subst e
    exact ⟨p, rfl, x.1⟩
  | _ :: _, _ :: _, i + 1, _, x, e => by
    simp only [List.getElem?_cons_succ] at e ⊢
    exact Prs.at x.2 e
theorem Prs.keep {h h' : Heap} (hk : ∀ b o, h.get? b = some o → h'.get? b = some o) : ∀ {vs : List Value} {ps : List (Str × Str)}, Prs h vs ps → Prs h' vs ps
  | [], [], _ => trivial
  | _ :: _, _ :: _, ⟨⟨a, t, u, n, e, q⟩, r⟩ => ⟨⟨a, t, u, n, e, hk _ _ q⟩, r.keep hk⟩
def getAll (hs : List (Str × Str)) (low : Str) : List Str := (hs.filter fun p => Txt.lower p.1 == low).map (·.2)
theorem tup_keep {h h' : Heap} {a : Addr} {l : List Value} {n : Nat} (hk : ∀ b o, h.get? b = some o → h'.get? b = some o) (e : h.get? a = some ⟨.type "tuple", none, .seq l.toArray n, #[]⟩) : IsTup h' a l.toArray := ⟨_, hk _ _ e, rfl, n, rfl⟩
section
local macro_rules | `(tactic| walk_at "subscriptTail Name Constant ref int") => `(tactic| (k_here; k_dflt (refine' item_tupleT ?t ?a ?b ?c ?d ?_; (case t => exact tup_keep (Fr.keep (by assumption)) (by assumption)); (case a => decide); (case b => decide); (case c => rfl); (case d => rfl))))
theorem getAll_snoc {hs : List (Str × Str)} {low : Str} {i : Nat} {p : Str × Str} (h : hs[i]? = some p) : getAll (hs.take (i + 1)) low = getAll (hs.take i) low ++ (if (Txt.lower p.1 == low) = true then [p.2] else []) := by
  unfold getAll
  rw [List.take_add_one, h, Option.toList_some, List.filter_append, List.map_append]
  congr 1
  by_cases q : (Txt.lower p.1 == low) = true
  · rw [if_pos q, List.filter_cons_of_pos (p := fun p : Str × Str => Txt.lower p.1 == low) q]; rfl
  · rw [if_neg q, List.filter_cons_of_neg (p := fun p : Str × Str => Txt.lower p.1 == low) q]; rfl
theorem get_all_spec {w : World} {loose : List Str} {mean : ExcName → Option Value} {mg mb : Str → Option Value} {A : Around}
   {s : Shared} {x tl : Addr} {vs : List Value} {hs : List (Str × Str)} {name low : Str} {t : Tok} {Q E : Value → Shared → Prop}
  (X : (hd.heap_39 w.params).In s.heap) (T : Top hd.view_39 loose mean mg mb s.heap) (S : Sm A 10) (I : Hdr s.heap x tl) (hl : s.heap.IsList tl vs.toArray) (hp : Prs s.heap vs hs) (hn : hs.length ≤ 1000)
  (hhs : ∀ p ∈ hs, (Txt.lower p.1).length ≤ 1000) (e : Txt.lower name = low) (hlow : low.length ≤ 1000) (ha : Abc low)
  (k : ∀ r ys n h' tk, (∀ b o, s.heap.get? b = some o → h'.get? b = some o) → h'.get? r = some (listOf ys.toArray n) → s.heap.get? r = none → StrsAre ys (getAll hs low) → Q (.ref r) {s with heap := h', toks := tk}) :
  wpAny (model PySem.Challenge.rw_tc0036_01.row.prog w) A (call (.ref 170) [.ref x, .str name t]) Q E s := by
  obtain ⟨hz, dp, fr, gd, un⟩ := A
  obtain rfl : hz = none := S.hh
  obtain ⟨dx, sl, hsh, tkk, n, I⟩ := I
  walk_at "m enterC"
  k_steps
  walk_at "m comp"
  k_steps
  unfold Hold
  rename_i L9 h9a tk9a o9a d9a t9 tk9b h9b tk9c h9 o9 F9 N9 d9
  have hcell := (N9 _ (.head _)).1
  have hp9 := hp.keep F9.keep
  refine comp_list (g := h9) rfl (isList_keep F9.keep hl) (by rw [hp.length]; exact hn) (fun _ _ e => e) (Nat.le_refl _) (by decide) rfl rfl (fun i ys im => StrsAre ys (getAll (hs.take i) low)) [] (fun _ h => nomatch h) .nil ?_ ?_
  · intro i v ys im own C h tk m hv hj hC hm F N hap
    obtain ⟨p, hpi, a, t1, u1, n1, rfl, hat⟩ := hp9.at hv
    have hlen1 := hhs p (List.mem_of_getElem? hpi)
    obtain ⟨lw, hlw⟩ : ∃ y, Txt.lower p.1 = y := ⟨_, rfl⟩
    rw [hlw] at hlen1
    have X9 := X.keeps F9.keep
    have T9 := T.keeps F9.keep
    clear F9 N9
    refine ifs_one ?_
    k_steps
    · refine ⟨_, _, _, _, [], rfl, by assumption, by assumption, (fun p hp => List.mem_append_left _ hp), (fun _ h => nomatch h), (fun _ _ _ h => nomatch h), ?_⟩
      rename_i hif
      rw [getAll_snoc hpi, hlw, if_pos (by first | exact hif | simpa using hif)]
      exact StrsAre.append' hj (.cons _ _ .nil)
    · refine ⟨_, _, _, _, [], rfl, by assumption, by assumption, (fun p hp => List.mem_append_left _ hp), (fun _ h => nomatch h), (fun _ _ _ h => nomatch h), ?_⟩
      rename_i hif
      rw [getAll_snoc hpi, hlw, if_neg (by first | exact hif | simpa using hif), List.append_nil]
      exact hj
  · intro D ys n im h' tk hD0 hD hk him hj
    dsimp only
    refine k D ys n h' tk (fun b o q => hk b o (F9.keep b o q)) hD ?_ ?_
    · cases q : s.heap.get? D with
      | none => rfl
      | some o =>
        have := F9.keep _ _ q
        dsimp only at hD0
        rw [hD0] at this
        cases this
    · rw [hp.length, List.take_length] at hj
      exact hj
end

section
open PyProof.V
theorem calm_MKw : True := by w_top off; trivial
theorem bind_one {α : Type} {K : Frag} {M : Model} {A : Around} {E : Value → Shared → Prop} {Q : α → Shared → Prop} {s : Shared} {o : Obj} (X : K.In s.heap) :
    ∀ (t : Sem α) (g : Addr → Sem α), peekA K ⟨M.prog, M.w.params⟩ t = some (o, g) → wpAny M A (g s.heap.objs.size) Q E { s with heap := s.heap.push o } → wpAny M A t Q E s := by
  intro t
  induction t with
  | rule _ k ih => intro g e q Γ p hΓ; exact ih () g e q Γ p hΓ
  | point _ k ih => intro g e q Γ p hΓ; exact ih () g e q Γ p hΓ
  | ask k ih => intro g e q Γ p hΓ; exact ih _ g e q Γ p hΓ
  | load a _ k ih =>
    intro g e q Γ p hΓ
    simp only [peekA] at e
    split at e
    · rename_i ob ho; exact ⟨ob, X _ _ ho, ih ob g e q Γ p hΓ⟩
    · cases e
  | alloc ob k _ =>
    intro g e q
    have e : some (ob, k) = some (o, g) := e
    obtain ⟨e1, e2⟩ := Prod.mk.inj (Option.some.inj e)
    subst e1
    subst e2
    show wpAny M A (alloc ob >>= k) Q E s
    exact wpAny_bind (wpAny_alloc q)
  | _ => intro g e; cases e
theorem dict_empty (prog : Program) (w : World) : (dictOf [] 0).IsDictOf (strKind prog w) ([] : List (Str × Value)) :=
  ⟨#[], 0, ⟨rfl, rfl, rfl⟩, rfl, fun _ h => (by simp at h), by first | exact trivial | exact .nil, List.nodup_nil⟩
theorem enterDK {prog : Program} {w : World} {A : Around} {s : Shared} {K : Frag} {p : Program} {loose : List Str} {mean : ExcName → Option Value} {mg mb : Str → Option Value} {D : Addr} {oD : Obj}
    {R : Result → Shared → Prop} {name qual : Str} {params : Arguments} {body : List Stmt} {scope : Scope} {dV kV doc pm cdv ct oc : Value} {an od : Option Addr} {osl : Array (Option Value)} {f : Addr} {args : Args} {binds : Addr → List (Str × Value)} {g₁ : Addr → Sem (List (Str × Value))}
    (X : K.In (s.heap.hide D)) (T : Top p loose mean mg mb (s.heap.hide D)) (hD : s.heap.get? D = some oD)
    (ho : K.lookup f = some ⟨oc, od, .func (fnOf name qual params body scope dV kV doc pm an cdv ct), osl⟩) (hcd : codeIn K cdv qual = true) (hroom : A.depth < recursionLimit)
    (hp : peekA K ⟨prog, w.params⟩ (bindArgs (fnOf name qual params body scope dV kV doc pm an cdv ct) args) = some (dictOf [] 0, g₁)) (hb : ∀ d, g₁ d = pure (binds d)) (hloc : ∀ d, ∀ y ∈ binds d, scope.names.lookup y.1 = some .local)
    (h : ∀ d o L' h₁ tk, (d == sysModules) = false → d ≠ D → o.IsDictOf (strKind prog w) ([] : List (Str × Value)) → FlatPairs PyData.str [] [] → Fr (s.heap.hide D) L' h₁ (fun y => (binds d).reverse.lookup y) → News (s.heap.hide D) L' h₁ [(d, o), (D, oD)] → 
      wpAny (model prog w) (A.deeper (envOf qual scope L' f cdv)) (execs body (envOf qual scope L' f cdv))
        (fun fl s' => R (.ok (.ret (match fl with | .ret v => v | _ => .none))) s') (fun _ _ => False)
        { s with heap := h₁, toks := tk })
    (hco : scope.isCoroutine = false) (hgen : scope.isGenerator = false) (hk : scope.kind = .function)
    (hcell : ∀ x ∈ scope.names, x.2 ≠ .cell) : codeAny (model prog w) A (.call (.ref f) args) R s := by
  have Xs : K.In s.heap := X.keeps fun b o e => Heap.of_hide e
  have Ts : Top p loose mean mg mb s.heap := T.keeps fun b o e => Heap.of_hide e
  refine codeAny_call_function (fd := fnOf name qual params body scope dV kV doc pm an cdv ct) (body := body) hroom (Xs _ _ ho) rfl hco hgen rfl (codeRec_of Xs hcd) ?_
  refine bind_one (o := dictOf [] 0) Xs _ g₁ hp ?_
  rw [hb]
  refine wpAny_pure ?_
  have up : ∀ b o, s.heap.get? b = some o → (s.heap.push (dictOf [] 0)).get? b = some o := fun b o e => Heap.get?_push_of_some _ e
  refine wpAny_newFunctionEnv hcell (hloc _) (fun h₁ hns hsb => ⟨(Ts.nolimit.keeps up).fresh _ hsb, codeAny_func ?_⟩) hk
  have hk₁ : ∀ b o, (s.heap.push (dictOf [] 0)).get? b = some o → h₁.get? b = some o := fun b o e => hsb.extBut b o (Nat.ne_of_lt (Heap.lt_size e)) (Heap.get?_push_of_some _ e)
  have hsz : (s.heap.push (dictOf [] 0)).objs.size = s.heap.objs.size + 1 := Heap.size_push _ _
  have hlt := Heap.lt_size hD
  have gnone : (s.heap.hide D).get? s.heap.objs.size = none := by
    cases e : (s.heap.hide D).get? s.heap.objs.size with
    | none => rfl
    | some o => exact absurd (Heap.lt_size (Heap.of_hide e)) (Nat.lt_irrefl _)
  refine wpAny_mono (h s.heap.objs.size (dictOf [] 0) (s.heap.push (dictOf [] 0)).objs.size h₁ _ ?_ (Nat.ne_of_gt hlt) (dict_empty prog w) .nil
    ⟨hns, fun b o e => hk₁ b o (up b o (Heap.of_hide e)), by rw [Heap.hide_size, hsz]; exact Nat.le_succ _⟩ ?_) (fun fl s' hl => hl) fun _ _ y => y.elim
  · exact beq_eq_false_iff_ne.mpr (Nat.ne_of_gt (modules_low Ts.nolimit))
  · intro q hq
    rcases List.mem_cons.mp hq with rfl | hq
    · exact ⟨hk₁ _ _ (Heap.get?_push_size _ rfl), Nat.ne_of_lt (by rw [hsz]; exact Nat.lt_succ_self _), gnone⟩
    · obtain rfl := List.mem_singleton.mp hq
      exact ⟨hk₁ _ _ (up _ _ hD), Nat.ne_of_lt (by rw [hsz]; exact Nat.lt_succ_of_lt hlt), Heap.hide_self _ _⟩
end

theorem calm_ME : True := by w_top off; trivial
-- entering a def of the text
local macro_rules | `(tactic| walk_at "m enterDK") => `(tactic| (
  refine wpAny_call ?_
  refine' enterDK ?k1 ?k2 ?k3 ?k6 ?k7 ?k8 ?kP ?kB ?kC ?_ ?c2 ?c3 ?c4 ?c5
  (case k1 => assumption)
  (case k2 => assumption)
  (case k3 => assumption)
  (case k6 => k_is)
  (case k7 => k_is)
  (case k8 => exact Sm.room (by assumption))
  (case kP => exact rfl)
  (case kB => exact fun _ => rfl)
  (case kC => exact fun _ => locs rfl)
  (case c2 => exact rfl)
  (case c3 => exact rfl)
  (case c4 => exact rfl)
  (case c5 => decide)
  intro d' o' L' h' tk' lo' ne' hs' fs' F' N'
  dsimp only))
local macro_rules | `(tactic| walk_at "m none") => `(tactic| fail "none")
theorem join_one {x y : Str} : Txt.join x [y] = y := rfl
theorem push_ref (vs : List Value) (v : Value) : vs.toArray.push v = (vs ++ [v]).toArray := by simp
theorem add_header_spec {w : World} {loose : List Str} {mean : ExcName → Option Value} {mg mb : Str → Option Value} {A : Around}
   {s : Shared} {x tl : Addr} {vs : List Value} {n : Nat} {nm wd : Str} {t u : Tok} {Q E : Value → Shared → Prop}
  (X : (hd.heap_39 w.params).In (s.heap.hide tl)) (T : Top hd.view_39 loose mean mg mb (s.heap.hide tl)) (S : Sm A 10) (I : Hdr (s.heap.hide tl) x tl) (hl : s.heap.get? tl = some (listOf vs.toArray n)) (hn : vs.length ≤ 1000)
  (hnm : nm.length ≤ 1000) (anm : Abc nm) (hwd : wd.length ≤ 1000) (awd : Abc wd)
  (k : ∀ a t' u' h' tk, But tl s.heap h' → h'.get? tl = some (listOf (vs ++ [Value.ref a]).toArray (n + 1)) → h'.get? a = some ⟨.type "tuple", none, .seq #[.str nm t', .str wd u'] 0, #[]⟩ → s.heap.get? a = none → Q .none {s with heap := h', toks := tk}) :
  wpAny (model PySem.Challenge.rw_tc0036_01.row.prog w) A (call (.ref 228) [.ref x, .str nm t, .str wd u]) Q E s := by
  obtain ⟨hz, dp, fr, gd, un⟩ := A
  obtain rfl : hz = none := S.hh
  obtain ⟨dx, sl, hsh, tkk, nI, I⟩ := I
  walk_at "m enterDK"
  k_steps
  rename Fr _ _ _ _ => F9
  rename News _ _ _ _ => N9
  dsimp only
  have z1 := (N9 _ (.head _))
  have z2 := (N9 _ (.tail _ (.tail _ (.tail _ (.head _))))).1
  rw [push_ref] at z2
  have z1' := z1.1
  rw [join_one] at z1'
  refine k _ _ _ _ _ (But.of_fr F9) z2 z1' ?_
  · cases q : s.heap.get? _ with
    | none => rfl
    | some o =>
      exfalso
      have h0 := z1.2.2
      dsimp only at q h0
      rw [Heap.hide_ne] at h0
      · rw [q] at h0; cases h0
      · intro e
        rename _ ∧ _ ∧ tl < _ => l9
        have := l9.2.2
        rw [e] at this
        exact absurd this (Nat.lt_irrefl _)

theorem calm_MFor : True := by w_top off; trivial
/-- how a turn of a for may end: it leaves, or the iterator and st stand and J holds of im -/
def ForEnd (h₀ : Heap) (L I : Addr) (s₀ : Shared) (own : List (Addr × Obj)) (J : (Str → Option Value) → List (Addr × Obj) → Prop) (Q : Flow → Shared → Prop) (f : Flow) (s' : Shared) : Prop :=
  match f with
  | .ret v => Q (.ret v) s'
  | .brk => Q .next s'
  | _ => ∃ h' tk m' nw im', s' = { s₀ with heap := h', toks := tk } ∧ Fr h₀ L h' m' ∧ News h₀ L h' nw ∧ (∀ p ∈ own, p ∈ nw) ∧ (∀ p ∈ im', p ∈ nw) ∧ (∀ q ∈ im', q.1 ≠ I) ∧ J m' im'
section
variable {prog : Program} {w : World} {A : Around} {E : Value → Shared → Prop} {env : Env} {h₀ : Heap} {x : Str} {px pos : Pos} {iter : Expr} {body : List Stmt} {s : Shared} {Q : Flow → Shared → Prop}
theorem for_core {I : Addr} {fp wr : List Addr} {n : Nat} {P : Nat → Value → Prop} {St : Nat → Heap → Prop} {m₀ : Str → Option Value} (st im₀ : List (Addr × Obj))
    (W : Walks prog w A I fp wr n P St) (hx : env.kindOf x = some .local) (hp : (env.scope.kind == .class || (env.scope.kind == .module && env.locals != env.globals)) = false)
    (hwr : ∀ b ∈ wr, b = I) (hfp : ∀ b ∈ fp, b = I ∨ (∃ o, h₀.get? b = some o) ∨ ∃ o, (b, o) ∈ st) (hIg : h₀.get? I = none) (hIL : I ≠ env.locals) (hSI : ∀ i h, St i h → ∃ o, h.get? I = some o) (hst : St 0 s.heap)
    (F : Fr h₀ env.locals s.heap m₀) (N : News h₀ env.locals s.heap (st ++ im₀)) (hN : ∀ p ∈ st ++ im₀, p.1 ≠ I)
    (J : Nat → (Str → Option Value) → List (Addr × Obj) → Prop) (j₀ : J 0 m₀ im₀)
    (turn : ∀ i v m im oI h tk, i < n → P i v → J i m im → (∀ p ∈ st ++ im, p.1 ≠ I) → Fr h₀ env.locals h (fun y => if y = x then some v else m y) → News h₀ env.locals h ((I, oI) :: (st ++ im)) →
      wpAny (model prog w) A (execs body env) (ForEnd h₀ env.locals I s ((I, oI) :: st) (J (i + 1)) Q) (fun _ _ => False) { s with heap := h, toks := tk })
    (done : ∀ m im h tk, J n m im → Fr h₀ env.locals h m → News h₀ env.locals h (st ++ im) → Q .next { s with heap := h, toks := tk }) :
    codeAny (model prog w) A (.forLoop (.Name x px) (.ref I) body [] env) (fun r s' => match r with | .ok f => Q f s' | .error e => cameBackBy (model prog w) A env E e s') s := by
  refine codeAny_forLoop_any (fun k s' => ∃ i m im h tk, k = n - i ∧ i ≤ n ∧ s' = { s with heap := h, toks := tk } ∧ St i h ∧ Fr h₀ env.locals h m ∧ News h₀ env.locals h (st ++ im) ∧ (∀ p ∈ st ++ im, p.1 ≠ I) ∧ J i m im) ?_ (n - 0)
    ⟨0, m₀, im₀, s.heap, s.toks, rfl, Nat.zero_le _, rfl, hst, F, N, hN, j₀⟩
  rintro k s' ⟨i, m, im, h, tk, rfl, hin, rfl, hsti, Fi, Ni, hNi, hj⟩
  have offI : ∀ b, b ≠ I → b ∉ wr := fun b hb hm => hb (hwr b hm)
  have old : ∀ b o, h₀.get? b = some o → b ≠ I := fun b o e q => by rw [q, hIg] at e; cases e
  by_cases hlt : i < n
  · refine W.item i _ _ _ hlt hsti fun v h₂ tk₂ hPv hst₂ hk₂ => ?_
    have F2 : Fr h₀ env.locals h₂ m := ⟨Fi.ns.at' fun o e => hk₂ _ o (offI _ hIL.symm) e, fun b o e => hk₂ b o (offI b (old b o e)) (Fi.keep b o e), Fi.above⟩
    have N2 : News h₀ env.locals h₂ (st ++ im) := fun p hp => ⟨hk₂ _ _ (offI _ (hNi p hp)) (Ni p hp).1, (Ni p hp).2⟩
    refine wpAny_of_eq (a := ()) rfl ?_
    refine wpAny_assign_Name (wpAny_storeName_local hx F2.ns (fun h₃ hn₃ hs₃ => ?_) hp)
    have F3 := F2.set hn₃ hs₃
    have N3 := N2.set hs₃
    have hst₃ : St (i + 1) h₃ := W.frame _ _ _ hst₂ fun b hb o e => (hs₃.2 b fun q => by
      rcases hfp b hb with q' | ⟨o', q'⟩ | ⟨o', q'⟩
      · exact hIL (q' ▸ q)
      · exact absurd (Heap.lt_size q') (by rw [q]; exact Nat.not_lt.mpr F.above)
      · exact (N _ (List.mem_append_left _ q')).2.1 q).trans e
    obtain ⟨oI, hI3⟩ := hSI _ _ hst₃
    have NI : News h₀ env.locals h₃ ((I, oI) :: (st ++ im)) := fun p hp' => by
      rcases List.mem_cons.mp hp' with rfl | hp'
      · exact ⟨hI3, hIL, hIg⟩
      · exact N3 p hp'
    refine wpAny_mono (turn i v m im oI h₃ _ hlt hPv hj hNi F3 NI) (fun f s₃ h₃' => ?_) fun _ _ y => y.elim
    have close : (∃ h' tk m' nw im', s₃ = { s with heap := h', toks := tk } ∧ Fr h₀ env.locals h' m' ∧ News h₀ env.locals h' nw ∧ (∀ p ∈ (I, oI) :: st, p ∈ nw) ∧ (∀ p ∈ im', p ∈ nw) ∧ (∀ q ∈ im', q.1 ≠ I) ∧ J (i + 1) m' im') →
        ∃ k', k' < n - i ∧ ∃ i m im h tk, k' = n - i ∧ i ≤ n ∧ s₃ = { s with heap := h, toks := tk } ∧ St i h ∧ Fr h₀ env.locals h m ∧ News h₀ env.locals h (st ++ im) ∧ (∀ p ∈ st ++ im, p.1 ≠ I) ∧ J i m im := by
      rintro ⟨h', tk', m', nw, im', rfl, F4, N4, ho, him, hI', hj'⟩
      refine ⟨n - (i + 1), by omega, i + 1, m', im', h', tk', rfl, hlt, rfl, ?_, F4, fun p hp => N4 p ((List.mem_append.mp hp).elim (fun q => ho p (.tail _ q)) (him p)), fun p hp => (List.mem_append.mp hp).elim (fun q => hNi p (List.mem_append_left _ q)) (hI' p), hj'⟩
      refine W.frame _ _ _ hst₃ fun b hb o e => ?_
      rcases hfp b hb with rfl | ⟨o', q'⟩ | ⟨o', q'⟩
      · rw [hI3] at e; cases e; exact (N4 _ (ho _ (.head _))).1
      · have := F3.keep b o' q'
        rw [e] at this; cases this
        exact F4.keep b o q'
      · have := (N3 _ (List.mem_append_left _ q')).1
        dsimp only at this
        rw [e] at this; cases this
        exact (N4 _ (ho _ (.tail _ q'))).1
    cases f with
    | ret v => exact h₃'
    | brk => exact h₃'
    | next => exact close h₃'
    | cont => exact close h₃'
  · have hin' : i = n := by omega
    subst hin'
    refine W.done _ _ _ hsti fun h₂ tk₂ hk₂ => wpAny_execs_nil ?_
    exact done m im h₂ _ hj ⟨Fi.ns.at' fun o e => hk₂ _ o (offI _ hIL.symm) e, fun b o e => hk₂ b o (offI b (old b o e)) (Fi.keep b o e), Fi.above⟩ fun p hp => ⟨hk₂ _ _ (offI _ (hNi p hp)) (Ni p hp).1, (Ni p hp).2⟩
theorem fresh_none {h : Heap} : h.get? h.objs.size = none := by
  cases e : h.get? h.objs.size with
  | none => rfl
  | some o => exact absurd (Heap.lt_size e) (Nat.lt_irrefl _)
theorem iter_list {l : Addr} {items : List Value} {m₀ : Str → Option Value} (st im₀ : List (Addr × Obj)) (hh : A.handled = none) (hl : s.heap.IsList l items.toArray) (hlp : (∃ o, h₀.get? l = some o) ∨ ∃ o, (l, o) ∈ st)
    (hx : env.kindOf x = some .local) (hp : (env.scope.kind == .class || (env.scope.kind == .module && env.locals != env.globals)) = false)
    (F : Fr h₀ env.locals s.heap m₀) (N : News h₀ env.locals s.heap (st ++ im₀)) (J : Nat → (Str → Option Value) → List (Addr × Obj) → Prop) (j₀ : J 0 m₀ im₀)
    (turn : ∀ I i v m im oI h tk, items[i]? = some v → J i m im → (∀ p ∈ st ++ im, p.1 ≠ I) → Fr h₀ env.locals h (fun y => if y = x then some v else m y) → News h₀ env.locals h ((I, oI) :: (st ++ im)) →
      wpAny (model prog w) A (execs body env) (ForEnd h₀ env.locals I s ((I, oI) :: st) (J (i + 1)) Q) (fun _ _ => False) { s with heap := h, toks := tk })
    (done : ∀ m im h tk, J items.length m im → Fr h₀ env.locals h m → News h₀ env.locals h (st ++ im) → Q .next { s with heap := h, toks := tk }) :
    wpAny (model prog w) A (pyIter (.ref l)) (fun it s₂ => codeAny (model prog w) A (.forLoop (.Name x px) it body [] env) (fun r s' => match r with | .ok f => Q f s' | .error e => cameBackBy (model prog w) A env E e s') s₂) E s := by
  refine wpAny_pyIter_list hl ?_
  have hI0 : s.heap.get? s.heap.objs.size = none := fresh_none
  generalize hI : s.heap.objs.size = I at hI0 ⊢
  have up : ∀ b o, s.heap.get? b = some o → (s.heap.push { cls := .type "list_iterator", data := .fields #[.ref l, .int 0 0] }).get? b = some o := fun b o e => Heap.get?_push_of_some _ e
  have hpI : (s.heap.push { cls := .type "list_iterator", data := .fields #[.ref l, .int 0 0] }).get? I = some { cls := .type "list_iterator", data := .fields #[.ref l, .int 0 0] } := by rw [← hI]; exact Heap.get?_push_size _ rfl
  have ne : ∀ b o, s.heap.get? b = some o → b ≠ I := fun b o e q => by rw [q, hI0] at e; cases e
  have hIg : h₀.get? I = none := by
    cases e : h₀.get? I with
    | none => rfl
    | some o => exact absurd rfl (ne _ _ (F.keep _ _ e))
  obtain ⟨ol, hol, hrest⟩ := hl
  obtain ⟨oL, _, _, hoL, _⟩ := F.ns
  refine for_core (s := { s with heap := s.heap.push { cls := .type "list_iterator", data := .fields #[.ref l, .int 0 0] } }) (n := items.length) st im₀ (Walks.list hh I l (ne _ _ hol) items.toArray) hx hp (by simp) ?_ hIg (ne _ _ hoL).symm ?_
    ⟨⟨_, hpI, rfl, rfl⟩, ⟨ol, up _ _ hol, hrest⟩⟩ (F.push _) (N.grown up) (fun p hp => ne _ _ (N p hp).1) J j₀ ?_ done
  · intro b hb
    simp only [List.mem_cons, List.not_mem_nil, or_false] at hb
    exact hb.elim .inl fun q => .inr (q ▸ hlp)
  · rintro i h ⟨⟨o, ho, _⟩, _⟩
    exact ⟨o, ho⟩
  · intro i v m im oI h tk hi hv hj hN F N
    exact turn I i v m im oI h tk (by simpa using hv) hj hN F N
theorem iter_str {y : Str} {t : Tok} {m₀ : Str → Option Value} (im₀ : List (Addr × Obj)) (hh : A.handled = none) (hasc : y.cps.all (· < 128) = true)
    (hx : env.kindOf x = some .local) (hp : (env.scope.kind == .class || (env.scope.kind == .module && env.locals != env.globals)) = false)
    (F : Fr h₀ env.locals s.heap m₀) (N : News h₀ env.locals s.heap im₀) (J : Nat → (Str → Option Value) → List (Addr × Obj) → Prop) (j₀ : J 0 m₀ im₀)
    (turn : ∀ I i c u m im oI h tk, y.cps[i]? = some c → J i m im → (∀ p ∈ im, p.1 ≠ I) → Fr h₀ env.locals h (fun z => if z = x then some (.str ⟨#[c]⟩ u) else m z) → News h₀ env.locals h ((I, oI) :: im) →
      wpAny (model prog w) A (execs body env) (ForEnd h₀ env.locals I s [(I, oI)] (J (i + 1)) Q) (fun _ _ => False) { s with heap := h, toks := tk })
    (done : ∀ m im h tk, J y.cps.size m im → Fr h₀ env.locals h m → News h₀ env.locals h im → Q .next { s with heap := h, toks := tk }) :
    wpAny (model prog w) A (pyIter (.str y t)) (fun it s₂ => codeAny (model prog w) A (.forLoop (.Name x px) it body [] env) (fun r s' => match r with | .ok f => Q f s' | .error e => cameBackBy (model prog w) A env E e s') s₂) E s := by
  refine wpAny_pyIter_ascii hasc ?_
  have hI0 : s.heap.get? s.heap.objs.size = none := fresh_none
  generalize hI : s.heap.objs.size = I at hI0 ⊢
  have up : ∀ b o, s.heap.get? b = some o → (s.heap.push { cls := .type "str_ascii_iterator", data := .fields #[.str y t, .int 0 0] }).get? b = some o := fun b o e => Heap.get?_push_of_some _ e
  have hpI : (s.heap.push { cls := .type "str_ascii_iterator", data := .fields #[.str y t, .int 0 0] }).get? I = some { cls := .type "str_ascii_iterator", data := .fields #[.str y t, .int 0 0] } := by rw [← hI]; exact Heap.get?_push_size _ rfl
  have ne : ∀ b o, s.heap.get? b = some o → b ≠ I := fun b o e q => by rw [q, hI0] at e; cases e
  have hIg : h₀.get? I = none := by
    cases e : h₀.get? I with
    | none => rfl
    | some o => exact absurd rfl (ne _ _ (F.keep _ _ e))
  obtain ⟨oL, _, _, hoL, _⟩ := F.ns
  refine for_core (s := { s with heap := s.heap.push { cls := .type "str_ascii_iterator", data := .fields #[.str y t, .int 0 0] } }) (n := y.cps.size) [] im₀ (Walks.strAscii hh I y t) hx hp (by simp) (by simp) hIg (ne _ _ hoL).symm ?_
    ⟨_, hpI, rfl, rfl⟩ (F.push _) (N.grown up) (fun p hp => ne _ _ (N p hp).1) J j₀ ?_ done
  · rintro i h ⟨o, ho, _⟩
    exact ⟨o, ho⟩
  · rintro i v m im oI h tk hi ⟨c, u, hc, rfl⟩ hj hN F N
    exact turn I i c u m im oI h tk hc hj hN F N
theorem iter_range {r : Addr} {a₀ b₀ : Int} {t₀ u₀ v₀ : Tok} {n : Nat} {m₀ : Str → Option Value} (im₀ : List (Addr × Obj)) (hh : A.handled = none) (hr : IsRange s.heap r a₀ b₀ 1 t₀ u₀ v₀) (hsmall : Builtin.Range.small a₀ b₀ 1 = true) (hsz : Builtin.Range.rangeSize a₀ b₀ 1 = (n : Int))
    (hx : env.kindOf x = some .local) (hp : (env.scope.kind == .class || (env.scope.kind == .module && env.locals != env.globals)) = false)
    (F : Fr h₀ env.locals s.heap m₀) (N : News h₀ env.locals s.heap im₀) (J : Nat → (Str → Option Value) → List (Addr × Obj) → Prop) (j₀ : J 0 m₀ im₀)
    (turn : ∀ I i u m im oI h tk, i < n → J i m im → (∀ p ∈ im, p.1 ≠ I) → Fr h₀ env.locals h (fun z => if z = x then some (.int (a₀ + (i : Int)) u) else m z) → News h₀ env.locals h ((I, oI) :: im) →
      wpAny (model prog w) A (execs body env) (ForEnd h₀ env.locals I s [(I, oI)] (J (i + 1)) Q) (fun _ _ => False) { s with heap := h, toks := tk })
    (done : ∀ m im h tk, J n m im → Fr h₀ env.locals h m → News h₀ env.locals h im → Q .next { s with heap := h, toks := tk }) :
    wpAny (model prog w) A (pyIter (.ref r)) (fun it s₂ => codeAny (model prog w) A (.forLoop (.Name x px) it body [] env) (fun r s' => match r with | .ok f => Q f s' | .error e => cameBackBy (model prog w) A env E e s') s₂) E s := by
  refine wpAny_pyIter_range hr hsmall ?_
  have hI0 : s.heap.get? s.heap.objs.size = none := fresh_none
  generalize hI : s.heap.objs.size = I at hI0 ⊢
  rw [hsz]
  have up : ∀ b o, s.heap.get? b = some o → (s.heap.push { cls := .type "range_iterator", data := .fields #[rawInt a₀, rawInt (n : Int), rawInt 1] }).get? b = some o := fun b o e => Heap.get?_push_of_some _ e
  have hpI : (s.heap.push { cls := .type "range_iterator", data := .fields #[rawInt a₀, rawInt (n : Int), rawInt 1] }).get? I = some { cls := .type "range_iterator", data := .fields #[rawInt a₀, rawInt (n : Int), rawInt 1] } := by rw [← hI]; exact Heap.get?_push_size _ rfl
  have ne : ∀ b o, s.heap.get? b = some o → b ≠ I := fun b o e q => by rw [q, hI0] at e; cases e
  have hIg : h₀.get? I = none := by
    cases e : h₀.get? I with
    | none => rfl
    | some o => exact absurd rfl (ne _ _ (F.keep _ _ e))
  obtain ⟨oL, _, _, hoL, _⟩ := F.ns
  refine for_core (s := { s with heap := s.heap.push { cls := .type "range_iterator", data := .fields #[rawInt a₀, rawInt (n : Int), rawInt 1] } }) (n := n) [] im₀ (Walks.range hh I a₀ 1 n) hx hp (by simp) (by simp) hIg (ne _ _ hoL).symm ?_
    (by show IsRangeIter _ _ _ _ _; simpa using hpI) (F.push _) (N.grown up) (fun p hp => ne _ _ (N p hp).1) J j₀ ?_ done
  · intro i h ho
    exact ⟨_, ho⟩
  · rintro i v m im oI h tk hi ⟨u, hu⟩ hj hN F N
    have hu' : v = .int (a₀ + (i : Int)) u := by rw [hu]; simp
    subst hu'
    exact turn I i u m im oI h tk hi hj hN F N
end

theorem calm_MG : True := by w_top off; trivial
-- entering a def of the text
theorem new_news {h₀ h h' : Heap} {L r : Addr} {m : Str → Option Value} {news : List (Addr × Obj)} {o : Obj} (F : Fr h₀ L h m) (N : News h₀ L h news) (hk : ∀ b o, h.get? b = some o → h'.get? b = some o) (hr : h'.get? r = some o) (hn : h.get? r = none) :
    News h₀ L h' ((r, o) :: news) := by
  intro p hp
  rcases List.mem_cons.mp hp with rfl | hp
  · refine ⟨hr, fun q => ?_, ?_⟩
    · obtain ⟨oL, _, _, hoL, _⟩ := F.ns
      dsimp only at q
      rw [q, hoL] at hn; cases hn
    · cases e : h₀.get? r with
      | none => rfl
      | some o' => rw [F.keep _ _ e] at hn; cases hn
  · exact N.grown hk p hp
section
variable {w : World} {loose : List Str} {mean : ExcName → Option Value} {mg mb : Str → Option Value} {A : Around} {s : Shared} {h₀ : Heap} {L : Addr} {m : Str → Option Value} {news : List (Addr × Obj)} {Q E : Value → Shared → Prop}
theorem ahead_at {c : Str} {t : Tok} {p : Addr} {vs : List Value} {ls : List Str} (F : Fr h₀ L s.heap m) (N : News h₀ L s.heap news) (X : (hd.heap_39 w.params).In h₀) (T : Top hd.view_39 loose mean mg mb h₀) (S : Sm A 5)
  (hp : s.heap.IsList p vs.toArray) (hv : StrsAre vs ls) (hlen : ls.length ≤ 100) (htot : c.length + tot ls ≤ 1000)
  (k : ∀ r vs' n h' tk, Fr h₀ L h' m → News h₀ L h' ((r, listOf vs'.toArray n) :: news) → (∀ p ∈ news, p.1 ≠ r) → StrsAre vs' (squash (c :: ls)) → vs'.length ≤ 101 → Q (.ref r) {s with heap := h', toks := tk}) :
  wpAny (model PySem.Challenge.rw_tc0036_01.row.prog w) A (call (.ref 242) [.str c t, .ref p]) Q E s :=
  ahead_spec (X.keeps F.keep) (T.keeps F.keep) S hp hv hlen htot fun r vs' n h' tk hk hr hn hs => k r vs' n h' tk (F.keeps hk) (new_news F N hk hr hn) (fun p hp q => by have := (N p hp).1; rw [q, hn] at this; cases this) hs (by rw [hs.len_eq]; exact Nat.le_trans (len_squash _) (by simp only [List.length_cons]; omega))
end
local macro_rules | `(tactic| walk_at "call ref cons nil") => `(tactic| ((with_reducible show wpAny _ _ (call (Value.ref 242) [Value.str _ _, Value.ref _]) _ _ _); k_dflt (refine' ahead_at ?F ?N ?X ?T ?S ?p ?v ?l ?t ?_; (case F => k_asm); (case N => k_asm); (case X => k_asm); (case T => k_asm); (case S => walk_at "m sm"); (case p => walk_at "m list"); (case v => assumption); (case l => assumption); (case t => assumption); intro r' vs' n' h' tk' F' N' l1 hs' hq')))
local macro_rules | `(tactic| walk_at "exec For") => `(tactic| refine hold ?_)
theorem ascii_of {z : Str} {l : List Nat} (h : z.cps.toList = l) (ha : ∀ c ∈ l, c < 128) : z.cps.all (· < 128) = true := by
  rw [← Array.all_toList, h, List.all_eq_true]
  exact fun c hc => decide_eq_true (ha c hc)
theorem at_of {z : Str} {l : List Nat} {i c : Nat} (h : z.cps.toList = l) (hc : z.cps[i]? = some c) : l[i]? = some c := by rw [← h, Array.getElem?_toList]; exact hc
theorem heaped_spec {w : World} {loose : List Str} {mean : ExcName → Option Value} {mg mb : Str → Option Value} {A : Around}
   {s : Shared} {y : Str} {t : Tok} {Q E : Value → Shared → Prop}
  (X : (hd.heap_39 w.params).In s.heap) (T : Top hd.view_39 loose mean mg mb s.heap) (S : Sm A 10) (hy : y.length ≤ 50) (ha : ∀ c ∈ y.cps.toList, c < 128)
  (k : ∀ r vs' n h' tk, (∀ b o, s.heap.get? b = some o → h'.get? b = some o) → h'.get? r = some (listOf vs'.toArray n) → s.heap.get? r = none → StrsAre vs' (up y.cps.toList.reverse) → Q (.ref r) {s with heap := h', toks := tk}) :
  wpAny (model PySem.Challenge.rw_tc0036_01.row.prog w) A (call (.ref 256) [.str y t]) Q E s := by
  obtain ⟨hz, dp, fr, gd, un⟩ := A
  obtain rfl : hz = none := S.hh
  walk_at "m enter"
  k_steps
  unfold Hold
  refine wpAny_For ?_ (by intro _; with_unfolding_all rfl)
  k_steps
  rename Fr _ _ _ _ => F9
  rename News _ _ _ _ => N9
  dsimp only
  generalize hzz : Txt.sliceBy y none none _ = z
  have hz : z.cps.toList = y.cps.toList.reverse := by rw [← hzz]; exact rev_slice y _
  clear hzz
  have hsz : z.cps.size = y.cps.toList.reverse.length := by rw [← hz]; simp
  have hyl : y.cps.toList.reverse.length ≤ 50 := by rw [List.length_reverse, Array.length_toList]; exact hy
  refine iter_str _ rfl (ascii_of hz (fun c hc => ha c (List.mem_reverse.mp hc))) rfl rfl F9 N9 (fun i m im => ∃ r vs k, m (PySem.Str.ofString "pieces") = some (.ref r) ∧ im = [(r, listOf vs.toArray k)] ∧ StrsAre vs (up (y.cps.toList.reverse.take i))) ⟨_, [], _, rfl, rfl, .nil⟩ ?_ ?_
  · rintro I i c u m im oI h tk hc ⟨r, vs, kk, hm, rfl, hS⟩ hI F N
    clear F9 N9
    have hci := at_of hz hc
    have hil : i < y.cps.toList.reverse.length := (List.getElem?_eq_some_iff.mp hci).1
    have htu := tot_up (y.cps.toList.reverse.take i)
    rw [List.length_take] at htu
    have hlen : (up (y.cps.toList.reverse.take i)).length ≤ 100 := by omega
    have htot : (⟨#[c]⟩ : Str).length + tot (up (y.cps.toList.reverse.take i)) ≤ 1000 := by simp only [Str.length]; simp; omega
    obtain ⟨m1, F1, h1, h2⟩ : ∃ m1, Fr s.heap _ h m1 ∧ m1 (PySem.Str.ofString "sign") = some (.str ⟨#[c]⟩ u) ∧ m1 (PySem.Str.ofString "pieces") = some (.ref r) := ⟨_, F, rfl, hm⟩
    clear F
    k_steps
    rename Fr _ _ _ _ => F2
    rename News _ _ _ _ => N2
    rename StrsAre _ (squash _) => hs2
    rename ∀ p ∈ [(I, oI), _], _ => l2
    exact ⟨_, _, _, _, [_], rfl, F2, N2, (fun p hp => by rw [List.mem_singleton.mp hp]; exact .tail _ (.head _)), (fun p hp => by rw [List.mem_singleton.mp hp]; exact .head _), (fun q hq => by rw [List.mem_singleton.mp hq]; exact (l2 _ (.head _)).symm),
      _, _, _, rfl, rfl, by rw [take_snoc hci, up_snoc]; exact hs2⟩
  · rintro m im h tk ⟨r, vs, kk, hm, rfl, hS⟩ F N
    clear F9 N9
    k_steps
    dsimp only
    have z := N _ (.head _)
    refine k r vs _ _ _ F.keep z.1 z.2.2 ?_
    rw [hsz, List.take_length] at hS
    exact hS

theorem calm_MH : True := by w_top off; trivial
-- entering a def of the text
local macro_rules | `(tactic| walk_at "compareOp In str ref") => `(tactic| (k_here; (with_unfolding_all refine' in_list_strs ?l ?s ?_; (case l => walk_at "m list"); (case s => assumption))))
theorem contains_spec {w : World} {loose : List Str} {mean : ExcName → Option Value} {mg mb : Str → Option Value} {A : Around}
   {s : Shared} {l : Addr} {vs : List Value} {ls : List Str} {y : Str} {t : Tok} {Q E : Value → Shared → Prop}
  (X : (hd.heap_39 w.params).In s.heap) (T : Top hd.view_39 loose mean mg mb s.heap) (S : Sm A 5) (hl : s.heap.IsList l vs.toArray) (hs : StrsAre vs ls)
  (k : ∀ h' tk, (∀ b o, s.heap.get? b = some o → h'.get? b = some o) → Q (.bool (ls.any (· == y))) {s with heap := h', toks := tk}) :
  wpAny (model PySem.Challenge.rw_tc0036_01.row.prog w) A (call (.ref 66) [.ref l, .str y t]) Q E s := by
  obtain ⟨hz, dp, fr, gd, un⟩ := A
  obtain rfl : hz = none := S.hh
  walk_at "m enter"
  k_steps
  (dsimp only; exact k _ _ (Fr.keep (by assumption)))
section
variable {w : World} {loose : List Str} {mean : ExcName → Option Value} {mg mb : Str → Option Value} {A : Around} {s : Shared} {h₀ : Heap} {L : Addr} {m : Str → Option Value} {news : List (Addr × Obj)} {Q E : Value → Shared → Prop}
theorem contains_at {l : Addr} {vs : List Value} {ls : List Str} {y : Str} {t : Tok} (F : Fr h₀ L s.heap m) (N : News h₀ L s.heap news) (X : (hd.heap_39 w.params).In h₀) (T : Top hd.view_39 loose mean mg mb h₀) (S : Sm A 5) (hl : s.heap.IsList l vs.toArray) (hs : StrsAre vs ls)
  (k : ∀ h' tk, Fr h₀ L h' m → News h₀ L h' news → Q (.bool (ls.any (· == y))) {s with heap := h', toks := tk}) :
  wpAny (model PySem.Challenge.rw_tc0036_01.row.prog w) A (call (.ref 66) [.ref l, .str y t]) Q E s :=
  contains_spec (X.keeps F.keep) (T.keeps F.keep) S hl hs fun h' tk hk => k h' tk (F.keeps hk) (N.grown hk)
theorem Hdr.keep {h h' : Heap} {x tl : Addr} (I : Hdr h x tl) (hk : ∀ b o, h.get? b = some o → h'.get? b = some o) : Hdr h' x tl :=
  let ⟨dx, sl, hsh, tk, n, J⟩ := I; ⟨dx, sl, hsh, tk, n, InstAt.kept J hk⟩
theorem get_all_at {x tl : Addr} {vs : List Value} {hs : List (Str × Str)} {name low : Str} {t : Tok} (F : Fr h₀ L s.heap m) (N : News h₀ L s.heap news) (X : (hd.heap_39 w.params).In h₀) (T : Top hd.view_39 loose mean mg mb h₀) (S : Sm A 10) (I : Hdr h₀ x tl) (hl : s.heap.IsList tl vs.toArray) (hp : Prs s.heap vs hs) (hn : hs.length ≤ 1000)
  (hhs : ∀ p ∈ hs, (Txt.lower p.1).length ≤ 1000) (e : Txt.lower name = low) (hlow : low.length ≤ 1000) (ha : Abc low)
  (k : ∀ r ys n h' tk, Fr h₀ L h' m → News h₀ L h' ((r, listOf ys.toArray n) :: news) → (∀ p ∈ news, p.1 ≠ r) → StrsAre ys (getAll hs low) → Q (.ref r) {s with heap := h', toks := tk}) :
  wpAny (model PySem.Challenge.rw_tc0036_01.row.prog w) A (call (.ref 170) [.ref x, .str name t]) Q E s :=
  get_all_spec (X.keeps F.keep) (T.keeps F.keep) S (I.keep F.keep) hl hp hn hhs e hlow ha fun r ys n h' tk hk hr hn hs => k r ys n h' tk (F.keeps hk) (new_news F N hk hr hn) (fun p hp q => by have := (N p hp).1; rw [q, hn] at this; cases this) hs
theorem add_header_at {x tl : Addr} {vs : List Value} {n : Nat} {nm wd : Str} {t u : Tok} {pre post : List (Addr × Obj)} (F : Fr h₀ L s.heap m) (N : News h₀ L s.heap (pre ++ (tl, listOf vs.toArray n) :: post)) (hpre : ∀ p ∈ pre, p.1 ≠ tl) (hpost : ∀ p ∈ post, p.1 ≠ tl)
  (X : (hd.heap_39 w.params).In h₀) (T : Top hd.view_39 loose mean mg mb h₀) (S : Sm A 10) (I : Hdr h₀ x tl) (hn : vs.length ≤ 1000)
  (hnm : nm.length ≤ 1000) (anm : Abc nm) (hwd : wd.length ≤ 1000) (awd : Abc wd)
  (k : ∀ a t' u' h' tk, Fr h₀ L h' m → News h₀ L h' ((a, ⟨.type "tuple", none, .seq #[.str nm t', .str wd u'] 0, #[]⟩) :: (pre ++ (tl, listOf (vs ++ [Value.ref a]).toArray (n + 1)) :: post)) → (∀ p ∈ pre ++ (tl, listOf vs.toArray n) :: post, p.1 ≠ a) → Q .none {s with heap := h', toks := tk}) :
  wpAny (model PySem.Challenge.rw_tc0036_01.row.prog w) A (call (.ref 228) [.ref x, .str nm t, .str wd u]) Q E s := by
  have z := N _ (List.mem_append_right _ (.head _))
  have kk := hide_in F.keep z.2.2
  refine add_header_spec (X.keeps kk) (T.keeps kk) S (I.keep kk) z.1 hn hnm anm hwd awd fun a t' u' h' tk hb htl hta hna => ?_
  have off : ∀ p ∈ pre ++ (tl, listOf vs.toArray n) :: post, p.1 ≠ a := fun p hp q => by have := (N p hp).1; rw [q, hna] at this; cases this
  have F' := hb.fr F z.2.1 z.2.2
  have N' := hb.news N hpre hpost htl
  refine k a t' u' h' tk F' (fun p hp => ?_) off
  rcases List.mem_cons.mp hp with rfl | hp
  · refine ⟨hta, fun q => ?_, ?_⟩
    · obtain ⟨oL, _, _, hoL, _⟩ := F.ns
      dsimp only at q
      rw [q, hoL] at hna; cases hna
    · cases e : h₀.get? a with
      | none => rfl
      | some o' => rw [F.keep _ _ e] at hna; cases hna
  · exact N' p hp
end
/-- a table's rows, each in the ground or in the ledger -/
def PrsI (h₀ : Heap) (tps : List (Addr × Obj)) : List Value → List (Str × Str) → Prop
  | [], [] => True
  | v :: vs, p :: ps => (∃ a t u n, v = .ref a ∧ (h₀.get? a = some ⟨.type "tuple", none, .seq #[.str p.1 t, .str p.2 u] n, #[]⟩ ∨ (a, ⟨.type "tuple", none, .seq #[.str p.1 t, .str p.2 u] n, #[]⟩) ∈ tps)) ∧ PrsI h₀ tps vs ps
  | _, _ => False
theorem PrsI.prs {h₀ h : Heap} {L : Addr} {m : Str → Option Value} {tps news : List (Addr × Obj)} (F : Fr h₀ L h m) (N : News h₀ L h news) (hsub : ∀ p ∈ tps, p ∈ news) : ∀ {vs : List Value} {ps : List (Str × Str)}, PrsI h₀ tps vs ps → Prs h vs ps
  | [], [], _ => trivial
  | _ :: _, _ :: _, ⟨⟨a, t, u, n, e, q⟩, r⟩ => ⟨⟨a, t, u, n, e, q.elim (F.keep _ _) fun q => (N _ (hsub _ q)).1⟩, r.prs F N hsub⟩
theorem PrsI.prs' {h₀ h : Heap} {tps : List (Addr × Obj)} (hk : ∀ b o, h₀.get? b = some o → h.get? b = some o) (ht : ∀ p ∈ tps, h.get? p.1 = some p.2) : ∀ {vs : List Value} {ps : List (Str × Str)}, PrsI h₀ tps vs ps → Prs h vs ps
  | [], [], _ => trivial
  | _ :: _, _ :: _, ⟨⟨a, t, u, n, e, q⟩, r⟩ => ⟨⟨a, t, u, n, e, q.elim (hk _ _) fun q => ht _ q⟩, r.prs' hk ht⟩
theorem PrsI.of {h₀ : Heap} {tps : List (Addr × Obj)} : ∀ {vs : List Value} {ps : List (Str × Str)}, Prs h₀ vs ps → PrsI h₀ tps vs ps
  | [], [], _ => trivial
  | _ :: _, _ :: _, ⟨⟨a, t, u, n, e, q⟩, r⟩ => ⟨⟨a, t, u, n, e, .inl q⟩, PrsI.of r⟩
theorem PrsI.snoc {h₀ : Heap} {tps : List (Addr × Obj)} {a : Addr} {p : Str × Str} {t u : Tok} {n : Nat} : ∀ {vs : List Value} {ps : List (Str × Str)}, PrsI h₀ tps vs ps →
    PrsI h₀ ((a, ⟨.type "tuple", none, .seq #[.str p.1 t, .str p.2 u] n, #[]⟩) :: tps) (vs ++ [.ref a]) (ps ++ [p])
  | [], [], _ => ⟨⟨a, t, u, n, rfl, .inr (.head _)⟩, trivial⟩
  | _ :: _, _ :: _, ⟨⟨a', t', u', n', e, q⟩, r⟩ => ⟨⟨a', t', u', n', e, q.imp_right fun q => .tail _ q⟩, r.snoc⟩
theorem PrsI.length {h : Heap} {tps : List (Addr × Obj)} : ∀ {vs : List Value} {ps : List (Str × Str)}, PrsI h tps vs ps → vs.length = ps.length
  | [], [], _ => rfl
  | _ :: _, _ :: _, x => by rw [List.length_cons, List.length_cons, PrsI.length x.2]
/-- one sign more: the pieces, and the table with the new word in it -/
def note (low great : Str) (st : List Str × List (Str × Str)) (c : Nat) : List Str × List (Str × Str) :=
  match squash (⟨#[c]⟩ :: st.1) with
  | [x] => ([x], if (getAll st.2 low).any (· == x) then st.2 else st.2 ++ [(great, x)])
  | ps => (ps, st.2)
def noteAll (low great : Str) (hs : List (Str × Str)) (cs : List Nat) : List Str × List (Str × Str) := cs.foldl (note low great) ([], hs)
local macro_rules | `(tactic| walk_at "m enterD") => `(tactic| (
  refine wpAny_call ?_
  refine' enterD ?k1 ?k2 ?k3 ?k6 ?k7 ?k8 ?kB ?kC ?_ ?c2 ?c3 ?c4 ?c5
  (case k1 => assumption)
  (case k2 => assumption)
  (case k3 => assumption)
  (case k6 => k_is)
  (case k7 => k_is)
  (case k8 => exact Sm.room (by assumption))
  (case kB => exact BindsTo.of_eq rfl)
  (case kC => exact locs rfl)
  (case c2 => exact rfl)
  (case c3 => exact rfl)
  (case c4 => exact rfl)
  (case c5 => decide)
  intro L' h' F' N'
  dsimp only))
local macro_rules | `(tactic| walk_at "call ref cons nil") => `(tactic| ((with_reducible show wpAny _ _ (call (Value.ref 66) [Value.ref _, Value.str _ _]) _ _ _); k_dflt (refine' contains_at ?F ?N ?X ?T ?S ?l ?s ?_; (case F => k_asm); (case N => k_asm); (case X => k_asm); (case T => k_asm); (case S => walk_at "m sm"); (case l => walk_at "m list"); (case s => assumption); intro h' tk' F' N')))
local macro_rules | `(tactic| walk_at "call ref cons nil") => `(tactic| ((with_reducible show wpAny _ _ (call (Value.ref 170) [Value.ref _, Value.str _ _]) _ _ _); refine hold ?_))
local macro_rules | `(tactic| walk_at "call ref cons nil") => `(tactic| ((with_reducible show wpAny _ _ (call (Value.ref 228) [Value.ref _, Value.str _ _, Value.str _ _]) _ _ _); refine hold ?_))
theorem upper_at {prog : Program} {w : World} {A : Around} {s : Shared} {E : Value → Shared → Prop} {x y : Str} {t : Tok} {Q : Value → Shared → Prop} (e : Txt.upper x = y) (hy : y.length ≤ 1000) (h : ∀ t' tk', Q (.str y t') { s with toks := tk' }) :
    wpAny (model prog w) A (call (.builtin "str.upper") [.str x t]) Q E s :=
  SC.upper (by rw [e]; exact tooLong_of hy) (by rw [e]; exact h _ _)
local macro_rules | `(tactic| walk_at "call builtin:str.upper cons nil") => `(tactic| (k_here; k_dflt (refine' upper_at ?e ?y ?_; (case e => assumption); (case y => assumption); intro t' tk')))
theorem noteAll_snoc {low great : Str} {hs : List (Str × Str)} {cs : List Nat} {c : Nat} : noteAll low great hs (cs ++ [c]) = note low great (noteAll low great hs cs) c := by unfold noteAll; rw [List.foldl_append]; rfl
theorem note_fst {low great : Str} {st : List Str × List (Str × Str)} {c : Nat} : (note low great st c).1 = squash (⟨#[c]⟩ :: st.1) := by
  unfold note
  split
  · rename_i e; rw [e]
  · rfl
theorem list_end {α : Type} (P : List α → Prop) (h0 : P []) (h1 : ∀ l a, P l → P (l ++ [a])) : ∀ l, P l := by
  intro l
  induction hn : l.length generalizing l with
  | zero => rw [List.length_eq_zero_iff.mp hn]; exact h0
  | succ n ih =>
    obtain ⟨l', a, rfl⟩ : ∃ l' a, l = l' ++ [a] := ⟨l.dropLast, l.getLast (by intro q; rw [q] at hn; cases hn), (List.dropLast_concat_getLast _).symm⟩
    exact h1 _ _ (ih _ (by simpa using hn))
theorem noteAll_fst {low great : Str} {hs : List (Str × Str)} : ∀ cs, (noteAll low great hs cs).1 = up cs :=
  list_end _ rfl fun l a ih => by rw [noteAll_snoc, note_fst, ih, up_snoc]
theorem note_one {low great : Str} {hs : List (Str × Str)} {cs : List Nat} {c : Nat} {x : Str} (h : squash (⟨#[c]⟩ :: up cs) = [x]) :
    (noteAll low great hs (cs ++ [c])).2 = if (getAll (noteAll low great hs cs).2 low).any (· == x) then (noteAll low great hs cs).2 else (noteAll low great hs cs).2 ++ [(great, x)] := by
  rw [noteAll_snoc]
  unfold note
  rw [noteAll_fst, h]
theorem note_more {low great : Str} {hs : List (Str × Str)} {cs : List Nat} {c : Nat} (h : (squash (⟨#[c]⟩ :: up cs)).length ≠ 1) : (noteAll low great hs (cs ++ [c])).2 = (noteAll low great hs cs).2 := by
  rw [noteAll_snoc]
  unfold note
  rw [noteAll_fst]
  split
  · rename_i e; rw [e] at h; exact absurd rfl h
  · rfl
theorem note_snd {low great : Str} {st : List Str × List (Str × Str)} {c : Nat} : (note low great st c).2 = st.2 ∨ ∃ x, (note low great st c).2 = st.2 ++ [(great, x)] := by
  unfold note
  split
  · dsimp only
    split
    · exact .inl rfl
    · exact .inr ⟨_, rfl⟩
  · exact .inl rfl
theorem noteAll_len {low great : Str} {hs : List (Str × Str)} : ∀ cs, (noteAll low great hs cs).2.length ≤ hs.length + cs.length :=
  list_end _ (Nat.le_refl _) fun l a ih => by
    rw [noteAll_snoc, List.length_append, List.length_singleton]
    rcases note_snd (low := low) (great := great) (st := noteAll low great hs l) (c := a) with e | ⟨x, e⟩ <;> rw [e]
    · omega
    · rw [List.length_append, List.length_singleton]; omega
theorem noteAll_mem {low great : Str} {hs : List (Str × Str)} : ∀ cs, ∀ p ∈ (noteAll low great hs cs).2, p ∈ hs ∨ p.1 = great :=
  list_end _ (fun _ h => .inl h) fun l a ih p hp => by
    rw [noteAll_snoc] at hp
    rcases note_snd (low := low) (great := great) (st := noteAll low great hs l) (c := a) with e | ⟨x, e⟩ <;> rw [e] at hp
    · exact ih p hp
    · rcases List.mem_append.mp hp with hp | hp
      · exact ih p hp
      · rw [List.mem_singleton.mp hp]; exact .inr rfl
def AllIn (P : Nat → Prop) (ls : List Str) : Prop := ∀ x ∈ ls, ∀ c ∈ x.cps.toList, P c
theorem squash_in {P : Nat → Prop} : ∀ ls : List Str, AllIn P ls → AllIn P (squash ls) := by
  intro ls
  induction hn : ls.length using Nat.strongRecOn generalizing ls with
  | ind n ih =>
    match ls with
    | [] => intro h; unfold squash; exact h
    | [x] => intro h; unfold squash; exact h
    | x :: y :: r =>
      intro h
      unfold squash
      split
      · refine ih ((x ++ y) :: r).length (by rw [← hn]; simp) _ rfl fun z hz c hc => ?_
        rcases List.mem_cons.mp hz with rfl | hz
        · have e : (x ++ y).cps.toList = x.cps.toList ++ y.cps.toList := by rw [Str.cps_append]; simp
          rw [e] at hc
          rcases List.mem_append.mp hc with hc | hc
          · exact h x (.head _) c hc
          · exact h y (.tail _ (.head _)) c hc
        · exact h z (.tail _ (.tail _ hz)) c hc
      · exact h
theorem up_in {P : Nat → Prop} : ∀ cs : List Nat, (∀ c ∈ cs, P c) → AllIn P (up cs) :=
  list_end _ (fun _ _ h => nomatch h) fun l a ih h => by
    rw [up_snoc]
    refine squash_in _ fun z hz c hc => ?_
    rcases List.mem_cons.mp hz with rfl | hz
    · simp at hc; subst hc; exact h _ (by simp)
    · exact ih (fun c hc => h c (List.mem_append_left _ hc)) z hz c hc
theorem one_of {vs : List Value} {ls : List Str} (h : StrsAre vs ls) (e : vs.length = 1) : ∃ x t, vs = [.str x t] ∧ ls = [x] := by
  cases h with
  | nil => cases e
  | cons x t r =>
    cases r with
    | nil => exact ⟨x, t, rfl, rfl⟩
    | cons _ _ _ => simp at e
/-- what the list tl got is new -/
def NT (tps : List (Addr × Obj)) (vs0 vs : List Value) : Prop := ∃ ws, vs = vs0 ++ ws ∧ ∀ v ∈ ws, ∃ a o, v = .ref a ∧ (a, o) ∈ tps
theorem NT.refl {tps : List (Addr × Obj)} {vs : List Value} : NT tps vs vs := ⟨[], (List.append_nil _).symm, fun _ h => nomatch h⟩
theorem NT.snoc {tps : List (Addr × Obj)} {vs0 vs : List Value} {a : Addr} {o : Obj} (x : NT tps vs0 vs) : NT ((a, o) :: tps) vs0 (vs ++ [.ref a]) :=
  let ⟨ws, e, h⟩ := x
  ⟨ws ++ [.ref a], by rw [e, List.append_assoc], fun v hv => (List.mem_append.mp hv).elim (fun q => let ⟨b, o, e, m⟩ := h v q; ⟨b, o, e, .tail _ m⟩) fun q => ⟨a, o, List.mem_singleton.mp q, .head _⟩⟩
theorem noted_spec {w : World} {loose : List Str} {mean : ExcName → Option Value} {mg mb : Str → Option Value} {A : Around}
   {s : Shared} {x tl : Addr} {vs : List Value} {n : Nat} {hs : List (Str × Str)} {y low great : Str} {t : Tok} {Q E : Value → Shared → Prop}
  (X : (hd.heap_39 w.params).In (s.heap.hide tl)) (T : Top hd.view_39 loose mean mg mb (s.heap.hide tl)) (S : Sm A 20) (I : Hdr (s.heap.hide tl) x tl) (hl : s.heap.get? tl = some (listOf vs.toArray n)) (hp : Prs (s.heap.hide tl) vs hs) (hn : hs.length ≤ 500)
  (hhs : ∀ p ∈ hs, (Txt.lower p.1).length ≤ 1000) (hgl : (Txt.lower great).length ≤ 1000)
  (k : ∀ r ps vs' n' h' tk, But tl s.heap h' → (∃ k0, h'.get? r = some (listOf ps.toArray k0)) → s.heap.get? r = none → r ≠ tl → StrsAre ps (up y.cps.toList.reverse) → h'.get? tl = some (listOf vs'.toArray n') → Prs (h'.hide tl) vs' (noteAll low great hs y.cps.toList.reverse).2 → (∃ ws, vs' = vs ++ ws ∧ ∀ v ∈ ws, ∃ a, v = .ref a ∧ s.heap.get? a = none) → Q (.ref r) {s with heap := h', toks := tk})
  (hy : y.length ≤ 50) (ha : ∀ c ∈ y.cps.toList, c = 97 ∨ c = 98 ∨ c = 99) (e1 : Txt.lower (Txt.slice y (some (-1)) none) = low) (e2 : Txt.upper (Txt.slice y (some (-1)) none) = great) (al : Abc low) (ag : Abc great) (ll : low.length ≤ 1000) (lg : great.length ≤ 1000) :
  wpAny (model PySem.Challenge.rw_tc0036_01.row.prog w) A (call (.ref 249) [.str y t, .ref x]) Q E s := by
  obtain ⟨hz, dp, fr, gd, un⟩ := A
  obtain rfl : hz = none := S.hh
  have I0 := I
  obtain ⟨dx, sl, hsh, tkk, nI, II⟩ := I0
  walk_at "m enterD"
  k_steps
  unfold Hold
  refine wpAny_For ?_ (by intro _; with_unfolding_all rfl)
  k_steps
  rename Fr _ _ _ _ => F9
  rename News _ _ _ _ => N9
  dsimp only
  generalize hzz : Txt.sliceBy y none none _ = z
  have hz : z.cps.toList = y.cps.toList.reverse := by rw [← hzz]; exact rev_slice y _
  clear hzz
  have hsz : z.cps.size = y.cps.toList.reverse.length := by rw [← hz]; simp
  have hyl : y.cps.toList.reverse.length ≤ 50 := by rw [List.length_reverse, Array.length_toList]; exact hy
  have har : ∀ c ∈ y.cps.toList.reverse, c = 97 ∨ c = 98 ∨ c = 99 := fun c hc => ha c (List.mem_reverse.mp hc)
  generalize y.cps.toList.reverse = yr at *
  have N9' : News (s.heap.hide tl) _ _ ([(_, listOf [].toArray 0), (tl, listOf vs.toArray n)] ++ []) := fun p hp => N9 p (.tail _ hp)
  obtain ⟨vs0, hvs0⟩ : ∃ v, v = vs := ⟨_, rfl⟩
  refine iter_str _ rfl (ascii_of hz (fun c hc => by rcases har c hc with q | q | q <;> omega)) rfl rfl F9 N9' (fun i m im => ∃ r ps k vs n tps tn, m (PySem.Str.ofString "pieces") = some (.ref r) ∧ m (PySem.Str.ofString "name") = some (.str (Txt.slice y (some (-1)) none) tn) ∧ m (PySem.Str.ofString "table") = some (.ref x) ∧
     im = [(r, listOf ps.toArray k), (tl, listOf vs.toArray n)] ++ tps ∧ StrsAre ps (up (yr.take i)) ∧ PrsI (s.heap.hide tl) tps vs (noteAll low great hs (yr.take i)).2 ∧ r ≠ tl ∧ (∀ p ∈ tps, p.1 ≠ tl) ∧ NT tps vs0 vs) ⟨_, [], _, vs, n, [], _, rfl, rfl, rfl, rfl, .nil, PrsI.of hp, ?_, (fun _ h => nomatch h), hvs0 ▸ NT.refl⟩ ?_ ?_
  · exact Nat.ne_of_gt (by assumption)
  · rintro I' i c u m im oI h tk hc ⟨r, ps, kk, vs, n, tps, tn, hm1, hm2, hm3, rfl, hS, hpr, hrt, htt, hnt⟩ hI F N
    clear F9 N9 N9'
    have hci := at_of hz hc
    have hil : i < yr.length := (List.getElem?_eq_some_iff.mp hci).1
    have htu := tot_up (yr.take i)
    rw [List.length_take] at htu
    have hlen : (up (yr.take i)).length ≤ 100 := by omega
    have htot : (⟨#[c]⟩ : Str).length + tot (up (yr.take i)) ≤ 1000 := by simp only [Str.length]; simp; omega
    obtain ⟨m1, F1, h1, h2, h3, h4⟩ : ∃ m1, Fr (s.heap.hide tl) _ h m1 ∧ m1 (PySem.Str.ofString "sign") = some (.str ⟨#[c]⟩ u) ∧ m1 (PySem.Str.ofString "pieces") = some (.ref r) ∧ m1 (PySem.Str.ofString "name") = some (.str (Txt.slice y (some (-1)) none) tn) ∧ m1 (PySem.Str.ofString "table") = some (.ref x) := ⟨_, F, rfl, hm1, hm2, hm3⟩
    clear F
    simp only [List.cons_append, List.nil_append] at N
    k_steps
    · unfold Hold
      rename Fr _ _ _ _ => F2
      rename News _ _ _ _ => N2
      rename StrsAre _ (squash _) => hs2
      rename ((_ : Int) = 1) => hl1
      obtain ⟨wd, tw, rfl, hsq⟩ := one_of hs2 (by omega)
      have hnl := noteAll_len (low := low) (great := great) (hs := hs) (yr.take i)
      rw [List.length_take] at hnl
      refine get_all_at F2 N2 X T (Sm.mono (Sm.deeper S) (by decide)) I (News.isList N2 (.tail _ (.tail _ (.tail _ (.head _))))) (hpr.prs F2 N2 fun p hp => .tail _ (.tail _ (.tail _ (.tail _ hp)))) (by omega)
        (fun p hp => (noteAll_mem _ p hp).elim (hhs p) fun q => by rw [q]; exact hgl) e1 ll al ?_
      intro r1 ys1 n1 h1' tk1 F3 N3 l3 hs3
      clear F2 N2
      have hxx : ∀ z : Str, (getAll (noteAll low great hs (yr.take i)).2 low).any (· == wd) = true → z = wd → (noteAll low great hs (yr.take i ++ [c])).2 = (noteAll low great hs (yr.take i)).2 := fun z q _ => by rw [note_one hsq, if_pos q]
      rename ∀ p ∈ (I', oI) :: _, p.1 ≠ _ => l2
      k_steps
      · rename Fr _ _ _ _ => F4
        rename News _ _ _ _ => N4
        rename (List.any _ _ = true) => hany
        exact ⟨_, _, _, _, (_, _) :: (tl, _) :: tps, rfl, F4, N4, (fun p hp => by rw [List.mem_singleton.mp hp]; exact .tail _ (.tail _ (.head _))),
          (fun p hp => by
            rcases List.mem_cons.mp hp with rfl | hp
            · exact .tail _ (.head _)
            · exact .tail _ (.tail _ (.tail _ (.tail _ hp)))),
          (fun q hq => by
            rcases List.mem_cons.mp hq with rfl | hq
            · exact (l2 _ (.head _)).symm
            · exact hI q (.tail _ hq)),
          _, _, _, _, _, _, _, rfl, h3, h4, rfl, by rw [take_snoc hci, up_snoc]; exact hs2, by rw [take_snoc hci, hxx _ hany rfl]; exact hpr, (l2 _ (.tail _ (.tail _ (.head _)))).symm, htt, hnt⟩
      · unfold Hold
        rename Fr _ _ _ _ => F4
        rename News _ _ _ _ => N4
        rename (List.any _ _ = false) => hany
        have awd : ∀ q ∈ wd.cps.toList, q = 97 ∨ q = 98 ∨ q = 99 := by
          have := squash_in (P := fun q => q = 97 ∨ q = 98 ∨ q = 99) ({ cps := #[c] } :: up (List.take i yr)) (fun z hz q hq => by
            rcases List.mem_cons.mp hz with rfl | hz
            · simp at hq; subst hq; exact har _ (List.mem_of_getElem? hci)
            · exact up_in _ (fun q hq => har q (List.mem_of_mem_take hq)) z hz q hq)
          rw [hsq] at this
          exact this wd (.head _)
        have lwd : wd.length ≤ 1000 := by
          have := tot_squash ({ cps := #[c] } :: up (List.take i yr))
          rw [hsq] at this
          simp only [tot] at this htot
          omega
        refine add_header_at (pre := [_, _, _, _]) F4 N4 ?_ htt X T (Sm.mono (Sm.deeper S) (by decide)) I (by rw [hpr.length]; omega) lg ag lwd ?_ ?_
        · intro p hp
          rcases List.mem_cons.mp hp with rfl | hp
          · exact (l3 _ (.tail _ (.tail _ (.tail _ (.head _))))).symm
          rcases List.mem_cons.mp hp with rfl | hp
          · exact (l2 _ (.tail _ (.tail _ (.head _)))).symm
          rcases List.mem_cons.mp hp with rfl | hp
          · exact (hI _ (.tail _ (.head _))).symm
          rw [List.mem_singleton.mp hp]
          exact hrt
        · intro q hq
          rcases awd q hq with h | h | h <;> simp [h]
        intro a t1 u1 h5 tk5 F5 N5 l5
        k_steps
        exact ⟨_, _, _, _, (_, _) :: (tl, _) :: (a, _) :: tps, rfl, F5, N5, (fun p hp => by rw [List.mem_singleton.mp hp]; exact .tail _ (.tail _ (.tail _ (.head _)))),
          (fun p hp => by
            rcases List.mem_cons.mp hp with rfl | hp
            · exact .tail _ (.tail _ (.head _))
            rcases List.mem_cons.mp hp with rfl | hp
            · exact .tail _ (.tail _ (.tail _ (.tail _ (.tail _ (.head _)))))
            rcases List.mem_cons.mp hp with rfl | hp
            · exact .head _
            · exact .tail _ (.tail _ (.tail _ (.tail _ (.tail _ (.tail _ hp)))))),
          (fun q hq => by
            rcases List.mem_cons.mp hq with rfl | hq
            · exact (l2 _ (.head _)).symm
            rcases List.mem_cons.mp hq with rfl | hq
            · exact hI (tl, listOf vs.toArray n) (.tail _ (.head _))
            rcases List.mem_cons.mp hq with rfl | hq
            · exact (l5 (I', oI) (.tail _ (.tail _ (.head _)))).symm
            · exact hI q (.tail _ (.tail _ hq))),
          _, _, _, _, _, _, _, rfl, h3, h4, rfl, by rw [take_snoc hci, up_snoc]; exact hs2, by rw [take_snoc hci, note_one hsq, hany]; exact hpr.snoc (p := (great, wd)), (l2 _ (.tail _ (.tail _ (.head _)))).symm, (fun p hp => by
            rcases List.mem_cons.mp hp with rfl | hp
            · exact (l5 (tl, listOf vs.toArray n) (.tail _ (.tail _ (.tail _ (.tail _ (.head _)))))).symm
            · exact htt p hp), hnt.snoc⟩
    · rename Fr _ _ _ _ => F2
      rename News _ _ _ _ => N2
      rename StrsAre _ (squash _) => hs2
      rename ∀ p ∈ (I', oI) :: _, p.1 ≠ _ => l2
      rename (¬ (_ : Int) = 1) => hl1
      exact ⟨_, _, _, _, (_, _) :: (tl, _) :: tps, rfl, F2, N2, (fun p hp => by rw [List.mem_singleton.mp hp]; exact .tail _ (.head _)),
          (fun p hp => by
            rcases List.mem_cons.mp hp with rfl | hp
            · exact .head _
            · exact .tail _ (.tail _ (.tail _ hp))),
          (fun q hq => by
            rcases List.mem_cons.mp hq with rfl | hq
            · exact (l2 _ (.head _)).symm
            · exact hI q (.tail _ hq)),
          _, _, _, _, _, _, _, rfl, h3, h4, rfl, by rw [take_snoc hci, up_snoc]; exact hs2, by rw [take_snoc hci, note_more (by rw [← hs2.len_eq]; omega)]; exact hpr, (l2 _ (.tail _ (.tail _ (.head _)))).symm, htt, hnt⟩
  · rintro m im h tk ⟨r, ps, kk, vs, n, tps, tn, hm1, hm2, hm3, rfl, hS, hpr, hrt, htt, hnt⟩ F N
    clear F9 N9 N9'
    k_steps
    dsimp only
    have z1 := N _ (.head _)
    have z2 := N _ (.tail _ (.head _))
    have N' : News (s.heap.hide tl) _ _ ([(r, listOf ps.toArray kk)] ++ (tl, listOf vs.toArray n) :: tps) := N
    rw [hsz, List.take_length] at hS hpr
    refine k r ps vs n h tk (But.of_fr F) ⟨_, z1.1⟩ ?_ hrt hS z2.1 ?_ ?_
    · exact (Heap.hide_ne s.heap hrt).symm.trans z1.2.2
    · exact hpr.prs' (hide_in F.keep z2.2.2) fun p hp => (Heap.hide_ne h (htt p hp)).trans (N p (.tail _ (.tail _ hp))).1
    · obtain ⟨ws, e, hw⟩ := hnt
      exact ⟨ws, hvs0 ▸ e, fun v hv => let ⟨a, o, e, m⟩ := hw v hv; ⟨a, e, (Heap.hide_ne s.heap (htt _ m)).symm.trans (N (a, o) (.tail _ (.tail _ m))).2.2⟩⟩

theorem calm_MI : True := by w_top off; trivial
local macro_rules | `(tactic| walk_at "exec For Name Name cons nil") => `(tactic| refine hold ?_)
local macro_rules | `(tactic| walk_at "exec For Name Call cons nil") => `(tactic| refine hold ?_)
local macro_rules | `(tactic| walk_at "exec For Tuple Name cons nil") => `(tactic| refine hold ?_)
theorem comp_vals {prog : Program} {w : World} {A : Around} {E : Value → Shared → Prop} {env : Env} {iter : Expr} {x x₂ : Str} {px px₂ pe tp : Pos} {tkn : Nat} {scope : Scope} {cl : List (Str × Addr)} {pos : Pos} {s : Shared} {Q : Value → Shared → Prop} {l : Addr} {vs : List Value} {hs : List (Str × Str)}
    (hh : A.handled = none) (hl : s.heap.IsList l vs.toArray) (hp : Prs s.heap vs hs) (hsz : hs.length ≤ 1000)
    (hcell : ∀ y ∈ scope.names, y.2 ≠ .cell) (hkind : scope.kind = .function) (hx : scope.names.lookup x = some .local) (hx₂ : scope.names.lookup x₂ = some .local) (hxx : x ≠ x₂) (hd : (x₂ == ("__debug__" : Str)) = false)
    (done : ∀ D ys k h tk, s.heap.get? D = none → h.get? D = some (listOf ys.toArray k) → (∀ b o, s.heap.get? b = some o → h.get? b = some o) → StrsAre ys (hs.map (·.2)) → Q (.ref D) { s with heap := h, toks := tk }) :
    wpAny (model prog w) A (pyIter (.ref l)) (fun it s₂ => wpAny (model prog w) A (newList []) (fun acc s₃ => wpAny (model prog w) A (newFunctionEnv scope env.globals cl [] env.qual none .none (some env)) (fun cenv s₄ =>
      codeAny (model prog w) A (.compStart (.ListComp (.Name x₂ pe) [⟨.Tuple [.Name x px, .Name x₂ px₂] tkn tp, iter, [], 0⟩] scope pos) 0 it acc { cenv with scope := relabel scope env })
        (fun r s' => (∃ u, r = .ok u) ∧ ∃ m, s'.heap.Ns cenv.locals m ∧ ∀ h', Heap.SameBut cenv.locals s'.heap h' → Q acc { s' with heap := h' }) s₄) E s₃) E s₂) E s := by
  have hvn := hp.length
  refine wpAny_pyIter_list hl ?_
  generalize hI : s.heap.objs.size = I
  have fr : ∀ a, I ≤ a → s.heap.get? a = none := fun a ha => by
    cases e : s.heap.get? a with
    | none => rfl
    | some o' => exact absurd (Heap.lt_size e) (Nat.not_lt.mpr (hI ▸ ha))
  have hI0 := fr I (Nat.le_refl _)
  have hpI : (s.heap.push { cls := .type "list_iterator", data := .fields #[.ref l, .int 0 0] }).get? I = some { cls := .type "list_iterator", data := .fields #[.ref l, .int 0 0] } := by rw [← hI]; exact Heap.get?_push_size _ rfl
  obtain ⟨ol, hol, hrest⟩ := hl
  have hlI : l ≠ I := fun q => by rw [q, hI0] at hol; cases hol
  have up : ∀ b o, s.heap.get? b = some o → (s.heap.push { cls := .type "list_iterator", data := .fields #[.ref l, .int 0 0] }).get? b = some o := fun b o e => Heap.get?_push_of_some _ e
  generalize hs1 : s.heap.push { cls := .type "list_iterator", data := .fields #[.ref l, .int 0 0] } = H1 at hpI up ⊢
  have hs1z : H1.objs.size = I + 1 := by rw [← hs1, Heap.size_push, hI]
  refine wpAny_newObj_type (wpAny_newFunctionEnv hcell (by intro y hy; simp at hy) (fun h₁ hns₁ hsb₁ => ?_) hkind)
  dsimp only at hns₁ hsb₁ ⊢
  generalize hH2 : H1.push { cls := .type "list", dict := none, data := .seq ([] : List Value).toArray } = H2 at hns₁ hsb₁ ⊢
  have hC : H2.objs.size = H1.objs.size + 1 := by rw [← hH2, Heap.size_push]
  generalize hDD : H1.objs.size = D at hC ⊢
  generalize hCC : H2.objs.size = C at hC hns₁ hsb₁ ⊢
  have hDC : D ≠ C := by omega
  have hID : I ≠ D := by omega
  have hIC : I ≠ C := by omega
  have below : ∀ b o, s.heap.get? b = some o → b ≠ I ∧ b ≠ D ∧ b ≠ C := fun b o e => by
    have h1 := Heap.lt_size e
    rw [hI] at h1
    exact ⟨Nat.ne_of_lt h1, Nat.ne_of_lt (Nat.lt_of_lt_of_le h1 (by omega)), Nat.ne_of_lt (Nat.lt_of_lt_of_le h1 (by omega))⟩
  have old : ∀ b o, b ≠ C → H1.get? b = some o → h₁.get? b = some o := fun b o hb e => hsb₁.extBut b o hb (Heap.get?_push_of_some _ (hH2 ▸ Heap.get?_push_of_some _ e))
  have hacc : h₁.get? D = some (listOf ([] : List Value).toArray 0) := hsb₁.extBut _ _ hDC (Heap.get?_push_of_some _ (by rw [← hH2, ← hDD]; exact Heap.get?_push_size _ rfl))
  have hD0 : s.heap.get? D = none := fr D (by omega)
  have W := Walks.list (prog := prog) (w := w) hh I l hlI vs.toArray
  have up₁ : ∀ b o, s.heap.get? b = some o → h₁.get? b = some o := fun b o e => old b o (below b o e).2.2 (up b o e)
  have loop : ∀ s₃ : Shared, s₃ = { s with heap := h₁, toks := s.toks + ([] : List (Str × Value)).length } →
      codeAny (model prog w) A (.compLoop (.ListComp (.Name x₂ pe) [⟨.Tuple [.Name x px, .Name x₂ px₂] tkn tp, iter, [], 0⟩] scope pos) 0 (.ref I) (.ref D) (compEnvC scope cl C env))
        (fun r s' => (∃ u, r = .ok u) ∧ ∃ m, s'.heap.Ns C m ∧ ∀ h', Heap.SameBut C s'.heap h' → Q (.ref D) { s' with heap := h' }) s₃ := by
    rintro s₃ rfl
    refine LCp.codeAny_compLoop_pair
      (fun k s' => ∃ i ys c h tk m, k = vs.length - i ∧ i ≤ vs.length ∧ s' = { s with heap := h, toks := tk } ∧ (h.IsListIter I l i ∧ h.IsList l vs.toArray) ∧ h.get? D = some (listOf ys.toArray c) ∧ h.Ns C m ∧ (∀ b o, s.heap.get? b = some o → h.get? b = some o) ∧ StrsAre ys ((hs.map (·.2)).take i)) ?_ (vs.length - 0)
      ⟨0, [], 0, h₁, _, _, rfl, Nat.zero_le _, rfl, ⟨⟨_, old _ _ hIC hpI, rfl, rfl⟩, ⟨ol, up₁ _ _ hol, hrest⟩⟩, hacc, hns₁, up₁, .nil⟩
    rintro k s' ⟨i, ys, c, h, tk, m, rfl, hin, rfl, hst, hDh, hns, hgh, hys⟩
    by_cases hlt : i < vs.length
    · refine W.item i _ _ _ (by simpa using hlt) hst fun v h₂ tk₂ hPv hst₂ hk₂ => ?_
      have hv : vs[i]? = some v := by simpa using hPv
      obtain ⟨p, hpi, a, t1, u1, n1, rfl, hat⟩ := hp.at hv
      have u₂ : ∀ b o, b ≠ I → h.get? b = some o → h₂.get? b = some o := fun b o hb e => hk₂ b o (by simpa using hb) e
      have hat2 := u₂ _ _ (below _ _ hat).1 (hgh _ _ hat)
      refine wpAny_letOwnedTupleGo_listiter hst₂.1 ?_
      refine assign_Tuple_tuple hh ⟨_, hat2, rfl, _, rfl⟩ rfl rfl fun h₅ he => ?_
      have he' : ∀ b o, h₂.get? b = some o → h₅.get? b = some o := fun b o e => he b o (Nat.ne_of_lt (Heap.lt_size e)) e
      refine assignInOrder_cons (wpAny_assign_Name (wpAny_storeName_local (lookup_relabel_local hx) ((hns.at' fun o e => u₂ _ o hIC.symm e).at' fun o e => he' _ o e) (fun h₆ hn₆ hs₆ => ?_) (by simp [compEnvC, relabel, hkind])))
      refine assignInOrder_cons (wpAny_assign_Name (wpAny_storeName_local (lookup_relabel_local hx₂) hn₆ (fun h₃ hn₃ hs₃ => ?_) (by simp [compEnvC, relabel, hkind])))
      refine assignInOrder_nil ?_
      have up3 : ∀ b o, b ≠ C → h₂.get? b = some o → h₃.get? b = some o := fun b o hb e => hs₃.extBut b o hb (hs₆.extBut b o hb (he' b o e))
      refine wpAny_Name (wpAny_loadName_local (by simp [compEnvC, relabel, hkind]) (lookup_relabel_local hx₂) hn₃ (if_pos rfl) ?_) hd
      have hD3 := up3 D _ hDC (u₂ _ _ hID.symm hDh)
      refine append_at (hsz := by rw [List.size_toArray, sizeLine_eq, hys.len_eq, List.length_take]; omega) hD3 fun h5 hs5 hD5 => ?_
      have up5 : ∀ b o, b ≠ D → b ≠ C → h₂.get? b = some o → h5.get? b = some o := fun b o h1 h2 e => hs5.extBut b o h1 (up3 b o h2 e)
      obtain ⟨⟨oi, hoi, hoi2⟩, ⟨ol2, hol2, hol3⟩⟩ := hst₂
      refine ⟨vs.length - (i + 1), by omega, i + 1, ys ++ [.str p.2 u1], c + 1, h5, _, _, rfl, hlt, rfl, ⟨⟨oi, up5 _ _ hID hIC hoi, hoi2⟩, ⟨ol2, up5 _ _ (below _ _ hol).2.1 (below _ _ hol).2.2 hol2, hol3⟩⟩, (by rw [hD5]; simp), hn₃.sameBut hs5 hDC.symm, fun b o e => up5 b o (below b o e).2.1 (below b o e).2.2 (u₂ b o (below b o e).1 (hgh b o e)), ?_⟩
      have hm : (hs.map (·.2))[i]? = some p.2 := by rw [List.getElem?_map, hpi]; rfl
      rw [take_snoc hm]
      exact hys.append' (.cons _ _ .nil)
    · obtain rfl : i = vs.length := Nat.le_antisymm hin (Nat.not_lt.mp hlt)
      refine W.done _ _ _ (by simpa using hst) fun h₂ tk₂ hk₂ => ?_
      have u₂ : ∀ b o, b ≠ I → h.get? b = some o → h₂.get? b = some o := fun b o hb e => hk₂ b o (by simpa using hb) e
      refine ⟨⟨_, rfl⟩, m, hns.at' fun o e => u₂ _ o hIC.symm e, fun h' hs' => ?_⟩
      rw [hvn, List.take_of_length_le (by simp)] at hys
      exact done D ys c h' _ hD0 (hs'.extBut _ _ hDC (u₂ _ _ hID.symm hDh)) (fun b o e => hs'.extBut b o (below b o e).2.2 (u₂ b o (below b o e).1 (hgh b o e))) hys
  exact codeAny_compStart_list (loop _ rfl) (W.self 0 _ _ _ ⟨⟨_, old _ _ hIC hpI, rfl, rfl⟩, ⟨ol, up₁ _ _ hol, hrest⟩⟩ (loop _ rfl))
theorem comp_evalT {prog : Program} {w : World} {A : Around} {E : Value → Shared → Prop} {env : Env} {elt iter tg : Expr} {ifs : List Expr} {scope : Scope} {cl : List (Str × Addr)} {pos : Pos} {s : Shared} {Q : Value → Shared → Prop}
    (hclos : closureFor scope env = pure cl) (hkind : scope.kind = .function) (hnames : ∀ y ∈ scope.names, y.2 = .local → scope.names.lookup y.1 = some .local) (hs : ∀ v, foldedSetIterable iter env v = pure v)
    (h : wpAny (model prog w) A (eval iter env) (fun v s₁ => wpAny (model prog w) A (pyIter v) (fun it s₂ => wpAny (model prog w) A (newList []) (fun acc s₃ => wpAny (model prog w) A (newFunctionEnv scope env.globals cl [] env.qual none .none (some env)) (fun cenv s₄ =>
      codeAny (model prog w) A (.compStart (.ListComp elt [⟨tg, iter, ifs, 0⟩] scope pos) 0 it acc { cenv with scope := relabel scope env })
        (fun r s' => (∃ u, r = .ok u) ∧ ∃ m, s'.heap.Ns cenv.locals m ∧ ∀ h', Heap.SameBut cenv.locals s'.heap h' → Q acc { s' with heap := h' }) s₄) E s₃) E s₂) E s₁) E s) :
    wpAny (model prog w) A (eval (.ListComp elt [⟨tg, iter, ifs, 0⟩] scope pos) env) Q E s := by
  rw [eval_ListComp]
  refine wpAny_comprehension_free (use := none) rfl hs hclos hkind hnames ?_
  refine wpAny_mono h (fun v s₁ h₁ => wpAny_mono h₁ (fun it s₂ h₂ => wpAny_mono h₂ (fun acc s₃ h₃ => wpAny_mono h₃ (fun cenv s₄ h₄ => codeAny_mono h₄ ?_) fun _ _ y => y) fun _ _ y => y) fun _ _ y => y) fun _ _ y => y
  rintro r s' ⟨⟨u, rfl⟩, m, hn, hq⟩
  exact ⟨m, hn, hq⟩
local macro_rules | `(tactic| walk_at "m compT") => `(tactic| (unfold Hold; refine' comp_evalT ?hc ?hk ?hn ?hs ?_; (case hc => with_unfolding_all rfl); (case hk => rfl); (case hn => decide); (case hs => intro _; with_unfolding_all rfl)))
theorem values_spec {w : World} {loose : List Str} {mean : ExcName → Option Value} {mg mb : Str → Option Value} {A : Around}
   {s : Shared} {x tl : Addr} {vs : List Value} {hs : List (Str × Str)} {Q E : Value → Shared → Prop}
  (X : (hd.heap_39 w.params).In s.heap) (T : Top hd.view_39 loose mean mg mb s.heap) (S : Sm A 10) (I : Hdr s.heap x tl) (hl : s.heap.IsList tl vs.toArray) (hp : Prs s.heap vs hs) (hn : hs.length ≤ 1000)
  (k : ∀ r ys n h' tk, (∀ b o, s.heap.get? b = some o → h'.get? b = some o) → h'.get? r = some (listOf ys.toArray n) → s.heap.get? r = none → StrsAre ys (hs.map (·.2)) → Q (.ref r) {s with heap := h', toks := tk}) :
  wpAny (model PySem.Challenge.rw_tc0036_01.row.prog w) A (call (.ref 188) [.ref x]) Q E s := by
  obtain ⟨hz, dp, fr, gd, un⟩ := A
  obtain rfl : hz = none := S.hh
  obtain ⟨dx, sl, hsh, tkk, n, I⟩ := I
  walk_at "m enter"
  k_steps
  walk_at "m compT"
  k_steps
  unfold Hold
  rename Fr _ _ _ _ => F9
  refine comp_vals rfl (isList_keep F9.keep hl) (hp.keep F9.keep) hn (by decide) rfl rfl rfl (by decide) rfl fun D ys k0 h tk hD0 hD hk hS => ?_
  dsimp only
  exact k D ys k0 h _ (fun b o q => hk b o (F9.keep b o q)) hD (by
    cases q : s.heap.get? D with
    | none => rfl
    | some o =>
      have := F9.keep _ _ q
      dsimp only at hD0
      rw [hD0] at this
      cases this) hS
theorem iter_none {prog : Program} {w : World} {A : Around} {E : Value → Shared → Prop} {env : Env} {h₀ : Heap} {tg : Expr} {body : List Stmt} {s : Shared} {Q : Flow → Shared → Prop} {l : Addr} {m₀ : Str → Option Value} {news : List (Addr × Obj)} (hh : A.handled = none) (hl : s.heap.IsList l #[])
    (F : Fr h₀ env.locals s.heap m₀) (N : News h₀ env.locals s.heap news)
    (done : ∀ h tk, Fr h₀ env.locals h m₀ → News h₀ env.locals h news → Q .next { s with heap := h, toks := tk }) :
    wpAny (model prog w) A (pyIter (.ref l)) (fun it s₂ => codeAny (model prog w) A (.forLoop tg it body [] env) (fun r s' => match r with | .ok f => Q f s' | .error e => cameBackBy (model prog w) A env E e s') s₂) E s := by
  refine wpAny_pyIter_list hl ?_
  have hI0 : s.heap.get? s.heap.objs.size = none := fresh_none
  generalize hI : s.heap.objs.size = I at hI0 ⊢
  have up : ∀ b o, s.heap.get? b = some o → (s.heap.push { cls := .type "list_iterator", data := .fields #[.ref l, .int 0 0] }).get? b = some o := fun b o e => Heap.get?_push_of_some _ e
  have hpI : (s.heap.push { cls := .type "list_iterator", data := .fields #[.ref l, .int 0 0] }).get? I = some { cls := .type "list_iterator", data := .fields #[.ref l, .int 0 0] } := by rw [← hI]; exact Heap.get?_push_size _ rfl
  have ne : ∀ b o, s.heap.get? b = some o → b ≠ I := fun b o e q => by rw [q, hI0] at e; cases e
  obtain ⟨ol, hol, hrest⟩ := hl
  have W := Walks.list (prog := prog) (w := w) hh I l (ne _ _ hol) #[]
  refine codeAny_forLoop_any (fun k s' => s' = { s with heap := s.heap.push { cls := .type "list_iterator", data := .fields #[.ref l, .int 0 0] } }) ?_ 0 rfl
  rintro k s' rfl
  refine W.done _ _ _ ⟨⟨_, hpI, rfl, rfl⟩, ⟨ol, up _ _ hol, hrest⟩⟩ fun h₂ tk₂ hk₂ => wpAny_execs_nil ?_
  have hk : ∀ b o, s.heap.get? b = some o → h₂.get? b = some o := fun b o e => hk₂ b o (by simpa using ne b o e) (up b o e)
  exact done h₂ _ (F.keeps hk) (N.grown hk)
theorem lnL {M : Model} {A : Around} {E : Value → Shared → Prop} {s : Shared} {env : Env} {g : Heap} {C : Addr} {m : Str → Option Value} {x : Str} {v : Value} {Q : Value → Shared → Prop} (hC : env.locals = C) (F : Fr g C s.heap m) (hv : m x = some v) (h : Q v s) (hk : env.scope.kind = .function) (hx : env.kindOf x = some .local) :
    wpAny M A (loadName env x) Q E s := wpAny_loadName_local hk hx (hC ▸ F.ns) hv h
local macro_rules | `(tactic| walk_at "loadName") => `(tactic| (refine' lnL rfl ?F ?v ?_ ?k ?x; (case k => rfl); (case x => rfl); (case F => k_asm); (case v => first | assumption | exact rfl)))
theorem is_one {M : Model} {A : Around} {s : Shared} {E : Value → Shared → Prop} {p q : Int} {t u : Tok} {Q : Value → Shared → Prop} (hq : smallInt q = true) (ht : t ≠ 0) (hu : u ≠ 0) (htu : t ≠ u) (h : Q (.bool (p == q)) s) :
    wpAny M A (compareOp .Is (.int p t) (.int q u)) Q E s := by
  have e : compareOp .Is (.int p t) (.int q u) = (do return .bool (← isSame (.int p t) (.int q u)) : Sem Value) := rfl
  have ht' : (t == 0) = false := by simpa using ht
  have hu' : (u == 0) = false := by simpa using hu
  have htu' : (t == u) = false := by simpa using htu
  by_cases hpq : p = q
  · subst hpq
    intro Γ pos hΓ
    rw [e]
    simp only [isSame, isSame.cachedInt, beq_self_eq_true, hq, ht', hu', Bool.and_self, if_true, Bool.or_self, Bool.false_eq_true, if_false]
    simp only [beq_self_eq_true] at h
    exact h
  · have hpq' : (p == q) = false := by simpa using hpq
    intro Γ pos hΓ
    rw [e]
    simp only [isSame, isSame.created, hpq', ht', hu', htu', Bool.false_and, Bool.or_self, Bool.false_eq_true, if_false, Bool.not_false, if_true]
    rw [hpq'] at h
    exact h
local macro_rules | `(tactic| walk_at "compareOp Is int int") => `(tactic| (refine is_one (by first | assumption | decide) (by assumption) (by assumption) (by assumption) ?_))
theorem ints_get {vs : List Value} {ns : List Int} (h : IntsAre vs ns) {i : Nat} {v : Value} (e : vs[i]? = some v) : ∃ n u, ns[i]? = some n ∧ v = .int n u := by
  induction h generalizing i with
  | nil => cases e
  | cons n t r ih =>
    cases i with
    | zero => cases e; exact ⟨_, _, rfl, rfl⟩
    | succ i => exact ih e
theorem countP_snoc {ns : List Int} {b n : Int} {i : Nat} (h : ns[i]? = some n) : (ns.take (i + 1)).countP (· == b) = (ns.take i).countP (· == b) + (if n = b then 1 else 0) := by
  rw [take_snoc h, List.countP_append, List.countP_singleton]
  simp
theorem countOf_spec {w : World} {loose : List Str} {mean : ExcName → Option Value} {mg mb : Str → Option Value} {A : Around}
   {s : Shared} {l : Addr} {vs : List Value} {ns : List Int} {b : Int} {t : Tok} {Q E : Value → Shared → Prop}
  (X : (hd.heap_39 w.params).In s.heap) (T : Top hd.view_39 loose mean mg mb s.heap) (S : Sm A 5) (hl : s.heap.IsList l vs.toArray) (hv : IntsAre vs ns) (hn : ns.length ≤ 1000) (hb : smallInt b = true)
  (ht : ∀ n u, Value.int n u ∈ vs → u ≠ 0 ∧ u < t)
  (k : ∀ t h' tk, (∀ b o, s.heap.get? b = some o → h'.get? b = some o) → Q (.int (ns.countP (· == b) : Nat) t) {s with heap := h', toks := tk}) :
  wpAny (model PySem.Challenge.rw_tc0036_01.row.prog w) A (call (.ref 73) [.ref l, .int b t]) Q E s := by
  obtain ⟨hz, dp, fr, gd, un⟩ := A
  obtain rfl : hz = none := S.hh
  walk_at "m enter"
  k_steps
  unfold Hold
  refine wpAny_For ?_ (by intro _; with_unfolding_all rfl)
  k_steps
  unfold Hold
  rename Fr _ _ _ _ => F9
  rename News _ _ _ _ => N9
  have hlen := hv.length
  refine iter_list [] [] rfl (isList_keep F9.keep hl) (by obtain ⟨o, ho, _⟩ := hl; exact .inl ⟨o, ho⟩) rfl rfl F9 N9 (fun i m im => im = [] ∧ ∃ t1, m (PySem.Str.ofString "count") = some (.int (((ns.take i).countP (· == b) : Nat) : Int) t1) ∧ m (PySem.Str.ofString "b") = some (.int b t)) ⟨rfl, _, rfl, rfl⟩ ?_ ?_
  · rintro I i v m im oI h tk hv' ⟨rfl, t1, hm1, hm2⟩ hI F N
    obtain ⟨n, u, hni, rfl⟩ := ints_get hv hv'
    have htu := ht n u (List.mem_of_getElem? hv')
    have hu0 := htu.1
    have hut : u ≠ t := Nat.ne_of_lt htu.2
    have ht0 : t ≠ 0 := Nat.ne_of_gt (Nat.lt_of_le_of_lt (Nat.zero_le _) htu.2)
    obtain ⟨m1, F1, h1, h2, h3⟩ : ∃ m1, Fr s.heap _ h m1 ∧ m1 (PySem.Str.ofString "i") = some (.int n u) ∧ m1 (PySem.Str.ofString "count") = some (.int (((ns.take i).countP (· == b) : Nat) : Int) t1) ∧ m1 (PySem.Str.ofString "b") = some (.int b t) := ⟨_, F, rfl, hm1, hm2⟩
    clear F F9 N9
    have hcl : (ns.take i).countP (· == b) ≤ 1000 := Nat.le_trans List.countP_le_length (by rw [List.length_take]; omega)
    have hsn := countP_snoc (b := b) hni
    k_steps
    all_goals (rename Fr _ _ _ _ => F2; rename News _ _ _ _ => N2)
    all_goals (by_cases hnb : n = b)
    all_goals first
      | (rw [if_pos hnb] at hsn; exact ⟨_, _, _, _, [], rfl, F2, N2, (fun p hp => hp), (fun p hp => nomatch hp), (fun p hp => nomatch hp), rfl, _, by rw [hsn]; rfl, h3⟩)
      | (rw [if_neg hnb] at hsn; exact ⟨_, _, _, _, [], rfl, F2, N2, (fun p hp => hp), (fun p hp => nomatch hp), (fun p hp => nomatch hp), rfl, _, by rw [hsn]; exact h2, h3⟩)
      | (exfalso; simp_all)
  · rintro m im h tk ⟨rfl, t1, hm1, hm2⟩ F N
    clear F9 N9
    k_steps
    dsimp only
    rw [hlen, List.take_length]
    exact k _ _ _ F.keep

theorem calm_MJ : True := by w_top off; trivial
theorem split_at {prog : Program} {w : World} {A : Around} {E : Value → Shared → Prop} {s : Shared} {h₀ : Heap} {L : Addr} {m : Str → Option Value} {news : List (Addr × Obj)} {x y a b : Str} {t u : Tok} {Q : Value → Shared → Prop} (F : Fr h₀ L s.heap m) (N : News h₀ L s.heap news)
    (e : Txt.split x y = [a, b]) (hy : (y.length == 0) = false) (hx : x.length ≤ 1000)
    (h : ∀ l h' k t1 t2, Fr h₀ L h' m → News h₀ L h' ((l, listOf #[.str a t1, .str b t2] 0) :: news) → (∀ p ∈ news, p.1 ≠ l) → Q (.ref l) { s with heap := h', toks := k }) :
    wpAny (model prog w) A (call (.builtin "str.split") [.str x t, .str y u]) Q E s := by
  refine splitN1A F N hy (fun l h' k e' hS ha hl F' N' => ?_) (by rw [sizeLine_eq]; omega)
  rw [e] at e'
  match l, e', hS, hl, N' with
  | [(_, t1), (_, t2)], rfl, _, _, N' => exact h _ _ _ t1 t2 F' N' fun p hp => Nat.ne_of_lt (Heap.lt_size (N p hp).1)
section
local macro_rules | `(tactic| walk_at "call builtin:str.split cons nil") => `(tactic| (k_here; k_dflt (refine' split_at ?F ?N ?e ?y ?z ?_; (case F => k_asm); (case N => k_asm); (case e => assumption); (case y => decide); (case z => omega)); intro l' h' k' t1' t2' F' N' l1))
theorem gives_find4 (x y : Str) (i j : Int) (t u v z : Tok) : Gives (Builtin.«str.find» ⟨[.str x t, .str y u, .int i v, .int j z], []⟩) (.int (match Builtin.Str.occurrences x y (fromIndex x.length i) (min (fromIndex x.length j) x.length) 1 with | k :: _ => (k : Int) | [] => -1)) := by
  show Gives (match Builtin.Str.occurrences x y (fromIndex x.length i) (min (fromIndex x.length j) x.length) 1 with | k :: _ => retInt k | [] => (do rule "str.find.not-found"; retInt (-1))) _
  cases Builtin.Str.occurrences x y (fromIndex x.length i) (min (fromIndex x.length j) x.length) 1 with
  | nil => exact .rule (.of_eq rfl)
  | cons k _ => exact .of_eq rfl
theorem occ_stay (s sub : Str) (hi limit : Nat) : ∀ (l : List Nat) (st : Array Nat × Nat), (∀ i ∈ l, ¬ (((st.fst.size < limit ∧ st.snd ≤ i) ∧ i + sub.length ≤ hi) ∧ Builtin.Str.subAt s sub i = true)) → (forIn l st (StrLaws.occBody s sub hi limit)).run.fst = st.fst
  | [], st, h => rfl
  | a :: l, st, h => by
    rw [List.forIn_cons]
    unfold StrLaws.occBody
    rw [if_neg (h a (.head _))]
    exact occ_stay s sub hi limit l _ fun i hm => h i (.tail _ hm)
theorem occ_first {s sub : Str} {hi limit : Nat} (h0 : 0 < limit) (h1 : sub.length ≤ hi) (h2 : Builtin.Str.subAt s sub 0 = true) (h3 : limit = 1 ∨ ∀ i, sub.length ≤ i → 0 < i → i + sub.length ≤ hi → Builtin.Str.subAt s sub i = false) : Builtin.Str.occurrences s sub 0 hi limit = [0] := by
  rw [StrLaws.occ_eq]
  have e : List.range' 0 (hi + 1 - 0) = 0 :: List.range' 1 hi := by rw [Nat.sub_zero, List.range'_succ]
  rw [e, List.forIn_cons]
  have st : StrLaws.occBody s sub hi limit 0 (#[], 0) = pure (ForInStep.yield (#[0], sub.length)) := by
    unfold StrLaws.occBody
    rw [if_pos ⟨⟨⟨by simpa using h0, Nat.le_refl _⟩, by omega⟩, h2⟩]
    simp
  rw [st]
  show (forIn (List.range' 1 hi) (#[0], sub.length) (StrLaws.occBody s sub hi limit)).run.fst.toList = _
  rw [occ_stay]
  rintro i hi' ⟨⟨⟨q1, q2⟩, q3⟩, q4⟩
  rcases h3 with h3 | h3
  · subst h3; simp at q1
  · have : 0 < i := by simp [List.mem_range'] at hi'; omega
    rw [h3 i q2 this q3] at q4; cases q4
theorem occ_none (x : Str) (hi : Nat) : Builtin.Str.occurrences x ⟨#[]⟩ 0 hi 1 = [0] := occ_first (by decide) (Nat.zero_le _) (by simp [Builtin.Str.subAt, Str.length]) (.inl rfl)
theorem find4_at {prog : Program} {w : World} {A : Around} {E : Value → Shared → Prop} {s : Shared} {x : Str} {i j : Int} {t u v z : Tok} {Q : Value → Shared → Prop} (hi : i = 0) (h : ∀ t' tk', Q (.int 0 t') { s with toks := tk' }) :
    wpAny (model prog w) A (call (.builtin "str.find") [.str x t, .str ⟨#[]⟩ u, .int i v, .int j z]) Q E s := by
  refine call_gives F.slot_str_find (typeIs_str _ _ _) F.entry_str_find (F.args_str_find_4 _ _ _ _) (gives_find4 x ⟨#[]⟩ i j t u v z) ?_
  subst hi
  have e : fromIndex x.length 0 = 0 := by simp [fromIndex]
  rw [e, occ_none]
  exact h _ _
local macro_rules | `(tactic| walk_at "call builtin:str.find cons nil") => `(tactic| (refine find4_at rfl ?_; intro t' tk'))
theorem split_dots {word : Str} (hw : ∀ c ∈ word.cps.toList, c ≠ 46) : Txt.split (PySem.Str.ofString "..." ++ word) (PySem.Str.ofString "...") = [⟨#[]⟩, word] ∧ (Builtin.Str.occurrences (PySem.Str.ofString "..." ++ word) (PySem.Str.ofString "...") 0 (PySem.Str.ofString "..." ++ word).length 1).isEmpty = false := by
  have ed : PySem.Str.ofString "..." = ⟨#[46, 46, 46]⟩ := by decide +kernel
  rw [ed]
  have hl : ((⟨#[46, 46, 46]⟩ : Str) ++ word).length = 3 + word.length := by simp only [Str.length, Str.cps_append, Array.size_append]; rfl
  have hsub : Builtin.Str.subAt ((⟨#[46, 46, 46]⟩ : Str) ++ word) ⟨#[46, 46, 46]⟩ 0 = true := by
    simp [Builtin.Str.subAt, Str.length, Str.cps_append]
  have hno : ∀ i, 3 ≤ i → i + 3 ≤ 3 + word.length → Builtin.Str.subAt ((⟨#[46, 46, 46]⟩ : Str) ++ word) ⟨#[46, 46, 46]⟩ i = false := by
    intro i h1 h2
    cases h : Builtin.Str.subAt ((⟨#[46, 46, 46]⟩ : Str) ++ word) ⟨#[46, 46, 46]⟩ i with
    | false => rfl
    | true =>
      simp only [Builtin.Str.subAt, beq_iff_eq] at h
      have := congrArg (fun a => a[0]?) h
      have hi : i - 3 < word.cps.size := by simp only [Str.length] at h2; omega
      simp [Str.length, Str.cps_append, Array.getElem?_extract] at this
      rw [List.drop_eq_nil_of_le (by simpa using h1)] at this
      simp [Array.getElem?_extract] at this
      exact absurd rfl (hw 46 (by simpa using Array.mem_of_getElem? this.2))
  constructor
  · unfold Txt.split
    have hk : Builtin.Str.strKind (⟨#[46, 46, 46]⟩ : Str) = 1 := by decide +kernel
    have hk2 : ¬ Builtin.Str.strKind ((⟨#[46, 46, 46]⟩ : Str) ++ word) < 1 := by
      unfold Builtin.Str.strKind
      split
      · decide
      · split <;> decide
    rw [hl, hk, occ_first (by omega) (Nat.le_add_right 3 _) hsub (.inr fun i h1 _ h2 => hno i h1 h2)]
    rw [if_neg (by simp [hk2, Str.length]), if_neg (by simp)]
    simp [Builtin.Str.partsBetween, Builtin.Str.strSub, Str.length, Str.cps_append]
  · rw [occ_first (by decide) (by rw [hl]; exact Nat.le_add_right 3 _) hsub (.inl rfl)]; rfl
theorem endswith_le {x y : Str} (h : Txt.endswith x y = true) : y.length ≤ x.length := by
  unfold Txt.endswith at h
  simp at h
  omega
theorem ellipsis_spec {w : World} {loose : List Str} {mean : ExcName → Option Value} {mg mb : Str → Option Value} {A : Around}
   {s : Shared} {want got word : Str} {t u : Tok} {Q E : Value → Shared → Prop}
  (X : (hd.heap_39 w.params).In s.heap) (T : Top hd.view_39 loose mean mg mb s.heap) (S : Sm A 5) (hwant : want.length ≤ 100) (hwl : word.length ≤ 50) (hgl : got.length ≤ 50) (hw0 : (word.length == 0) = false)
  (ho : (Builtin.Str.occurrences want (PySem.Str.ofString "...") 0 want.length 1).isEmpty = false) (hsp : Txt.split want (PySem.Str.ofString "...") = [⟨#[]⟩, word])
  (k : ∀ h' tk, (∀ b o, s.heap.get? b = some o → h'.get? b = some o) → Q (.bool (Txt.endswith got word)) {s with heap := h', toks := tk}) :
  wpAny (model PySem.Challenge.rw_tc0036_01.row.prog w) A (call (.ref 45) [.str want t, .str got u]) Q E s := by
  obtain ⟨hz, dp, fr, gd, un⟩ := A
  obtain rfl : hz = none := S.hh
  walk_at "m enter"
  k_steps
  · rename Txt.endswith got word = true => he
    have := endswith_le he
    omega
  · rename Txt.endswith got word = true => he
    rename ∀ p ∈ ([] : List (Addr × Obj)), _ => l1
    clear l1
    unfold Hold
    refine wpAny_For ?_ (by intro _; with_unfolding_all rfl)
    k_steps
    unfold Hold
    rename Fr _ _ _ _ => F9
    rename News _ _ _ _ => N9
    refine iter_list [_] [] rfl (News.isList N9 (.tail _ (.head _))) (.inr ⟨_, .head _⟩) rfl rfl F9 (fun p hp => N9 p (by rw [List.mem_singleton.mp hp]; exact .tail _ (.head _))) (fun i m im => im = [] ∧ m (PySem.Str.ofString "got") = some (.str got u) ∧ ∃ t1 t2, m (PySem.Str.ofString "startpos") = some (.int 0 t1) ∧ m (PySem.Str.ofString "endpos") = some (.int ((got.length : Int) - (word.length : Int)) t2)) ⟨rfl, rfl, _, _, rfl, rfl⟩ ?_ ?_
    · rintro I i v m im oI h tk hv ⟨rfl, hm1, t1, t2, hm2, hm3⟩ hI F N
      obtain rfl : i = 0 := by
        have := (List.getElem?_eq_some_iff.mp hv).1
        simp at this
        exact this
      cases hv
      obtain ⟨m1, F1, h1, h2, h3, h4⟩ : ∃ m1, Fr s.heap _ h m1 ∧ m1 (PySem.Str.ofString "w") = some (.str ⟨#[]⟩ _) ∧ m1 (PySem.Str.ofString "got") = some (.str got u) ∧ m1 (PySem.Str.ofString "startpos") = some (.int 0 t1) ∧ m1 (PySem.Str.ofString "endpos") = some (.int ((got.length : Int) - (word.length : Int)) t2) := ⟨_, F, rfl, hm1, hm2, hm3⟩
      clear F F9 N9
      have hle := endswith_le he
      k_steps
      rename Fr _ _ _ _ => F2
      rename News _ _ _ _ => N2
      exact ⟨_, _, _, _, [], rfl, F2, N2, (fun p hp => hp), (fun p hp => nomatch hp), (fun p hp => nomatch hp), rfl, h2, _, _, rfl, h4⟩
    · rintro m im h tk ⟨rfl, hm1, t1, t2, hm2, hm3⟩ F N
      clear F9 N9
      k_steps
      dsimp only
      rw [he] at k
      exact k _ _ F.keep
  · dsimp only
    rename Txt.endswith got word = false => he
    rename Fr _ _ _ _ => F9
    rw [he] at k
    exact k _ _ F9.keep
  · rename ((word.length : Int) = 0) => he
    rw [show word.length = 0 by omega] at hw0
    cases hw0
section
variable {w : World} {loose : List Str} {mean : ExcName → Option Value} {mg mb : Str → Option Value} {A : Around} {s : Shared} {h₀ : Heap} {L : Addr} {m : Str → Option Value} {news : List (Addr × Obj)} {Q E : Value → Shared → Prop}
theorem ellipsis_at {got word : Str} {t u : Tok} (F : Fr h₀ L s.heap m) (N : News h₀ L s.heap news) (X : (hd.heap_39 w.params).In h₀) (T : Top hd.view_39 loose mean mg mb h₀) (S : Sm A 5)
  (hwl : word.length ≤ 50) (hgl : got.length ≤ 50) (hw0 : (word.length == 0) = false) (hw : ∀ c ∈ word.cps.toList, c = 97 ∨ c = 98 ∨ c = 99)
  (k : ∀ h' tk, Fr h₀ L h' m → News h₀ L h' news → Q (.bool (Txt.endswith got word)) {s with heap := h', toks := tk}) :
  wpAny (model PySem.Challenge.rw_tc0036_01.row.prog w) A (call (.ref 45) [.str (PySem.Str.ofString "..." ++ word) t, .str got u]) Q E s :=
  have sp := split_dots (word := word) (fun c hc => by rcases hw c hc with q | q | q <;> omega)
  ellipsis_spec (X.keeps F.keep) (T.keeps F.keep) S (by rw [show PySem.Str.ofString "..." = ⟨#[46, 46, 46]⟩ by decide +kernel]; simp only [Str.length, Str.cps_append, Array.size_append] at *; have : (#[46, 46, 46] : Array Nat).size = 3 := rfl; omega) hwl hgl hw0 sp.2 sp.1 fun h' tk hk => k h' tk (F.keeps hk) (N.grown hk)
end
local macro_rules | `(tactic| walk_at "call ref cons nil") => `(tactic| ((with_reducible show wpAny _ _ (call (Value.ref 45) [Value.str _ _, Value.str _ _]) _ _ _); k_dflt (refine' ellipsis_at ?F ?N ?X ?T ?S ?a ?b ?c ?d ?_; (case F => k_asm); (case N => k_asm); (case X => k_asm); (case T => k_asm); (case S => walk_at "m sm"); (case a => assumption); (case b => assumption); (case c => assumption); (case d => assumption); intro h' tk' F' N')))
def longer (y : Str) (best wd : Str) : Str := if Txt.endswith y wd = true ∧ best.length < wd.length then wd else best
def lastOf (y : Str) (ws : List Str) : Str := ws.foldl (longer y) ⟨#[]⟩
theorem lastOf_snoc {y : Str} {ws : List Str} {i : Nat} {wd : Str} (h : ws[i]? = some wd) : lastOf y (ws.take (i + 1)) = longer y (lastOf y (ws.take i)) wd := by
  rw [take_snoc h]; unfold lastOf; rw [List.foldl_append]; rfl
theorem lastOf_len {y : Str} {ws : List Str} (h : ∀ wd ∈ ws, wd.length ≤ 50) : (lastOf y ws).length ≤ 50 := by
  have : ∀ (ws : List Str) (b : Str), b.length ≤ 50 → (∀ wd ∈ ws, wd.length ≤ 50) → (ws.foldl (longer y) b).length ≤ 50 := by
    intro ws
    induction ws with
    | nil => exact fun b hb _ => hb
    | cons a r ih =>
      intro b hb hr
      refine ih _ ?_ fun z hz => hr z (.tail _ hz)
      unfold longer
      split
      · exact hr a (.head _)
      · exact hb
  exact this ws _ (by simp [Str.length]) h
theorem strs_get {vs : List Value} {ls : List Str} (h : StrsAre vs ls) {i : Nat} {v : Value} (e : vs[i]? = some v) : ∃ x t, ls[i]? = some x ∧ v = .str x t := by
  induction h generalizing i with
  | nil => cases e
  | cons n t r ih =>
    cases i with
    | zero => cases e; exact ⟨_, _, rfl, rfl⟩
    | succ i => exact ih e
theorem last_spec {w : World} {loose : List Str} {mean : ExcName → Option Value} {mg mb : Str → Option Value} {A : Around}
   {s : Shared} {x tl : Addr} {vs : List Value} {hs : List (Str × Str)} {y low : Str} {t : Tok} {Q E : Value → Shared → Prop}
  (X : (hd.heap_39 w.params).In s.heap) (T : Top hd.view_39 loose mean mg mb s.heap) (S : Sm A 20) (I : Hdr s.heap x tl) (hl : s.heap.IsList tl vs.toArray) (hp : Prs s.heap vs hs) (hn : hs.length ≤ 1000)
  (hhs : ∀ p ∈ hs, (Txt.lower p.1).length ≤ 1000) (e : Txt.lower (Txt.slice y (some (-1)) none) = low) (hlow : low.length ≤ 1000) (ha : Abc low) (hy : y.length ≤ 50)
  (hw : ∀ wd ∈ getAll hs low, wd.length ≤ 50 ∧ (wd.length == 0) = false ∧ ∀ c ∈ wd.cps.toList, c = 97 ∨ c = 98 ∨ c = 99)
  (k : ∀ t h' tk, (∀ b o, s.heap.get? b = some o → h'.get? b = some o) → Q (.str (lastOf y (getAll hs low)) t) {s with heap := h', toks := tk}) :
  wpAny (model PySem.Challenge.rw_tc0036_01.row.prog w) A (call (.ref 263) [.str y t, .ref x]) Q E s := by
  obtain ⟨hz, dp, fr, gd, un⟩ := A
  obtain rfl : hz = none := S.hh
  have I0 := I
  obtain ⟨dx, sl, hsh, tkk, nI, II⟩ := I0
  walk_at "m enter"
  k_steps
  unfold Hold
  refine wpAny_For ?_ (by intro _; with_unfolding_all rfl)
  k_steps
  unfold Hold
  rename Fr _ _ _ _ => F9
  rename News _ _ _ _ => N9
  refine get_all_at F9 N9 X T (Sm.mono (Sm.deeper S) (by decide)) I (isList_keep F9.keep hl) (hp.keep F9.keep) hn hhs e hlow ha ?_
  intro r1 ys1 n1 h1' tk1 F3 N3 l3 hs3
  clear F9 N9
  dsimp only
  k_steps
  unfold Hold
  rename Fr _ _ _ _ => F9
  rename News _ _ _ _ => N9
  refine iter_list [_] [] rfl (News.isList N9 (.head _)) (.inr ⟨_, .head _⟩) rfl rfl F9 (fun p hp => N9 p (by rw [List.mem_singleton.mp hp]; exact .head _)) (fun i m im => im = [] ∧ m (PySem.Str.ofString "front") = some (.str y t) ∧ ∃ t1, m (PySem.Str.ofString "best") = some (.str (lastOf y ((getAll hs low).take i)) t1)) ⟨rfl, rfl, _, rfl⟩ ?_ ?_
  · rintro I' i v m im oI h tk hv ⟨rfl, hm1, t1, hm2⟩ hI F N
    obtain ⟨wd, tw, hwi, rfl⟩ := strs_get hs3 hv
    have hlast := lastOf_snoc (y := y) hwi
    obtain ⟨w1, w2, w3⟩ := hw wd (List.mem_of_getElem? hwi)
    have hbl : (lastOf y ((getAll hs low).take i)).length ≤ 50 := lastOf_len fun z hz => (hw z (List.mem_of_mem_take hz)).1
    generalize lastOf y ((getAll hs low).take i) = bst at *
    obtain ⟨m1, F1, h1, h2, h3⟩ : ∃ m1, Fr s.heap _ h m1 ∧ m1 (PySem.Str.ofString "word") = some (.str wd tw) ∧ m1 (PySem.Str.ofString "front") = some (.str y t) ∧ m1 (PySem.Str.ofString "best") = some (.str bst t1) := ⟨_, F, rfl, hm1, hm2⟩
    clear F F9 N9
    k_steps
    all_goals (rename Fr _ _ _ _ => F2; rename News _ _ _ _ => N2; unfold longer at hlast)
    · refine ⟨_, _, _, _, [], rfl, F2, N2, (fun p hp => by simpa using hp), (fun p hp => nomatch hp), (fun p hp => nomatch hp), rfl, h2, tw, ?_⟩
      rw [hlast, if_pos ⟨by assumption, by omega⟩]
      rfl
    · refine ⟨_, _, _, _, [], rfl, F2, N2, (fun p hp => by simpa using hp), (fun p hp => nomatch hp), (fun p hp => nomatch hp), rfl, h2, t1, ?_⟩
      rw [hlast, if_neg (by intro q; omega)]
      exact h3
    · rename Txt.endswith y wd = false => he
      refine ⟨_, _, _, _, [], rfl, F2, N2, (fun p hp => by simpa using hp), (fun p hp => nomatch hp), (fun p hp => nomatch hp), rfl, h2, t1, ?_⟩
      rw [hlast, if_neg (by rw [he]; intro q; cases q.1)]
      exact h3
  · rintro m im h tk ⟨rfl, hm1, t1, hm2⟩ F N
    clear F9 N9
    k_steps
    dsimp only
    rw [hs3.len_eq, List.take_length]
    exact k _ _ _ F.keep
end
local macro_rules | `(tactic| walk_at "call ref cons nil") => `(tactic| ((with_reducible show wpAny _ _ (call (Value.ref 45) [Value.str _ _, Value.str _ _]) _ _ _); k_dflt (refine' ellipsis_at ?F ?N ?X ?T ?S ?a ?b ?c ?d ?_; (case F => k_asm); (case N => k_asm); (case X => k_asm); (case T => k_asm); (case S => walk_at "m sm"); (case a => assumption); (case b => assumption); (case c => assumption); (case d => assumption); intro h' tk' F' N')))

theorem calm_MK : True := by w_top off; trivial
local macro_rules | `(tactic| walk_at "m none") => `(tactic| fail "none")
local macro_rules | `(tactic| walk_at "m none") => `(tactic| fail "none")
local macro_rules | `(tactic| walk_at "m none") => `(tactic| fail "none")
theorem rng {a b : Int} {n : Nat} (ha : 0 ≤ a) (ha' : a ≤ 1000) (hn : n ≤ 1000) (hb : b = a + n) : Builtin.Range.small a b 1 = true ∧ Builtin.Range.rangeSize a b 1 = n := by
  subst hb
  have e : Builtin.Range.rangeSize a (a + n) 1 = n := by
    unfold Builtin.Range.rangeSize
    rw [if_pos (by decide)]
    split
    · omega
    · omega
  refine ⟨?_, e⟩
  unfold Builtin.Range.small
  simp only [e, Builtin.Range.rangeFitsLong]
  simp
  omega
theorem iadd_list {prog : Program} {w : World} {A : Around} {E : Value → Shared → Prop} {s : Shared} {l b : Addr} {items items2 : Array Value} {n n2 : Nat} {Q : Value → Shared → Prop}
    (hl : s.heap.get? l = some { cls := .type "list", dict := none, data := .seq items n, slots := #[] }) (hb : s.heap.get? b = some { cls := .type "list", dict := none, data := .seq items2 n2, slots := #[] }) (hz : items.size + items2.size ≤ sizeLine)
    (h : Q (.ref l) { s with heap := s.heap.update l (Obj.mapSeq fun x => x ++ items2) }) : wpAny (model prog w) A (inplaceOp .Add (.ref l) (.ref b)) Q E s := by
  have ha : s.TypeIs (.ref l) "list" := ⟨_, hl, rfl⟩
  have hbT : s.TypeIs (.ref b) "list" := ⟨_, hb, rfl⟩
  have hlk := PySem.F.slot_list_iadd.lookup
  have hsq : isSeqSlot (some (.builtin "list.__iadd__")) = true := by decide +kernel
  have hfi : fillsInplaceSlot (.type "list") "add" (Operator.Add == .Add) = pure false := by
    unfold fillsInplaceSlot
    show (typeLookup (.type "list") (dunderI "add") >>= fun fi => pure (fi.isSome && !isSeqSlot fi)) = pure false
    simp only [hlk, pure_bind, hsq]
    rfl
  have hsi : seqSlot? (.type "list") (dunderI "add") = pure (some (.builtin "list.__iadd__")) := PySem.seqSlot_of hlk hsq
  unfold inplaceOp
  refine wpAny_holding ?_
  refine wpAny_bind (wpAny_typeOf ha (wpAny_bind (wpAny_of_eq hfi ?_)))
  show wpAny _ A (if false = true then _ else _) Q E s
  rw [if_neg Bool.false_ne_true]
  refine wpAny_bind (PySem.wpAny_binaryOp1_none (nm := "add") ha hbT noFill_list_add ?_)
  refine wpAny_bind (wpAny_of_eq hsi ?_)
  refine wpAny_bind (wpAny_rule (call_meets PySem.F.slot_list_iadd ha PySem.F.entry_list_iadd (PySem.F.args_list_iadd_2 _ _) (AutoSeq1.list___iadd___list_list_0 l items n b items2 n2 (extend_door hz) (Nat.le_trans (Nat.le_add_right _ _) hz) (Nat.le_succ_of_le hz)) ⟨hl, hb, h⟩))
section
variable {prog : Program} {w : World} {A : Around} {E : Value → Shared → Prop} {s : Shared} {h₀ : Heap} {L : Addr} {m : Str → Option Value} {D b : Addr} {pre post : List (Addr × Obj)}
theorem iadd_at {ys zs : List Value} {n n2 : Nat} {Q : Value → Shared → Prop}
    (F : Fr h₀ L s.heap m) (N : News h₀ L s.heap (pre ++ (D, listOf ys.toArray n) :: post)) (h1 : ∀ p ∈ pre, p.1 ≠ D) (h2 : ∀ p ∈ post, p.1 ≠ D)
    (hb : s.heap.get? b = some (listOf zs.toArray n2)) (hz : ys.length + zs.length ≤ 1000)
    (h : ∀ h' n', Fr h₀ L h' m → News h₀ L h' (pre ++ (D, listOf (ys ++ zs).toArray n') :: post) → Q (.ref D) { s with heap := h' }) :
    wpAny (model prog w) A (inplaceOp .Add (.ref D) (.ref b)) Q E s := by
  have hm := N _ (List.mem_append_right pre (List.Mem.head post))
  refine iadd_list hm.1 hb (by rw [List.size_toArray, List.size_toArray, sizeLine_eq]; omega) ?_
  have e : ys.toArray ++ zs.toArray = (ys ++ zs).toArray := by simp
  have ho' : (s.heap.update D (Obj.mapSeq fun x => x ++ zs.toArray)).get? D = some { cls := .type "list", data := .seq (ys ++ zs).toArray (if (ys.toArray ++ zs.toArray).size == ys.toArray.size then n else n + 1) } := by
    rw [Heap.get?_update_self _ hm.1 (by rw [mapSeq_app]; rfl), mapSeq_app, e]
  exact h _ _ (F.change (Heap.SameBut.update ..) hm.2.1 hm.2.2) (N.setIn h1 h2 (Heap.SameBut.update ..) ho')
theorem push_at {ys : List Value} {n : Nat} {v : Value} {Q : Value → Shared → Prop}
    (F : Fr h₀ L s.heap m) (N : News h₀ L s.heap (pre ++ (D, listOf ys.toArray n) :: post)) (h1 : ∀ p ∈ pre, p.1 ≠ D) (h2 : ∀ p ∈ post, p.1 ≠ D) (hz : ys.length ≤ 1000)
    (h : ∀ h', Fr h₀ L h' m → News h₀ L h' (pre ++ (D, listOf (ys ++ [v]).toArray (n + 1)) :: post) → Q .none { s with heap := h' }) :
    wpAny (model prog w) A (call (.builtin "list.append") [.ref D, v]) Q E s := by
  have hm := N _ (List.mem_append_right pre (List.Mem.head post))
  refine append_at hm.1 (fun h' hs hD => ?_) (by rw [List.size_toArray, sizeLine_eq]; omega)
  exact h _ (F.change hs hm.2.1 hm.2.2) (N.setIn h1 h2 hs (by rw [hD]; simp))
theorem cell_at {env : Env} {x : Str} {oc : Obj} {cv : Option Value} {v : Value} {Q : Unit → Shared → Prop}
    (F : Fr h₀ L s.heap m) (N : News h₀ L s.heap (pre ++ (D, oc) :: post)) (h1 : ∀ p ∈ pre, p.1 ≠ D) (h2 : ∀ p ∈ post, p.1 ≠ D) (ho : oc.data = .cell cv)
    (h : ∀ h' oc', Fr h₀ L h' m → News h₀ L h' (pre ++ (D, oc') :: post) → oc'.data = .cell (some v) → Q () { s with heap := h' })
    (hk : env.scope.kind = .function) (hl : env.kindOf x = some .cell) (hc : env.cells.lookup x = some D) :
    wpAny (model prog w) A (storeName env x v) Q E s := by
  have hm := N _ (List.mem_append_right pre (List.Mem.head post))
  refine wpAny_storeName_cell hk hl hc (v₀ := cv) ⟨oc, hm.1, ho⟩ fun h' ⟨oc', ho', hd'⟩ hs => ?_
  exact h _ oc' (F.change hs hm.2.1 hm.2.2) (N.setIn h1 h2 hs ho') hd'
end
section
local macro_rules | `(tactic| walk_at "storeName") => `(tactic| ((with_reducible show wpAny _ _ (storeName _ (PySem.Str.ofString "piece") _) _ _ _); refine hold ?_))
local macro_rules | `(tactic| walk_at "inplaceOp Add ref") => `(tactic| refine hold ?_)
local macro_rules | `(tactic| walk_at "call builtin:list.append cons nil") => `(tactic| refine hold ?_)
local macro_rules | `(tactic| walk_at "subscriptTail Name Name ref int") => `(tactic| refine hold ?_)
theorem allLt_mem {d : Addr} : ∀ l : List (Addr × Obj), AllLt d l → ∀ p ∈ l, @LT.lt Nat _ p.1 d := by
  intro l
  induction l with
  | nil => intro _ p hp; cases hp
  | cons q r ih =>
    intro h p hp
    rcases List.mem_cons.mp hp with e | hp
    · rw [e]; exact h.1
    · exact ih h.2 p hp
theorem news_more {h₀ h h' : Heap} {L : Addr} {m : Str → Option Value} {news im : List (Addr × Obj)} (F : Fr h₀ L h m) (N : News h₀ L h news) (hk : ∀ b o, h.get? b = some o → h'.get? b = some o) (him : ∀ p ∈ im, h'.get? p.1 = some p.2 ∧ h.get? p.1 = none) :
    News h₀ L h' (news ++ im) ∧ ∀ q ∈ news, ∀ p ∈ im, q.1 ≠ p.1 := by
  obtain ⟨oL, _, _, hoL, _⟩ := F.ns
  refine ⟨fun p hp => ?_, fun q hq p hp e => ?_⟩
  · rcases List.mem_append.mp hp with hp | hp
    · exact N.grown hk p hp
    · obtain ⟨h1, h2⟩ := him p hp
      refine ⟨h1, fun q => ?_, ?_⟩
      · rw [q, hoL] at h2; cases h2
      · cases e : h₀.get? p.1 with
        | none => rfl
        | some o => rw [F.keep _ _ e] at h2; cases h2
  · have := (N q hq).1
    rw [e, (him p hp).2] at this
    cases this
theorem truthy_nil {prog : Program} {w : World} {A : Around} {E : Value → Shared → Prop} {s : Shared} {l : Addr} {Q : Bool → Shared → Prop} (hl : s.heap.IsList l ([] : List Value).toArray) (h : ∀ tk, Q false { s with toks := tk }) : wpAny (model prog w) A (truthy (.ref l)) Q E s :=
  wpAny_truthy_list hl (by decide) (h _)
theorem truthy_snoc {prog : Program} {w : World} {A : Around} {E : Value → Shared → Prop} {s : Shared} {l : Addr} {ini : List Value} {v : Value} {Q : Bool → Shared → Prop} (hl : s.heap.IsList l (ini ++ [v]).toArray) (hz : ini.length ≤ 1000) (h : ∀ tk, Q true { s with toks := tk }) : wpAny (model prog w) A (truthy (.ref l)) Q E s :=
  wpAny_truthy_list hl (by simp; omega) (by rw [show (!(ini ++ [v]).toArray.isEmpty) = true by simp]; exact h _)
theorem item_last {prog : Program} {w : World} {A : Around} {E : Value → Shared → Prop} {s : Shared} {value slice : Expr} {l : Addr} {vs : List Value} {ys : List Str} {x : Str} {u : Tok} {Q : Value → Shared → Prop} (hl : s.heap.IsList l vs.toArray) (hi : StrsAre vs (ys ++ [x])) (h : ∀ t, Q (.str x t) s)
    (hs : subscripted slice false (.ref l) (.int (-1) u) = operate [.ref l, .int (-1) u] (getItem (.ref l) (.int (-1) u)) := by with_unfolding_all rfl) (hg : ∀ r, letTemporaryGo value (.ref l) r = pure () := by intro _; with_unfolding_all rfl) :
    wpAny (model prog w) A (subscriptTail value slice (.ref l) (.int (-1) u)) Q E s := by
  refine item_strs_neg hl hi (by decide) (by simp; omega) (by decide) (fun t => ?_) hs hg
  have e : (-1 + ((ys ++ [x]).length : Int)).toNat = ys.length := by simp; omega
  rw [e, List.getD_eq_getElem?_getD, List.getElem?_append_right (Nat.le_refl _)]
  simpa using h t
theorem strs_snoc {vs : List Value} {ys : List Str} {x : Str} (h : StrsAre vs (ys ++ [x])) : ∃ ini t, vs = ini ++ [.str x t] ∧ StrsAre ini ys := by
  induction ys generalizing vs with
  | nil =>
    cases h with
    | cons _ t r => cases r; exact ⟨[], t, rfl, .nil⟩
  | cons a r ih =>
    cases h with
    | cons _ t r' =>
      obtain ⟨ini, t', rfl, q⟩ := ih r'
      exact ⟨_ :: ini, t', rfl, .cons _ _ q⟩
local macro_rules | `(tactic| walk_at "truthy ref") => `(tactic| (first | (refine' truthy_nil ?l ?_; (case l => walk_at "m list"); intro tk') | (refine' truthy_snoc ?l ?z ?_; (case l => walk_at "m list"); (case z => omega); intro tk')))
local macro_rules | `(tactic| walk_at "subscriptTail Name UnaryOp ref int") => `(tactic| (refine' item_last ?l ?i ?_; (case l => walk_at "m list"); (case i => assumption); intro t'))
local macro_rules | `(tactic| walk_at "m len") => `(tactic| ((simp only [List.length_cons, List.length_nil, List.length_append]); omega))
/-- lists of lists of texts, each in a ledger -/
def CutI (led : List (Addr × Obj)) (v : Value) (c : List Str) : Prop := ∃ a vs n, v = .ref a ∧ (a, listOf vs.toArray n) ∈ led ∧ StrsAre vs c
inductive AllI {α : Type} (R : Value → α → Prop) : List Value → List α → Prop
  | nil : AllI R [] []
  | cons {v a vs as} : R v a → AllI R vs as → AllI R (v :: vs) (a :: as)
theorem AllI.imp {α : Type} {R R' : Value → α → Prop} (h : ∀ v a, R v a → R' v a) {vs : List Value} {as : List α} (x : AllI R vs as) : AllI R' vs as := by
  induction x with
  | nil => exact .nil
  | cons r _ ih => exact .cons (h _ _ r) ih
theorem AllI.length {α : Type} {R : Value → α → Prop} {vs : List Value} {as : List α} (x : AllI R vs as) : vs.length = as.length := by
  induction x with
  | nil => rfl
  | cons r _ ih => simp [ih]
theorem AllI.append {α : Type} {R : Value → α → Prop} {vs ws : List Value} {as bs : List α} (x : AllI R vs as) (y : AllI R ws bs) : AllI R (vs ++ ws) (as ++ bs) := by
  induction x with
  | nil => exact y
  | cons r _ ih => exact .cons r ih
theorem AllI.get {α : Type} {R : Value → α → Prop} {vs : List Value} {as : List α} (x : AllI R vs as) {i : Nat} {v : Value} (e : vs[i]? = some v) : ∃ a, as[i]? = some a ∧ R v a := by
  induction x generalizing i with
  | nil => cases e
  | cons r _ ih =>
    cases i with
    | zero => cases e; exact ⟨_, rfl, r⟩
    | succ i => exact ih e
theorem AllI.getA {α : Type} {R : Value → α → Prop} {vs : List Value} {as : List α} (x : AllI R vs as) {i : Nat} {a : α} (e : as[i]? = some a) : ∃ v, vs[i]? = some v ∧ R v a := by
  induction x generalizing i with
  | nil => cases e
  | cons r _ ih =>
    cases i with
    | zero => cases e; exact ⟨_, rfl, r⟩
    | succ i => exact ih e
theorem CutI.mono {led led' : List (Addr × Obj)} (h : ∀ p ∈ led, p ∈ led') {v : Value} {c : List Str} : CutI led v c → CutI led' v c := fun ⟨a, vs, n, e, m, s⟩ => ⟨a, vs, n, e, h _ m, s⟩
def RowI (led : List (Addr × Obj)) (v : Value) (r : List (List Str)) : Prop := ∃ a vs n, v = .ref a ∧ (a, listOf vs.toArray n) ∈ led ∧ AllI (CutI led) vs r
theorem RowI.mono {led led' : List (Addr × Obj)} (h : ∀ p ∈ led, p ∈ led') {v : Value} {c : List (List Str)} : RowI led v c → RowI led' v c := fun ⟨a, vs, n, e, m, s⟩ => ⟨a, vs, n, e, h _ m, s.imp fun _ _ => CutI.mono h⟩
/-- the same, in a heap -/
def CutAt (h : Heap) (v : Value) (c : List Str) : Prop := ∃ a vs n, v = .ref a ∧ h.get? a = some (listOf vs.toArray n) ∧ StrsAre vs c
def RowAt (h : Heap) (v : Value) (r : List (List Str)) : Prop := ∃ a vs n, v = .ref a ∧ h.get? a = some (listOf vs.toArray n) ∧ AllI (CutAt h) vs r
def leStr (a b : Str) : Bool := decide (¬ b.cps.toList < a.cps.toList)
def okCut (le : Str → Str → Bool) (piece : Str) (cut : List Str) : Bool := match cut.getLast? with | none => true | some l => le l piece
def grow (le : Str → Str → Bool) (piece : Str) (row : List (List Str)) : List (List Str) := (row.filter (okCut le piece)).map (· ++ [piece])
def foundTo (le : Str → Str → Bool) (y : Str) (ws : List Str) (rows : List (List (List Str))) (e : Nat) : Nat → List (List Str)
  | 0 => []
  | k + 1 => foundTo le y ws rows e k ++ (let piece := Txt.slice y (some (k : Int)) (some (e : Int)); if ws.any (· == piece) then grow le piece (rows[k]?.getD []) else [])
def rowsTo (le : Str → Str → Bool) (y : Str) (ws : List Str) : Nat → List (List (List Str))
  | 0 => [[[]]]
  | e + 1 => rowsTo le y ws e ++ [foundTo le y ws (rowsTo le y ws e) (e + 1) (e + 1)]
theorem rowsTo_len {le : Str → Str → Bool} {y : Str} {ws : List Str} : ∀ e, (rowsTo le y ws e).length = e + 1
  | 0 => rfl
  | e + 1 => by unfold rowsTo; rw [List.length_append, rowsTo_len e]; rfl
theorem grow_len {le : Str → Str → Bool} {p : Str} {r : List (List Str)} : (grow le p r).length ≤ r.length := by
  unfold grow; rw [List.length_map]; exact List.length_filter_le _ _
theorem foundTo_len {le : Str → Str → Bool} {y : Str} {ws : List Str} {rows : List (List (List Str))} {e : Nat} (h : ∀ i r, rows[i]? = some r → r.length ≤ 2 ^ i) : ∀ k, (foundTo le y ws rows e k).length ≤ 2 ^ k
  | 0 => by simp [foundTo]
  | k + 1 => by
    unfold foundTo
    rw [List.length_append, Nat.pow_succ]
    have h1 := foundTo_len (le := le) (y := y) (ws := ws) (e := e) h k
    dsimp only
    split
    · have h2 : (grow le (Txt.slice y (some (k : Int)) (some (e : Int))) (rows[k]?.getD [])).length ≤ 2 ^ k := by
        refine Nat.le_trans grow_len ?_
        cases q : rows[k]? with
        | none => simp
        | some r => exact h k r q
      omega
    · simp; omega
theorem rowsTo_row {le : Str → Str → Bool} {y : Str} {ws : List Str} : ∀ (e i : Nat) (r : List (List Str)), (rowsTo le y ws e)[i]? = some r → r.length ≤ 2 ^ i
  | 0, 0, _, q => by cases q; decide
  | 0, i + 1, _, q => by simp [rowsTo] at q
  | e + 1, i, r, q => by
    unfold rowsTo at q
    by_cases hi : i < (rowsTo le y ws e).length
    · rw [List.getElem?_append_left hi] at q; exact rowsTo_row e i r q
    · rw [List.getElem?_append_right (Nat.le_of_not_lt hi)] at q
      rw [rowsTo_len] at q hi
      obtain rfl : i = e + 1 := by
        have := (List.getElem?_eq_some_iff.mp q).1
        simp at this
        omega
      simp at q
      rw [← q]
      exact foundTo_len (rowsTo_row e) (e + 1)
theorem grow_cut {le : Str → Str → Bool} {p : Str} {r : List (List Str)} {k : Nat} (h : ∀ c ∈ r, c.length ≤ k) : ∀ c ∈ grow le p r, c.length ≤ k + 1 := by
  intro c hc
  unfold grow at hc
  obtain ⟨c', hc', rfl⟩ := List.mem_map.mp hc
  have := h c' (List.mem_filter.mp hc').1
  simp; exact this
theorem foundTo_cut {le : Str → Str → Bool} {y : Str} {ws : List Str} {rows : List (List (List Str))} {e : Nat} (h : ∀ (i : Nat) (r : List (List Str)), rows[i]? = some r → ∀ c : List Str, c ∈ r → c.length ≤ i) : ∀ k, ∀ c ∈ foundTo le y ws rows e k, c.length ≤ k
  | 0, c, hc => by simp [foundTo] at hc
  | k + 1, c, hc => by
    unfold foundTo at hc
    rcases List.mem_append.mp hc with hc | hc
    · exact Nat.le_succ_of_le (foundTo_cut h k c hc)
    · dsimp only at hc
      split at hc
      · refine grow_cut (fun c' hc' => ?_) c hc
        cases q : rows[k]? with
        | none => rw [q] at hc'; cases hc'
        | some r => rw [q] at hc'; exact h k r q c' hc'
      · cases hc
theorem rowsTo_cut {le : Str → Str → Bool} {y : Str} {ws : List Str} : ∀ (e i : Nat) (r : List (List Str)), (rowsTo le y ws e)[i]? = some r → ∀ c : List Str, c ∈ r → c.length ≤ i
  | 0, 0, _, q => by cases q; intro c hc; cases List.mem_singleton.mp hc; decide
  | 0, i + 1, _, q => by simp [rowsTo] at q
  | e + 1, i, r, q => by
    unfold rowsTo at q
    by_cases hi : i < (rowsTo le y ws e).length
    · rw [List.getElem?_append_left hi] at q; exact rowsTo_cut e i r q
    · rw [List.getElem?_append_right (Nat.le_of_not_lt hi)] at q
      rw [rowsTo_len] at q hi
      obtain rfl : i = e + 1 := by
        have := (List.getElem?_eq_some_iff.mp q).1
        simp at this
        omega
      simp at q
      rw [← q]
      exact foundTo_cut (rowsTo_cut e) (e + 1)
theorem grow_snoc {le : Str → Str → Bool} {p : Str} {r : List (List Str)} {i : Nat} {c : List Str} (h : r[i]? = some c) : grow le p (r.take (i + 1)) = grow le p (r.take i) ++ (if okCut le p c = true then [c ++ [p]] else []) := by
  unfold grow
  rw [take_snoc h, List.filter_append, List.map_append]
  congr 1
  by_cases q : okCut le p c = true
  · simp [q]
  · simp [q]
theorem cut_more {im : List (Addr × Obj)} {ys : List Value} {cs : List (List Str)} {r : Addr} {vs : List Value} {n : Nat} {c : List Str} (hj : AllI (CutI im) ys cs) (hS : StrsAre vs c) : AllI (CutI ((r, listOf vs.toArray n) :: im)) (ys ++ [.ref r]) (cs ++ [c]) :=
  (hj.imp fun _ _ => CutI.mono fun _ h => .tail _ h).append (.cons ⟨r, vs, n, rfl, .head _, hS⟩ .nil)
theorem CutI.at {h : Heap} {led : List (Addr × Obj)} (hl : ∀ p ∈ led, h.get? p.1 = some p.2) {v : Value} {c : List Str} : CutI led v c → CutAt h v c := fun ⟨a, vs, n, e, m, s⟩ => ⟨a, vs, n, e, hl _ m, s⟩
theorem RowI.at {h : Heap} {led : List (Addr × Obj)} (hl : ∀ p ∈ led, h.get? p.1 = some p.2) {v : Value} {c : List (List Str)} : RowI led v c → RowAt h v c := fun ⟨a, vs, n, e, m, s⟩ => ⟨a, vs, n, e, hl _ m, s.imp fun _ _ => CutI.at hl⟩
def CutsJ (le : Str → Str → Bool) (y : Str) (ws : List Str) (wl : Addr) (t : Tok) (cl : Addr) (e : Nat) (m : Str → Option Value) (im : List (Addr × Obj)) : Prop :=
  ∃ R rvs n oc cv led, m (PySem.Str.ofString "rows") = some (.ref R) ∧ m (PySem.Str.ofString "text") = some (.str y t) ∧ m (PySem.Str.ofString "words") = some (.ref wl) ∧
    im = (cl, oc) :: (R, listOf rvs.toArray n) :: led ∧ oc.data = .cell cv ∧ AllI (RowI led) rvs (rowsTo le y ws e) ∧ R ≠ cl ∧ (∀ p ∈ led, p.1 ≠ cl) ∧ (∀ p ∈ led, p.1 ≠ R)
def CutsK (le : Str → Str → Bool) (y : Str) (ws : List Str) (wl : Addr) (t : Tok) (cl I : Addr) (oI : Obj) (e : Nat) (k : Nat) (m : Str → Option Value) (im : List (Addr × Obj)) : Prop :=
  ∃ R rvs n Fd fvs nF oc cv led te, m (PySem.Str.ofString "rows") = some (.ref R) ∧ m (PySem.Str.ofString "text") = some (.str y t) ∧ m (PySem.Str.ofString "words") = some (.ref wl) ∧ m (PySem.Str.ofString "found") = some (.ref Fd) ∧ m (PySem.Str.ofString "end") = some (.int (1 + (e : Int)) te) ∧
    im = (I, oI) :: (cl, oc) :: (R, listOf rvs.toArray n) :: (Fd, listOf fvs.toArray nF) :: led ∧ oc.data = .cell cv ∧ AllI (RowI led) rvs (rowsTo le y ws e) ∧ AllI (CutI led) fvs (foundTo le y ws (rowsTo le y ws e) (e + 1) k) ∧
    R ≠ cl ∧ I ≠ cl ∧ I ≠ R ∧ Fd ≠ cl ∧ Fd ≠ R ∧ Fd ≠ I ∧ (∀ p ∈ led, p.1 ≠ cl) ∧ (∀ p ∈ led, p.1 ≠ R) ∧ (∀ p ∈ led, p.1 ≠ Fd) ∧ (∀ p ∈ led, p.1 ≠ I)
theorem cuts_spec {w : World} {loose : List Str} {mean : ExcName → Option Value} {mg mb : Str → Option Value} {A : Around}
   {s : Shared} {wl : Addr} {wvs : List Value} {ws : List Str} {y : Str} {t : Tok} {Q E : Value → Shared → Prop}
  (X : (hd.heap_39 w.params).In s.heap) (T : Top hd.view_39 loose mean mg mb s.heap) (S : Sm A 20) (hl : s.heap.IsList wl wvs.toArray) (hw : StrsAre wvs ws) (hwn : ws.length ≤ 1000) (hy : y.length ≤ 6)
  (k : ∀ r vs n h' tk, (∀ b o, s.heap.get? b = some o → h'.get? b = some o) → h'.get? r = some (listOf vs.toArray n) → s.heap.get? r = none → AllI (RowAt h') vs (rowsTo leStr y ws y.length) → Q (.ref r) {s with heap := h', toks := tk}) :
  wpAny (model PySem.Challenge.rw_tc0036_01.row.prog w) A (call (.ref 268) [.str y t, .ref wl]) Q E s := by
  obtain ⟨hz, dp, fr, gd, un⟩ := A
  obtain rfl : hz = none := S.hh
  obtain ⟨le, hle⟩ : ∃ le, le = leStr := ⟨_, rfl⟩
  walk_at "m enterC"
  k_steps
  unfold Hold
  refine wpAny_For ?_ (by intro _; with_unfolding_all rfl)
  k_steps
  rename_i L' _ _ oc hoc l2 _ q2 l1 _ q1 R _ q0 h1 _ _ h2 _ _ _ _ hr F9 N9 hk
  unfold Hold
  dsimp only
  obtain ⟨r1, r2⟩ := rng (n := y.length) (by decide) (by decide) (by omega) (Int.add_comm (y.length : Int) 1)
  have N9' : News s.heap L' h2 ((L' + 1, oc) :: (R, listOf [Value.ref l1].toArray 0) :: [(l1, listOf [Value.ref l2].toArray 0), (l2, listOf [].toArray 0)]) := fun p hp => N9 p (by
    simp only [List.mem_cons, List.not_mem_nil, or_false] at hp ⊢
    rcases hp with q | q | q | q
    · exact .inr (.inr (.inr q))
    · exact .inl q
    · exact .inr (.inl q)
    · exact .inr (.inr (.inl q)))
  refine iter_range _ rfl hr r1 r2 rfl rfl F9 N9' (CutsJ le y ws wl t (L' + 1)) ⟨R, [.ref l1], 0, oc, _, _, rfl, rfl, rfl, rfl, hoc, .cons ⟨l1, [.ref l2], 0, rfl, .head _, .cons ⟨l2, [], 0, rfl, .tail _ (.head _), .nil⟩ .nil⟩ .nil, Nat.ne_of_gt q0.2.2, ?_, ?_⟩ ?_ ?_
  · intro p hp
    simp only [List.mem_cons, List.not_mem_nil, or_false] at hp
    rcases hp with rfl | rfl
    · exact Nat.ne_of_gt q1.2
    · exact Nat.ne_of_gt q2
  · intro p hp
    simp only [List.mem_cons, List.not_mem_nil, or_false] at hp
    rcases hp with rfl | rfl
    · exact Nat.ne_of_lt q0.1
    · exact Nat.ne_of_lt q0.2.1
  · rintro I e u m im oI h tk he ⟨R, rvs, n, oc, cv, led, hm1, hm2, hm3, rfl, hoc, hrv, hRc, hlc, hlR⟩ hI F N
    clear F9 N9 N9' hr hk
    obtain ⟨m1, F1, g0, g1, g2, g3⟩ : ∃ m1, Fr s.heap _ h m1 ∧ m1 (PySem.Str.ofString "end") = some (.int (1 + (e : Int)) u) ∧ m1 (PySem.Str.ofString "rows") = some (.ref R) ∧ m1 (PySem.Str.ofString "text") = some (.str y t) ∧ m1 (PySem.Str.ofString "words") = some (.ref wl) := ⟨_, F, rfl, hm1, hm2, hm3⟩
    clear F
    k_steps
    unfold Hold
    refine wpAny_For ?_ (by intro _; with_unfolding_all rfl)
    k_steps
    rename IsRange _ _ _ _ _ _ _ _ => hr
    rename_i F9 N9 hk
    unfold Hold
    dsimp only at F9 N9 ⊢
    obtain ⟨r1, r2⟩ := rng (n := e + 1) (a := 0) (b := 1 + (e : Int)) (by decide) (by decide) (by omega) (by omega)
    have hFd : ∀ p ∈ (I, oI) :: (L' + 1, oc) :: (R, listOf rvs.toArray n) :: led, p.1 ≠ h.objs.size := fun p hp => Nat.ne_of_lt (Heap.lt_size (N p hp).1)
    generalize h.objs.size = Fd at *
    have N9' : News s.heap L' _ ((I, oI) :: (L' + 1, oc) :: (R, listOf rvs.toArray n) :: (Fd, listOf [].toArray 0) :: led) := fun p hp => N9 p (by
      simp only [List.mem_cons] at hp ⊢
      rcases hp with q | q | q | q | q
      · exact .inr (.inl q)
      · exact .inr (.inr (.inl q))
      · exact .inr (.inr (.inr (.inl q)))
      · exact .inl q
      · exact .inr (.inr (.inr (.inr q))))
    refine iter_range _ rfl hr r1 r2 rfl rfl F9 N9' (CutsK le y ws wl t (L' + 1) I oI e) ⟨R, rvs, n, Fd, [], 0, oc, cv, led, u, g1, g2, g3, rfl, g0, rfl, hoc, hrv, .nil, hRc, (hI _ (.head _)).symm, (hI _ (.tail _ (.head _))).symm,
      (hFd _ (.tail _ (.head _))).symm, (hFd _ (.tail _ (.tail _ (.head _)))).symm, (hFd _ (.head _)).symm, hlc, hlR, fun p hp => hFd p (.tail _ (.tail _ (.tail _ hp))), fun p hp => hI p (.tail _ (.tail _ hp))⟩ ?_ ?_
    · rintro I2 k u2 m im oI2 h tk hkk ⟨R, rvs, n, Fd, fvs, nF, oc, cv, led, te, hm1, hm2, hm3, hm4, hm5, rfl, hoc, hrv, hfv, d1, d2, d3, d4, d5, d6, d7, d8, d9, d10⟩ hI2 F N
      clear F9 N9 N9' hr
      obtain ⟨m1, F1, g0, g1, g2, g3, g4, g5⟩ : ∃ m1, Fr s.heap _ h m1 ∧ m1 (PySem.Str.ofString "start") = some (.int (0 + (k : Int)) u2) ∧ m1 (PySem.Str.ofString "rows") = some (.ref R) ∧ m1 (PySem.Str.ofString "text") = some (.str y t) ∧ m1 (PySem.Str.ofString "words") = some (.ref wl) ∧ m1 (PySem.Str.ofString "found") = some (.ref Fd) ∧ m1 (PySem.Str.ofString "end") = some (.int (1 + (e : Int)) te) := ⟨_, F, rfl, hm1, hm2, hm3, hm4, hm5⟩
      clear F
      k_steps
      unfold Hold
      rename Fr _ _ _ _ => F2
      rename News _ _ _ _ => N2
      refine cell_at (pre := [(I2, oI2), (I, oI)]) (D := L' + 1) F2 N2 ?_ ?_ hoc ?_ rfl rfl rfl
      · intro p hp
        simp only [List.mem_cons, List.not_mem_nil, or_false] at hp
        rcases hp with rfl | rfl
        · exact (hI2 _ (.tail _ (.head _))).symm
        · exact d2
      · intro p hp
        rcases List.mem_cons.mp hp with rfl | hp
        · exact d1
        rcases List.mem_cons.mp hp with rfl | hp
        · exact d4
        · exact d7 p hp
      intro h3 oc3 F3 N3 hoc3
      clear F2 N2
      simp only [List.cons_append, List.nil_append] at N3
      generalize hpc : Txt.slice y (some (0 + (k : Int))) (some (1 + (e : Int))) = pc at *
      k_steps
      · walk_at "m comp"
        k_steps
        unfold Hold
        rename Fr _ _ _ _ => F4
        rename News _ _ _ _ => N4
        obtain ⟨rr, hrr⟩ : ∃ r, (rowsTo le y ws e)[k]? = some r := ⟨_, List.getElem?_eq_getElem (by rw [rowsTo_len]; omega)⟩
        obtain ⟨v, hv, ra, rvs', nr, rfl, hrm, hra⟩ := hrv.getA hrr
        refine item_at (News.isList N4 (.tail _ (.tail _ (.tail _ (.head _))))) (by omega) (by omega) (by rw [show (0 + (k : Int)).toNat = k by omega]; exact hv) ?_
        k_steps
        unfold Hold
        rename Fr _ _ _ _ => F5
        rename News _ _ _ _ => N5
        have hrl := rowsTo_row e k rr hrr
        have hk6 : 2 ^ k ≤ 2 ^ 6 := Nat.pow_le_pow_right (by decide) (by omega)
        refine comp_list rfl (News.isList N5 (.tail _ (.tail _ (.tail _ (.tail _ (.tail _ hrm)))))) (by rw [hra.length]; omega) (fun _ _ e => e) (Nat.le_refl _) (by decide) rfl rfl (fun i ys im => AllI (CutI im) ys (grow le pc (rr.take i))) [] (fun _ h => nomatch h) .nil ?_ ?_
        · intro i v ys im own C h tk m hv hj hC hm F N hap
          obtain ⟨cut, hci, a, cvs, nc, rfl, hcm, hcS⟩ := hra.get hv
          have hcell := (N5 _ (.tail _ (.tail _ (.head _)))).1
          have hca := (N5 _ (.tail _ (.tail _ (.tail _ (.tail _ (.tail _ hcm)))))).1
          have X9 := X.keeps F5.keep
          have T9 := T.keeps F5.keep
          clear F5 N5
          try clear F3 N3
          refine ifs_one ?_
          dsimp only at hcell hca
          have hgs := grow_snoc (le := le) (p := pc) hci
          have hcl := rowsTo_cut e k rr hrr cut (List.mem_of_getElem? hci)
          rcases List.eq_nil_or_concat cut with rfl | ⟨ini, lst, rfl⟩
          · cases hcS
            have hcL : Heap.IsList _ a ([] : List Value).toArray := ⟨_, hca, rfl, _, rfl⟩
            rw [if_pos (show okCut le pc [] = true from rfl)] at hgs
            k_steps
            rename Fr _ _ _ _ => F6
            rename News _ _ _ _ => N6
            rename _ ∧ AllLt _ _ => hlt
            have hlt2 := hlt.2
            exact ⟨_, _, _, _, (_, _) :: im, rfl, F6, N6, (fun p hp => .tail _ (.tail _ (List.mem_append_left _ hp))),
              (fun p hp => by
                rcases List.mem_cons.mp hp with rfl | hp
                · exact .head _
                · exact .tail _ (.tail _ (List.mem_append_right _ hp))),
              (fun p hp q hq => by
                rcases List.mem_cons.mp hq with rfl | hq
                · exact Nat.ne_of_lt (allLt_mem _ hlt2 _ (List.mem_append_left _ hp))
                · exact hap p hp q hq),
              by dsimp only; rw [hgs]; exact cut_more (vs := [_]) hj (.cons _ _ .nil)⟩
          · rw [List.concat_eq_append] at *
            obtain ⟨inv, tl, rfl, hinS⟩ := strs_snoc hcS
            have hinl := hinS.len_eq
            rw [List.length_append] at hcl
            have hcL : Heap.IsList _ a (inv ++ [Value.str lst tl]).toArray := ⟨_, hca, rfl, _, rfl⟩
            have hok : okCut le pc (ini ++ [lst]) = decide (¬ pc.cps.toList < lst.cps.toList) := by subst hle; simp [okCut, leStr]
            rw [hok] at hgs
            k_steps
            · rename pc.cps.toList < lst.cps.toList => hlt3
              rw [if_neg (by simpa using hlt3), List.append_nil] at hgs
              rename Fr _ _ _ _ => F6
              rename News _ _ _ _ => N6
              exact ⟨_, _, _, _, im, rfl, F6, N6, (fun p hp => List.mem_append_left _ hp), (fun p hp => List.mem_append_right _ hp), hap, by rw [hgs]; exact hj⟩
            · rename ¬ pc.cps.toList < lst.cps.toList => hlt3
              rw [if_pos (by simpa using hlt3)] at hgs
              rename Fr _ _ _ _ => F6
              rename News _ _ _ _ => N6
              rename _ ∧ AllLt _ _ => hlt
              have hlt2 := hlt.2
              exact ⟨_, _, _, _, (_, _) :: im, rfl, F6, N6, (fun p hp => .tail _ (.tail _ (List.mem_append_left _ hp))),
                (fun p hp => by
                  rcases List.mem_cons.mp hp with rfl | hp
                  · exact .head _
                  · exact .tail _ (.tail _ (List.mem_append_right _ hp))),
                (fun p hp q hq => by
                  rcases List.mem_cons.mp hq with rfl | hq
                  · exact Nat.ne_of_lt (allLt_mem _ hlt2 _ (List.mem_append_left _ hp))
                  · exact hap p hp q hq),
                by dsimp only; rw [hgs]; exact cut_more hj (hcS.append' (.cons _ _ .nil))⟩
        · intro D ys kD im h6 tk6 hD0 hDh hk6' him hj
          have hfo : foundTo le y ws (rowsTo le y ws e) (e + 1) (k + 1) = foundTo le y ws (rowsTo le y ws e) (e + 1) k ++ grow le pc rr := by
            have : Txt.slice y (some (k : Int)) (some ((e + 1 : Nat) : Int)) = pc := by
              have e1 : (0 + (k : Int)) = k := by omega
              have e2 : (1 + (e : Int)) = ((e + 1 : Nat) : Int) := by omega
              rw [e1, e2] at hpc; exact hpc
            conv => lhs; unfold foundTo
            rw [this, hrr]
            dsimp only
            rw [if_pos (by assumption)]; rfl
          rw [hra.length, List.take_length] at hj
          have F6 := F5.keeps hk6'
          obtain ⟨N6, off⟩ := news_more (im := (D, listOf ys.toArray kD) :: im) F5 N5 hk6' (fun p hp => by
            rcases List.mem_cons.mp hp with rfl | hp
            · exact ⟨hDh, hD0⟩
            · exact ⟨(him p hp).1, (him p hp).2.2⟩)
          have N7 : News s.heap L' h6 ([(I2, oI2), (I, oI), (L' + 1, oc3), (R, listOf rvs.toArray n)] ++ (Fd, listOf fvs.toArray nF) :: (led ++ (D, listOf ys.toArray kD) :: im)) := N6
          have hfl := foundTo_len (le := le) (y := y) (ws := ws) (e := e + 1) (rows := rowsTo le y ws e) (rowsTo_row e) k
          have hgl := grow_len (le := le) (p := pc) (r := rr)
          clear F5 N5
          dsimp only
          k_steps
          unfold Hold
          refine iadd_at (pre := [(I2, oI2), (I, oI), (L' + 1, oc3), (R, listOf rvs.toArray n)]) F6 N7 ?_ ?_ hDh (by rw [hfv.length, hj.length]; omega) ?_
          · intro p hp
            simp only [List.mem_cons, List.not_mem_nil, or_false] at hp
            rcases hp with rfl | rfl | rfl | rfl
            · exact (hI2 _ (.tail _ (.tail _ (.tail _ (.head _))))).symm
            · exact d6.symm
            · exact d4.symm
            · exact d5.symm
          · intro p hp
            rcases List.mem_append.mp hp with hp | hp
            · exact d9 p hp
            · exact (off (Fd, listOf fvs.toArray nF) (.tail _ (.tail _ (.tail _ (.tail _ (.head _))))) p hp).symm
          intro h7 n7 F7 N8
          clear F6 N6 N7
          k_steps
          rename Fr _ _ _ _ => F8
          rename News _ _ _ _ => N9
          have off' : ∀ q ∈ [(I, oI), (L' + 1, oc3), (R, listOf rvs.toArray n), (Fd, listOf fvs.toArray nF)], ∀ p ∈ (D, listOf ys.toArray kD) :: im, p.1 ≠ q.1 := fun q hq p hp => (off q (.tail _ (by
            simp only [List.mem_cons, List.not_mem_nil, or_false] at hq
            rcases hq with q' | q' | q' | q'
            · rw [q']; exact .head _
            · rw [q']; exact .tail _ (.head _)
            · rw [q']; exact .tail _ (.tail _ (.head _))
            · rw [q']; exact .tail _ (.tail _ (.tail _ (.head _))))) p hp).symm
          have hI2' : ∀ p ∈ (D, listOf ys.toArray kD) :: im, p.1 ≠ I2 := fun p hp => (off (I2, oI2) (.head _) p hp).symm
          have both : ∀ {P : Addr × Obj → Prop}, (∀ p ∈ led, P p) → (∀ p ∈ (D, listOf ys.toArray kD) :: im, P p) → ∀ p ∈ led ++ (D, listOf ys.toArray kD) :: im, P p := fun a b p hp => (List.mem_append.mp hp).elim (a p) (b p)
          exact ⟨_, _, _, _, (I, oI) :: (L' + 1, oc3) :: (R, listOf rvs.toArray n) :: (Fd, listOf (fvs ++ ys).toArray n7) :: (led ++ (D, listOf ys.toArray kD) :: im), rfl, F8, N9, (fun p hp => by rw [List.mem_singleton.mp hp]; exact .head _), (fun p hp => .tail _ hp),
            (fun q hq => by
              rcases List.mem_cons.mp hq with rfl | hq
              · exact hI2 (I, oI) (.head _)
              rcases List.mem_cons.mp hq with rfl | hq
              · exact hI2 (L' + 1, oc) (.tail _ (.head _))
              rcases List.mem_cons.mp hq with rfl | hq
              · exact hI2 (R, listOf rvs.toArray n) (.tail _ (.tail _ (.head _)))
              rcases List.mem_cons.mp hq with rfl | hq
              · exact hI2 (Fd, listOf fvs.toArray nF) (.tail _ (.tail _ (.tail _ (.head _))))
              · exact both (P := fun p => p.1 ≠ I2) (fun p hp => hI2 p (.tail _ (.tail _ (.tail _ (.tail _ hp))))) hI2' q hq),
            R, rvs, n, Fd, fvs ++ ys, n7, oc3, _, led ++ (D, listOf ys.toArray kD) :: im, te, g1, g2, g3, rfl, g5, rfl, hoc3, hrv.imp fun _ _ => RowI.mono fun _ h => List.mem_append_left _ h,
            by rw [hfo]; exact (hfv.imp fun _ _ => CutI.mono fun _ h => List.mem_append_left _ h).append (hj.imp fun _ _ => CutI.mono fun _ h => List.mem_append_right _ (.tail _ h)),
            d1, d2, d3, d4, d5, d6, both d7 (fun p hp => off' _ (.tail _ (.head _)) p hp), both d8 (fun p hp => off' _ (.tail _ (.tail _ (.head _))) p hp), both d9 (fun p hp => off' _ (.tail _ (.tail _ (.tail _ (.head _)))) p hp), both d10 (fun p hp => off' _ (.head _) p hp)⟩
      · rename Fr _ _ _ _ => F6
        rename News _ _ _ _ => N6
        have hfo : foundTo le y ws (rowsTo le y ws e) (e + 1) (k + 1) = foundTo le y ws (rowsTo le y ws e) (e + 1) k := by
          have : Txt.slice y (some (k : Int)) (some ((e + 1 : Nat) : Int)) = pc := by
            have e1 : (0 + (k : Int)) = k := by omega
            have e2 : (1 + (e : Int)) = ((e + 1 : Nat) : Int) := by omega
            rw [e1, e2] at hpc; exact hpc
          conv => lhs; unfold foundTo
          rw [this]
          dsimp only
          rename List.any ws _ = false => hany
          rw [hany]
          exact List.append_nil _
        exact ⟨_, _, _, _, (I, oI) :: (L' + 1, _) :: (R, _) :: (Fd, _) :: led, rfl, F6, N6, (fun p hp => by rw [List.mem_singleton.mp hp]; exact .head _), (fun p hp => .tail _ hp),
          (fun q hq => by
            rcases List.mem_cons.mp hq with rfl | hq
            · exact hI2 (I, oI) (.head _)
            rcases List.mem_cons.mp hq with rfl | hq
            · exact hI2 (L' + 1, oc) (.tail _ (.head _))
            · exact hI2 q (.tail _ (.tail _ hq))),
          R, rvs, n, Fd, fvs, nF, _, _, led, te, g1, g2, g3, g4, g5, rfl, hoc3, hrv, by rw [hfo]; exact hfv, d1, d2, d3, d4, d5, d6, d7, d8, d9, d10⟩
    · rintro m im h tk ⟨R, rvs, n, Fd, fvs, nF, oc, cv, led, te, hm1, hm2, hm3, hm4, hm5, rfl, hoc, hrv, hfv, d1, d2, d3, d4, d5, d6, d7, d8, d9, d10⟩ F N
      clear F9 N9 N9' hr
      have hrn := hrv.length
      rw [rowsTo_len] at hrn
      k_steps
      unfold Hold
      rename Fr _ _ _ _ => F2
      rename News _ _ _ _ => N2
      refine push_at (pre := [(I, oI), (L' + 1, oc)]) (D := R) (post := (Fd, listOf fvs.toArray nF) :: led) F2 N2 ?_ ?_ (by omega) ?_
      · intro p hp
        simp only [List.mem_cons, List.not_mem_nil, or_false] at hp
        rcases hp with rfl | rfl
        · exact d3
        · exact d1.symm
      · intro p hp
        rcases List.mem_cons.mp hp with rfl | hp
        · exact d5
        · exact d8 p hp
      intro h3 F3 N3
      clear F2 N2
      k_steps
      exact ⟨_, _, _, _, (L' + 1, oc) :: (R, listOf (rvs ++ [Value.ref Fd]).toArray (n + 1)) :: (Fd, listOf fvs.toArray nF) :: led, rfl, F3, N3, (fun p hp => by rw [List.mem_singleton.mp hp]; exact .head _), (fun p hp => .tail _ hp),
        (fun q hq => by
          rcases List.mem_cons.mp hq with rfl | hq
          · exact d2.symm
          rcases List.mem_cons.mp hq with rfl | hq
          · exact d3.symm
          rcases List.mem_cons.mp hq with rfl | hq
          · exact d6
          · exact d10 q hq),
        R, rvs ++ [Value.ref Fd], n + 1, oc, cv, (Fd, listOf fvs.toArray nF) :: led, hm1, hm2, hm3, rfl, hoc,
        (hrv.imp fun _ _ => RowI.mono fun _ h => .tail _ h).append (.cons ⟨Fd, fvs, nF, rfl, .head _, hfv.imp fun _ _ => CutI.mono fun _ h => .tail _ h⟩ .nil), d1,
        (fun p hp => by
          rcases List.mem_cons.mp hp with rfl | hp
          · exact d4
          · exact d7 p hp),
        (fun p hp => by
          rcases List.mem_cons.mp hp with rfl | hp
          · exact d5
          · exact d8 p hp)⟩
  · rintro m im h tk ⟨R, rvs, n, oc, cv, led, hm1, hm2, hm3, rfl, hoc, hrv, hRc, hlc, hlR⟩ F N
    clear F9 N9 N9' hr
    k_steps
    dsimp only
    subst hle
    have z := N _ (.tail _ (.head _))
    exact k R rvs n _ _ F.keep z.1 z.2.2 (hrv.imp fun _ _ => RowI.at fun p hp => (N p (.tail _ (.tail _ hp))).1)
end
local macro_rules | `(tactic| walk_at "truthy ref") => `(tactic| (first | (refine' truthy_nil ?l ?_; (case l => walk_at "m list"); intro tk') | (refine' truthy_snoc ?l ?z ?_; (case l => walk_at "m list"); (case z => omega); intro tk')))
local macro_rules | `(tactic| walk_at "m len") => `(tactic| ((simp only [List.length_cons, List.length_nil, List.length_append]); omega))

theorem calm_ML0 : True := by w_top off; trivial
section
variable {prog : Program} {w : World} {A : Around} {E : Value → Shared → Prop} {env : Env}
theorem comp_evalA {elt iter tg : Expr} {y : Str} {py : Pos} {ifs : List Expr} {scope : Scope} {cl : List (Str × Addr)} {pos spos : Pos} {s : Shared} {Q : Flow → Shared → Prop}
    (hsw : swapsWith (.ListComp elt [⟨tg, iter, ifs, 0⟩] scope pos) (some (.Name y py)) spos.line env = pure true)
    (hclos : closureFor scope env = pure cl) (hkind : scope.kind = .function) (hnames : ∀ y ∈ scope.names, y.2 = .local → scope.names.lookup y.1 = some .local) (hs : ∀ v, foldedSetIterable iter env v = pure v)
    (h : wpAny (model prog w) A (eval iter env) (fun v s₁ => wpAny (model prog w) A (pyIter v) (fun it s₂ => wpAny (model prog w) A (newList []) (fun acc s₃ => wpAny (model prog w) A (newFunctionEnv scope env.globals cl [] env.qual none .none (some env)) (fun cenv s₄ =>
      codeAny (model prog w) A (.compStart (.ListComp elt [⟨tg, iter, ifs, 0⟩] scope pos) 0 it acc { cenv with scope := relabel scope env })
        (compPost (model prog w) A E (some (assign (.Name y py) env)) (fun _ s' => Q .next s') acc cenv.locals) s₄) E s₃) E s₂) E s₁) E s) :
    wpAny (model prog w) A (exec (.Assign [.Name y py] (.ListComp elt [⟨tg, iter, ifs, 0⟩] scope pos) spos) env) Q E s := by
  rw [exec_Assign_Name_used _ _ _ _ hsw]
  refine wpAny_bind (wpAny_standAt (wpAny_bind ?_))
  show wpAny _ A (do let _ ← comprehension (.ListComp elt [⟨tg, iter, ifs, 0⟩] scope pos) scope env _ (newList []) false (eval iter env) (some (assign (.Name y py) env))) _ _ s
  exact wpAny_bind (wpAny_mono (wpAny_comprehension_free (use := some (assign (.Name y py) env)) (Q := fun _ s' => Q .next s') rfl hs hclos hkind hnames h) (fun _ s' hq => wpAny_pure (wpAny_pure hq)) fun _ _ e => e)
/-- what stands after the comprehension and the store -/
theorem used_end {y : Str} {py : Pos} {s : Shared} {Q : Shared → Prop} {g h₀ h : Heap} {m m' : Str → Option Value} {news im : List (Addr × Obj)} {D C : Addr} {ys : List Value} {k tk : Nat}
    (hy : env.kindOf y = some .local) (hp : (env.scope.kind == .class || (env.scope.kind == .module && env.locals != env.globals)) = false)
    (F : Fr h₀ env.locals g m) (N : News h₀ env.locals g news) (hgD : g.get? D = none) (hgC : g.get? C = none) (hDC : D ≠ C)
    (hn : h.Ns C m') (hDh : h.get? D = some (listOf ys.toArray k)) (hgh : ∀ b o, g.get? b = some o → h.get? b = some o)
    (him : ∀ p ∈ im, h.get? p.1 = some p.2 ∧ p.1 ≠ C ∧ p.1 ≠ D ∧ g.get? p.1 = none)
    (done : ∀ h' tk', Fr h₀ env.locals h' (fun z => if z = y then some (.ref D) else m z) → News h₀ env.locals h' ((D, listOf ys.toArray k) :: (im ++ news)) → (∀ p ∈ im ++ news, p.1 ≠ D) → (∀ p ∈ im, ∀ q ∈ news, p.1 ≠ q.1) → tk ≤ tk' → Q { s with heap := h', toks := tk' }) :
    compPost (model prog w) A E (some (assign (.Name y py) env)) (fun _ s' => Q s') (.ref D) C (.ok .next) { s with heap := h, toks := tk } := by
  show wpAny _ A (assign (.Name y py) env (.ref D)) _ _ _
  obtain ⟨oL, _, _, hoL, _⟩ := F.ns
  have neL : ∀ b, g.get? b = none → b ≠ env.locals := fun b e q => by rw [q, hoL] at e; cases e
  have non : ∀ b, g.get? b = none → h₀.get? b = none := fun b e => by
    cases q : h₀.get? b with
    | none => rfl
    | some o => rw [F.keep _ _ q] at e; cases e
  have Fh := F.keeps hgh
  refine wpAny_assign_Name (wpAny_storeName_local hy Fh.ns (fun h₂ hn₂ hs₂ => ?_) hp)
  refine ⟨m', hn.sameBut hs₂ (neL C hgC), fun h' hs' => ?_⟩
  have F2 := Fh.set hn₂ hs₂
  have up : ∀ b o, b ≠ env.locals → b ≠ C → h.get? b = some o → h'.get? b = some o := fun b o h1 h2 e => hs'.extBut b o h2 (hs₂.extBut b o h1 e)
  refine done h' _ (F2.change hs' (neL C hgC) (non C hgC)) (fun p hp => ?_) (fun p hp => ?_) (fun p hp q hq e => ?_) (by first | exact Nat.le_refl _ | exact Nat.le_succ _)
  · rcases List.mem_cons.mp hp with rfl | hp
    · exact ⟨up _ _ (neL D hgD) hDC hDh, neL D hgD, non D hgD⟩
    · rcases List.mem_append.mp hp with hp | hp
      · have z := him p hp
        exact ⟨up _ _ (neL _ z.2.2.2) z.2.1 z.1, neL _ z.2.2.2, non _ z.2.2.2⟩
      · have z := N p hp
        exact ⟨up _ _ z.2.1 (fun q => by have := z.1; rw [q, hgC] at this; cases this) (hgh _ _ z.1), z.2⟩
  · rcases List.mem_append.mp hp with hp | hp
    · exact (him p hp).2.2.1
    · exact fun q => by have := (N p hp).1; rw [q, hgD] at this; cases this
  · have := (N q hq).1
    rw [← e, (him p hp).2.2.2] at this
    cases this
theorem comp_listA {elt iter : Expr} {x : Str} {px : Pos} {ifs : List Expr} {scope : Scope} {cl : List (Str × Addr)} {pos : Pos} {s : Shared} {Q : Shared → Prop} {y : Str} {py : Pos} {h₀ g : Heap} {m₀ : Str → Option Value} {news : List (Addr × Obj)} {l : Addr} {items : List Value}
    (hh : A.handled = none) (hy : env.kindOf y = some .local) (hpp : (env.scope.kind == .class || (env.scope.kind == .module && env.locals != env.globals)) = false) (F₀ : Fr h₀ env.locals g m₀) (N₀' : News h₀ env.locals g news) (hl : g.IsList l items.toArray) (hsz : items.length ≤ 1000) (hg : ∀ b o, g.get? b = some o → s.heap.get? b = some o) (hgs : g.objs.size ≤ s.heap.objs.size)
    (hcell : ∀ y ∈ scope.names, y.2 ≠ .cell) (hkind : scope.kind = .function) (hx : scope.names.lookup x = some .local)
    (J : Nat → List Value → List (Addr × Obj) → Prop) (im₀ : List (Addr × Obj)) (N₀ : ∀ p ∈ im₀, s.heap.get? p.1 = some p.2 ∧ g.get? p.1 = none) (j₀ : J 0 [] im₀)
    (turn : ∀ i v ys im own C h tk m, items[i]? = some v → J i ys im → s.heap.objs.size ≤ C → m x = some v → Fr g C h m → News g C h (own ++ im) → (∀ p ∈ own, ∀ q ∈ im, p.1 ≠ q.1) →
      wpAny (model prog w) A (forIn ifs true fun c r => if r = true then do let ok ← isTrue c (compEnvC scope cl C env) (eval c (compEnvC scope cl C env)); pure (ForInStep.yield ok) else pure (ForInStep.yield r))
        (fun ok s₃ => if ok = true then wpAny (model prog w) A (eval elt (compEnvC scope cl C env)) (fun y s₄ => TurnEnd g C s own (fun im _ => J (i + 1) (ys ++ [y]) im) s₄) (fun _ _ => False) s₃ else TurnEnd g C s own (fun im _ => J (i + 1) ys im) s₃)
        (fun _ _ => False) { s with heap := h, toks := tk })
    (done : ∀ D ys k im h tk, Fr h₀ env.locals h (fun z => if z = y then some (.ref D) else m₀ z) → News h₀ env.locals h ((D, listOf ys.toArray k) :: (im ++ news)) → (∀ p ∈ im ++ news, p.1 ≠ D) → (∀ p ∈ im, ∀ q ∈ news, p.1 ≠ q.1) → J items.length ys im → Q { s with heap := h, toks := tk }) :
    wpAny (model prog w) A (pyIter (.ref l)) (fun it s₂ => wpAny (model prog w) A (newList []) (fun acc s₃ => wpAny (model prog w) A (newFunctionEnv scope env.globals cl [] env.qual none .none (some env)) (fun cenv s₄ =>
      codeAny (model prog w) A (.compStart (.ListComp elt [⟨.Name x px, iter, ifs, 0⟩] scope pos) 0 it acc { cenv with scope := relabel scope env })
        (compPost (model prog w) A E (some (assign (.Name y py) env)) (fun _ s' => Q s') acc cenv.locals) s₄) E s₃) E s₂) E s := by
  refine wpAny_pyIter_list (isList_keep hg hl) ?_
  generalize hI : s.heap.objs.size = I
  have hI0 : s.heap.get? I = none := by
    cases e : s.heap.get? I with
    | none => rfl
    | some o => exact absurd (Heap.lt_size e) (by rw [hI]; exact Nat.lt_irrefl _)
  have hIg : g.get? I = none := by
    cases e : g.get? I with
    | none => rfl
    | some o => rw [hg _ _ e] at hI0; cases hI0
  have hpI : (s.heap.push { cls := .type "list_iterator", data := .fields #[.ref l, .int 0 0] }).get? I = some { cls := .type "list_iterator", data := .fields #[.ref l, .int 0 0] } := by rw [← hI]; exact Heap.get?_push_size _ rfl
  obtain ⟨ol, hol, hrest⟩ := hl
  have hlI : l ≠ I := fun q => by rw [q, hIg] at hol; cases hol
  have up : ∀ b o, s.heap.get? b = some o → (s.heap.push { cls := .type "list_iterator", data := .fields #[.ref l, .int 0 0] }).get? b = some o := fun b o e => Heap.get?_push_of_some _ e
  refine comp_core (s₂ := { s with heap := s.heap.push { cls := .type "list_iterator", data := .fields #[.ref l, .int 0 0] } }) (g := g) (n := items.length) (env := env) (elt := elt) (iter := iter) (px := px) (ifs := ifs) (cl := cl) (pos := pos) (RR := fun acc C r s' => compPost (model prog w) A E (some (assign (.Name y py) env)) (fun _ s' => Q s') acc C r s') (Walks.list hh I l hlI items.toArray) hsz (by simp) ?_ (fun b o e => up b o (hg b o e))
    (by show _ ≤ (s.heap.push _).objs.size; rw [Heap.size_push]; omega) ⟨_, hpI⟩ hIg ⟨⟨_, hpI, rfl, rfl⟩, ⟨ol, up _ _ (hg _ _ hol), hrest⟩⟩ ?_ hcell hkind hx (fun i ys im _ => J i ys im) (fun _ _ _ _ _ h _ => h) im₀ (fun p hp => ⟨up _ _ (N₀ p hp).1, (fun q => by have := (N₀ p hp).1; rw [q, hI0] at this; cases this), (N₀ p hp).2⟩) j₀ ?_ ?_
  · intro b hb
    simp only [List.mem_cons, List.not_mem_nil, or_false] at hb
    exact hb.elim .inl fun q => .inr ⟨ol, q ▸ hol⟩
  · rintro i h ⟨⟨o, ho, _⟩, _⟩
    exact ⟨o, ho⟩
  · intro i v ys im own C h tk m hi hv hj hC hm F N hap
    refine turn i v ys im own C h tk m (by simpa using hv) hj ?_ hm F N hap
    have : s.heap.objs.size + 1 ≤ C := by
      have := hC
      show s.heap.objs.size + 1 ≤ C
      rwa [show ({ s with heap := s.heap.push { cls := .type "list_iterator", data := .fields #[.ref l, .int 0 0] } } : Shared).heap.objs.size = s.heap.objs.size + 1 from Heap.size_push _ _] at this
    exact Nat.le_of_succ_le this
  · intro D C ys k im h tk m' hD hC hDC hn hDh hgh him hj
    have dn : ∀ a, (s.heap.push { cls := .type "list_iterator", data := .fields #[.ref l, .int 0 0] }).get? a = none → s.heap.get? a = none := fun a ha => by
      cases e : s.heap.get? a with
      | none => rfl
      | some o => rw [up _ _ e] at ha; cases ha
    have gn : ∀ a, s.heap.get? a = none → g.get? a = none := fun a ha => by
      cases e : g.get? a with
      | none => rfl
      | some o => rw [hg _ _ e] at ha; cases ha
    exact used_end hy hpp F₀ N₀' (gn D (dn D hD)) (gn C (dn C hC)) hDC hn hDh hgh him fun h' tk' F' N' o1 o2 _ => done D ys k im h' tk' F' N' o1 o2 hj
theorem comp_rangeA {elt iter : Expr} {x : Str} {px : Pos} {ifs : List Expr} {scope : Scope} {cl : List (Str × Addr)} {pos : Pos} {s : Shared} {Q : Shared → Prop} {y : Str} {py : Pos} {h₀ g : Heap} {m₀ : Str → Option Value} {news : List (Addr × Obj)} {r : Addr} {a₀ b₀ : Int} {t₀ u₀ v₀ : Tok} {n : Nat}
    (hh : A.handled = none) (hy : env.kindOf y = some .local) (hpp : (env.scope.kind == .class || (env.scope.kind == .module && env.locals != env.globals)) = false) (F₀ : Fr h₀ env.locals g m₀) (N₀' : News h₀ env.locals g news) (hr : IsRange s.heap r a₀ b₀ 1 t₀ u₀ v₀) (hsmall : Builtin.Range.small a₀ b₀ 1 = true) (hszr : Builtin.Range.rangeSize a₀ b₀ 1 = (n : Int)) (hsz : n ≤ 1000) (hg : ∀ b o, g.get? b = some o → s.heap.get? b = some o) (hgs : g.objs.size ≤ s.heap.objs.size)
    (hcell : ∀ y ∈ scope.names, y.2 ≠ .cell) (hkind : scope.kind = .function) (hx : scope.names.lookup x = some .local)
    (J : Nat → List Value → List (Addr × Obj) → Nat → Prop) (hJm : ∀ i ys im tk tk', J i ys im tk → tk ≤ tk' → J i ys im tk') (im₀ : List (Addr × Obj)) (N₀ : ∀ p ∈ im₀, s.heap.get? p.1 = some p.2 ∧ g.get? p.1 = none) (j₀ : J 0 [] im₀ s.toks)
    (turn : ∀ i u ys im own C h tk m, i < n → J i ys im tk → s.heap.objs.size ≤ C → m x = some (.int (a₀ + (i : Int)) u) → Fr g C h m → News g C h (own ++ im) → (∀ p ∈ own, ∀ q ∈ im, p.1 ≠ q.1) →
      wpAny (model prog w) A (forIn ifs true fun c r => if r = true then do let ok ← isTrue c (compEnvC scope cl C env) (eval c (compEnvC scope cl C env)); pure (ForInStep.yield ok) else pure (ForInStep.yield r))
        (fun ok s₃ => if ok = true then wpAny (model prog w) A (eval elt (compEnvC scope cl C env)) (fun y s₄ => TurnEnd g C s own (J (i + 1) (ys ++ [y])) s₄) (fun _ _ => False) s₃ else TurnEnd g C s own (J (i + 1) ys) s₃)
        (fun _ _ => False) { s with heap := h, toks := tk })
    (done : ∀ D ys k im h tk, Fr h₀ env.locals h (fun z => if z = y then some (.ref D) else m₀ z) → News h₀ env.locals h ((D, listOf ys.toArray k) :: (im ++ news)) → (∀ p ∈ im ++ news, p.1 ≠ D) → (∀ p ∈ im, ∀ q ∈ news, p.1 ≠ q.1) → (∃ tk', tk' ≤ tk ∧ J n ys im tk') → Q { s with heap := h, toks := tk }) :
    wpAny (model prog w) A (pyIter (.ref r)) (fun it s₂ => wpAny (model prog w) A (newList []) (fun acc s₃ => wpAny (model prog w) A (newFunctionEnv scope env.globals cl [] env.qual none .none (some env)) (fun cenv s₄ =>
      codeAny (model prog w) A (.compStart (.ListComp elt [⟨.Name x px, iter, ifs, 0⟩] scope pos) 0 it acc { cenv with scope := relabel scope env })
        (compPost (model prog w) A E (some (assign (.Name y py) env)) (fun _ s' => Q s') acc cenv.locals) s₄) E s₃) E s₂) E s := by
  refine wpAny_pyIter_range hr hsmall ?_
  generalize hI : s.heap.objs.size = I
  rw [hszr]
  have hI0 : s.heap.get? I = none := by
    cases e : s.heap.get? I with
    | none => rfl
    | some o => exact absurd (Heap.lt_size e) (by rw [hI]; exact Nat.lt_irrefl _)
  have hIg : g.get? I = none := by
    cases e : g.get? I with
    | none => rfl
    | some o => rw [hg _ _ e] at hI0; cases hI0
  have hpI : (s.heap.push { cls := .type "range_iterator", data := .fields #[rawInt a₀, rawInt (n : Int), rawInt 1] }).get? I = some { cls := .type "range_iterator", data := .fields #[rawInt a₀, rawInt (n : Int), rawInt 1] } := by rw [← hI]; exact Heap.get?_push_size _ rfl
  have up : ∀ b o, s.heap.get? b = some o → (s.heap.push { cls := .type "range_iterator", data := .fields #[rawInt a₀, rawInt (n : Int), rawInt 1] }).get? b = some o := fun b o e => Heap.get?_push_of_some _ e
  refine comp_core (s₂ := { s with heap := s.heap.push { cls := .type "range_iterator", data := .fields #[rawInt a₀, rawInt (n : Int), rawInt 1] } }) (g := g) (n := n) (env := env) (elt := elt) (iter := iter) (px := px) (ifs := ifs) (cl := cl) (pos := pos) (RR := fun acc C r s' => compPost (model prog w) A E (some (assign (.Name y py) env)) (fun _ s' => Q s') acc C r s') (Walks.range hh I a₀ 1 n) hsz (by simp) (by simp) (fun b o e => up b o (hg b o e))
    (by show _ ≤ (s.heap.push _).objs.size; rw [Heap.size_push]; omega) ⟨_, hpI⟩ hIg (by show IsRangeIter _ _ _ _ _; simpa using hpI) ?_ hcell hkind hx J hJm im₀ (fun p hp => ⟨up _ _ (N₀ p hp).1, (fun q => by have := (N₀ p hp).1; rw [q, hI0] at this; cases this), (N₀ p hp).2⟩) j₀ ?_ ?_
  · intro i h ho
    exact ⟨_, ho⟩
  · rintro i v ys im own C h tk m hi ⟨u, hu⟩ hj hC hm F N hap
    have hu' : v = .int (a₀ + (i : Int)) u := by rw [hu]; simp
    subst hu'
    refine turn i u ys im own C h tk m hi hj ?_ hm F N hap
    have : s.heap.objs.size + 1 ≤ C := by
      have := hC
      show s.heap.objs.size + 1 ≤ C
      rwa [show ({ s with heap := s.heap.push { cls := .type "range_iterator", data := .fields #[rawInt a₀, rawInt (n : Int), rawInt 1] } } : Shared).heap.objs.size = s.heap.objs.size + 1 from Heap.size_push _ _] at this
    exact Nat.le_of_succ_le this
  · intro D C ys k im h tk m' hD hC hDC hn hDh hgh him hj
    have dn : ∀ a, (s.heap.push { cls := .type "range_iterator", data := .fields #[rawInt a₀, rawInt (n : Int), rawInt 1] }).get? a = none → s.heap.get? a = none := fun a ha => by
      cases e : s.heap.get? a with
      | none => rfl
      | some o => rw [up _ _ e] at ha; cases ha
    have gn : ∀ a, s.heap.get? a = none → g.get? a = none := fun a ha => by
      cases e : g.get? a with
      | none => rfl
      | some o => rw [hg _ _ e] at ha; cases ha
    exact used_end hy hpp F₀ N₀' (gn D (dn D hD)) (gn C (dn C hC)) hDC hn hDh hgh him fun h' tk' F' N' o1 o2 le => done D ys k im h' tk' F' N' o1 o2 ⟨tk, le, hj⟩
end

theorem calm_LP : True := by w_top off; trivial
/-- a text from its signs -/
def S (l : List Nat) : Str := ⟨l.toArray⟩
theorem S_list (l : List Nat) : (S l).cps.toList = l := by simp [S]
theorem S_len (l : List Nat) : (S l).length = l.length := by simp [S, Str.length]
theorem S_of (y : Str) : S y.cps.toList = y := by cases y; simp [S]
theorem slice_take {l : List Nat} {n : Nat} (h : n ≤ l.length) : Txt.slice (S l) none (some (n : Int)) = S (l.take n) := by
  show StrLaws.sliceText (S l) none (some (n : Int)) = _
  rw [StrLaws.sliceText_to (by rw [S_list]; omega), S_list, List.drop_zero]
  simp [S]
theorem slice_drop {l : List Nat} {n : Nat} (h : n ≤ l.length) : Txt.slice (S l) (some (n : Int)) none = S (l.drop n) := by
  show StrLaws.sliceText (S l) (some (n : Int)) none = _
  rw [StrLaws.sliceText_from (by rw [S_list]; omega), S_list]
  have e : ((l.length : Int) - (n : Int)).toNat = (l.drop n).length := by rw [List.length_drop]; omega
  rw [e, Int.toNat_natCast, List.take_length]
  rfl
theorem slice_mid {l : List Nat} {k e : Nat} (h : k ≤ e) (he : e ≤ l.length) : Txt.slice (S l) (some (k : Int)) (some (e : Int)) = S ((l.drop k).take (e - k)) := by
  show StrLaws.sliceText (S l) (some (k : Int)) (some (e : Int)) = _
  rw [StrLaws.sliceText_nat (S l) h (by rw [S_len]; exact he), S_list]
  rfl
theorem slice_last (l : List Nat) : Txt.slice (S l) (some (-1)) none = S (l.drop (l.length - 1)) := by
  rw [slice_from_neg (by decide)]
  have e : max 0 (((S l).length : Int) + -1) = ((l.length - 1 : Nat) : Int) := by rw [S_len]; omega
  rw [e]
  exact slice_drop (by omega)
def Ab (l : List Nat) : Prop := ∀ c ∈ l, c = 97 ∨ c = 98 ∨ c = 99
theorem Ab.take {l : List Nat} (h : Ab l) (n : Nat) : Ab (l.take n) := fun c hc => h c (List.mem_of_mem_take hc)
theorem Ab.drop {l : List Nat} (h : Ab l) (n : Nat) : Ab (l.drop n) := fun c hc => h c (List.mem_of_mem_drop hc)
theorem Ab.S {l : List Nat} (h : Ab l) : ∀ c ∈ (S l).cps.toList, c = 97 ∨ c = 98 ∨ c = 99 := by rw [S_list]; exact h
/-- the last sign -/
def ls (l : List Nat) : Str := S (l.drop (l.length - 1))
theorem ls_cases {l : List Nat} (h : Ab l) : ls l = S [] ∨ ls l = S [97] ∨ ls l = S [98] ∨ ls l = S [99] := by
  unfold ls
  have hl : (l.drop (l.length - 1)).length ≤ 1 := by rw [List.length_drop]; omega
  have hb := h.drop (l.length - 1)
  generalize l.drop (l.length - 1) = d at hl hb
  match d, hl, hb with
  | [], _, _ => exact .inl rfl
  | [c], _, hb =>
    rcases hb c (.head _) with rfl | rfl | rfl
    · exact .inr (.inl rfl)
    · exact .inr (.inr (.inl rfl))
    · exact .inr (.inr (.inr rfl))
def SignOk (x : Str) : Prop := Abc (Txt.lower x) ∧ Abc (Txt.upper x) ∧ (Txt.lower x).length ≤ 1000 ∧ (Txt.upper x).length ≤ 1000 ∧ (Txt.lower (Txt.upper x)).length ≤ 1000
theorem abc_of {x : Str} (l : List Nat) (e : x = S l) (h : l.all (fun c => c == 65 || c == 66 || c == 67 || c == 97 || c == 98 || c == 99) = true) : Abc x := by
  subst e
  intro c hc
  rw [S_list] at hc
  have := List.all_eq_true.mp h c hc
  simp only [Bool.or_eq_true, beq_iff_eq] at this
  omega
theorem signOk_of {x : Str} (a b d : List Nat) (ha : Txt.lower x = S a) (hb : Txt.upper x = S b) (hd : Txt.lower (Txt.upper x) = S d) (h : (a ++ b).all (fun c => c == 65 || c == 66 || c == 67 || c == 97 || c == 98 || c == 99) = true) (h1 : a.length ≤ 1000) (h2 : b.length ≤ 1000) (h3 : d.length ≤ 1000) : SignOk x := by
  rw [List.all_append, Bool.and_eq_true] at h
  refine ⟨abc_of a ha h.1, abc_of b hb h.2, ?_, ?_, ?_⟩
  · rw [ha, S_len]; exact h1
  · rw [hb, S_len]; exact h2
  · rw [hd, S_len]; exact h3
theorem ls_ok {l : List Nat} (h : Ab l) : SignOk (ls l) := by
  rcases ls_cases h with e | e | e | e <;> rw [e]
  · exact signOk_of [] [] [] (by decide +kernel) (by decide +kernel) (by decide +kernel) (by decide) (by decide) (by decide) (by decide)
  · exact signOk_of [97] [65] [97] (by decide +kernel) (by decide +kernel) (by decide +kernel) (by decide) (by decide) (by decide) (by decide)
  · exact signOk_of [98] [66] [98] (by decide +kernel) (by decide +kernel) (by decide +kernel) (by decide) (by decide) (by decide) (by decide)
  · exact signOk_of [99] [67] [99] (by decide +kernel) (by decide +kernel) (by decide +kernel) (by decide) (by decide) (by decide) (by decide)
def tabTo (l : List Nat) : Nat → List (Str × Str)
  | 0 => []
  | n + 1 => (noteAll (Txt.lower (ls (l.take n))) (Txt.upper (ls (l.take n))) (tabTo l n) (l.take n).reverse).2
def heapTo (l : List Nat) (n : Nat) : List Str := up (l.take n).reverse
theorem tabTo_len (l : List Nat) : ∀ n, (tabTo l n).length ≤ n * l.length
  | 0 => Nat.zero_le _
  | n + 1 => by
    unfold tabTo
    refine Nat.le_trans (noteAll_len _) ?_
    have := tabTo_len l n
    rw [List.length_reverse, List.length_take, Nat.succ_mul]
    omega
theorem noteAll_mem2 {low great : Str} {hs : List (Str × Str)} {P : Nat → Prop} : ∀ cs, (∀ c ∈ cs, P c) → ∀ p ∈ (noteAll low great hs cs).2, p ∈ hs ∨ (p.1 = great ∧ 1 ≤ p.2.length ∧ p.2.length ≤ cs.length ∧ ∀ c ∈ p.2.cps.toList, P c) :=
  list_end _ (fun _ _ h => .inl h) fun l a ih hP p hp => by
    have hPl : ∀ c ∈ l, P c := fun c hc => hP c (List.mem_append_left _ hc)
    have weak : ∀ p ∈ (noteAll low great hs l).2, p ∈ hs ∨ (p.1 = great ∧ 1 ≤ p.2.length ∧ p.2.length ≤ (l ++ [a]).length ∧ ∀ c ∈ p.2.cps.toList, P c) := fun p hp =>
      (ih hPl p hp).imp_right fun ⟨a, b, c, d⟩ => ⟨a, b, by rw [List.length_append]; omega, d⟩
    by_cases h1 : (squash (⟨#[a]⟩ :: up l)).length = 1
    · obtain ⟨x, hx⟩ := List.length_eq_one_iff.mp h1
      rw [note_one hx] at hp
      split at hp
      · exact weak p hp
      · rcases List.mem_append.mp hp with hp | hp
        · exact weak p hp
        · rw [List.mem_singleton.mp hp]
          have ht := tot_squash (⟨#[a]⟩ :: up l)
          rw [hx] at ht
          have ht2 := (tot_up l).1
          have e1 : (⟨#[a]⟩ : Str).length = 1 := rfl
          simp only [tot] at ht
          rw [ht2, e1] at ht
          refine .inr ⟨rfl, (by show 1 ≤ x.length; omega), (by show x.length ≤ _; rw [List.length_append, List.length_singleton]; omega), ?_⟩
          have hin := squash_in (P := P) (⟨#[a]⟩ :: up l) (fun z hz c hc => by
            rcases List.mem_cons.mp hz with rfl | hz
            · simp at hc; subst hc; exact hP _ (by simp)
            · exact up_in l hPl z hz c hc)
          rw [hx] at hin
          exact hin x (.head _)
    · rw [note_more h1] at hp
      exact weak p hp
theorem tabTo_mem {l : List Nat} (h : Ab l) : ∀ n, ∀ p ∈ tabTo l n, (Txt.lower p.1).length ≤ 1000 ∧ 1 ≤ p.2.length ∧ p.2.length ≤ l.length ∧ ∀ c ∈ p.2.cps.toList, c = 97 ∨ c = 98 ∨ c = 99
  | 0, _, hp => by cases hp
  | n + 1, p, hp => by
    unfold tabTo at hp
    rcases noteAll_mem2 (P := fun c => c = 97 ∨ c = 98 ∨ c = 99) _ (fun c hc => (h.take n) c (List.mem_reverse.mp hc)) p hp with q | ⟨e, a, b, d⟩
    · exact tabTo_mem h n p q
    · refine ⟨by rw [e]; exact (ls_ok (h.take n)).2.2.2.2, a, ?_, d⟩
      rw [List.length_reverse, List.length_take] at b
      omega

section
open PySem.SeqAt
theorem calm_LQ : True := by w_top off; trivial
def dS (xs : List Str) : PyData := .list (xs.map .str)
def dSS (xs : List (List Str)) : PyData := .list (xs.map dS)
def dSSS (xs : List (List (List Str))) : PyData := .list (xs.map dSS)
def OkD (n : Nat) (d : PyData) : Prop := d.canLay0 = true ∧ d.depth ≤ n
theorem okD_all {n : Nat} : ∀ {l : List PyData}, (∀ d ∈ l, OkD n d) → PyData.canLayAll0 l = true ∧ PyData.depthAll l ≤ n
  | [], _ => ⟨rfl, Nat.zero_le _⟩
  | d :: r, h => by
    obtain ⟨a, b⟩ := h d (.head _)
    obtain ⟨c, e⟩ := okD_all (l := r) fun d hd => h d (.tail _ hd)
    refine ⟨?_, ?_⟩
    · unfold PyData.canLayAll0; rw [a, c]; rfl
    · unfold PyData.depthAll; exact Nat.max_le.mpr ⟨b, e⟩
theorem okD_list {n : Nat} {l : List PyData} (h : ∀ d ∈ l, OkD n d) : OkD (n + 1) (.list l) := by
  obtain ⟨a, b⟩ := okD_all h
  refine ⟨?_, ?_⟩
  · unfold PyData.canLay0; exact a
  · unfold PyData.depth; exact Nat.succ_le_succ b
theorem okD_str {x : Str} (h : ∀ c ∈ x.cps.toList, c = 97 ∨ c = 98 ∨ c = 99) : OkD 0 (.str x) := by
  refine ⟨?_, ?_⟩
  · unfold PyData.canLay0 PyData.strOk
    rw [← Array.all_toList, List.all_eq_true]
    intro c hc
    have := h c hc
    simp only [decide_eq_true_eq]
    rcases this with rfl | rfl | rfl <;> decide
  · unfold PyData.depth; exact Nat.le_refl _
def AbS (xs : List Str) : Prop := AllIn (fun c => c = 97 ∨ c = 98 ∨ c = 99) xs
theorem ok_dS {xs : List Str} (h : AbS xs) : OkD 1 (dS xs) := okD_list fun d hd => by
  obtain ⟨x, hx, rfl⟩ := List.mem_map.mp hd
  exact okD_str (h x hx)
theorem ok_dSS {xs : List (List Str)} (h : ∀ x ∈ xs, AbS x) : OkD 2 (dSS xs) := okD_list fun d hd => by
  obtain ⟨x, hx, rfl⟩ := List.mem_map.mp hd
  exact ok_dS (h x hx)
theorem ok_dSSS {xs : List (List (List Str))} (h : ∀ x ∈ xs, ∀ y ∈ x, AbS y) : OkD 3 (dSSS xs) := okD_list fun d hd => by
  obtain ⟨x, hx, rfl⟩ := List.mem_map.mp hd
  exact ok_dSS (h x hx)
theorem ok_ints (ns : List Int) : OkD 1 (.list (ns.map .int)) := okD_list fun d hd => by
  obtain ⟨x, hx, rfl⟩ := List.mem_map.mp hd
  refine ⟨?_, ?_⟩
  · unfold PyData.canLay0; rfl
  · unfold PyData.depth; exact Nat.le_refl _
theorem OkD.shaped {n : Nat} {d : PyData} (h : OkD n d) (hn : n ≤ 64) : shaped d = true := by
  unfold PySem.SeqAt.shaped
  rw [h.1, decide_eq_true (Nat.le_trans h.2 hn)]
  rfl
theorem reads_S {h : Heap} {a : Addr} {vs : List Value} {n : Nat} {xs : List Str} (e : h.get? a = some (listOf vs.toArray n)) (r : StrsAre vs xs) : ∃ as, Reads h (.ref a) (dS xs) as :=
  ⟨_, .list e rfl rfl (r.reads h)⟩
theorem reads_I {h : Heap} {a : Addr} {vs : List Value} {n : Nat} {xs : List Int} (e : h.get? a = some (listOf vs.toArray n)) (r : IntsAre vs xs) : ∃ as, Reads h (.ref a) (.list (xs.map .int)) as :=
  ⟨_, .list e rfl rfl (IntsAre.reads h r)⟩
theorem readsAll_of {α : Type} {R : Value → α → Prop} {h : Heap} {f : α → PyData} (hR : ∀ v a, R v a → ∃ as, Reads h v (f a) as) : ∀ {vs : List Value} {xs : List α}, AllI R vs xs → ∃ as, ReadsAll h vs (xs.map f) as
  | _, _, .nil => ⟨_, .nil⟩
  | _, _, .cons r q => by
    obtain ⟨a, ha⟩ := hR _ _ r
    obtain ⟨b, hb⟩ := readsAll_of hR q
    exact ⟨_, .cons ha hb⟩
theorem reads_cut {h : Heap} {v : Value} {xs : List Str} (r : CutAt h v xs) : ∃ as, Reads h v (dS xs) as := by
  obtain ⟨a, vs, n, rfl, e, q⟩ := r
  exact reads_S e q
theorem reads_SS {h : Heap} {a : Addr} {vs : List Value} {n : Nat} {xs : List (List Str)} (e : h.get? a = some (listOf vs.toArray n)) (r : AllI (CutAt h) vs xs) : ∃ as, Reads h (.ref a) (dSS xs) as := by
  obtain ⟨as, q⟩ := readsAll_of (f := dS) (fun _ _ => reads_cut) r
  exact ⟨_, .list e rfl rfl q⟩
theorem reads_row {h : Heap} {v : Value} {xs : List (List Str)} (r : RowAt h v xs) : ∃ as, Reads h v (dSS xs) as := by
  obtain ⟨a, vs, n, rfl, e, q⟩ := r
  exact reads_SS e q
theorem reads_SSS {h : Heap} {a : Addr} {vs : List Value} {n : Nat} {xs : List (List (List Str))} (e : h.get? a = some (listOf vs.toArray n)) (r : AllI (RowAt h) vs xs) : ∃ as, Reads h (.ref a) (dSSS xs) as := by
  obtain ⟨as, q⟩ := readsAll_of (f := dSS) (fun _ _ => reads_row) r
  exact ⟨_, .list e rfl rfl q⟩
theorem ne_same {prog : Program} {w : World} {A : Around} {E : Value → Shared → Prop} {s : Shared} {a b : Value} {d : PyData} {n k : Nat} {Q : Value → Shared → Prop} (ra : ∃ as, Reads s.heap a d as) (rb : ∃ as, Reads s.heap b d as) (hd : OkD n d) (hn : n ≤ 64) (S : Sm A k)
    (h : Q (.bool false) s) : wpAny (model prog w) A (compareOp .NotEq a b) Q E s := by
  obtain ⟨_, ra⟩ := ra
  obtain ⟨_, rb⟩ := rb
  refine ne_dataH ra rb (hd.shaped hn) (hd.shaped hn) ?_ ?_
  · have := S.hu
    show A.units + 64 < 9900
    omega
  · rw [eqv_refl d hd.1]
    exact h
/-- the table, in a list of new things -/
def HdrI (im : List (Addr × Obj)) (x tl : Addr) : Prop := ∃ dx hsh tk n, (x, instObj 231 dx) ∈ im ∧ (dx, dictOf [⟨hsh, .str (PySem.Str.ofString "_headers") tk, .ref tl⟩] n) ∈ im
theorem HdrI.hdr {im : List (Addr × Obj)} {h₀ h : Heap} {L x tl : Addr} (N : News h₀ L h im) (I : HdrI im x tl) : Hdr h x tl :=
  let ⟨dx, hsh, tk, n, a, b⟩ := I
  ⟨dx, _, hsh, tk, n, InstAt.of_news N a b⟩
theorem HdrI.mono {im im' : List (Addr × Obj)} {x tl : Addr} (h : ∀ p ∈ im, p ∈ im') (I : HdrI im x tl) : HdrI im' x tl :=
  let ⟨dx, hsh, tk, n, a, b⟩ := I
  ⟨dx, hsh, tk, n, h _ a, h _ b⟩
theorem heap_abS {l : List Nat} (h : Ab l) (n : Nat) : AbS (heapTo l n) := up_in _ fun c hc => h.take n c (List.mem_reverse.mp hc)
def lastTo (l : List Nat) (i : Nat) : Str := lastOf (S (l.take i)) (getAll (tabTo l 7) (Txt.lower (ls (l.take i))))
theorem getAll_mem {hs : List (Str × Str)} {low wd : Str} (h : wd ∈ getAll hs low) : ∃ p ∈ hs, p.2 = wd := by
  unfold getAll at h
  obtain ⟨p, hp, e⟩ := List.mem_map.mp h
  exact ⟨p, (List.mem_filter.mp hp).1, e⟩
end

theorem calm_LJ : True := by w_top off; trivial
theorem newEnv_cell {M : Model} {A : Around} {E : Value → Shared → Prop} {s : Shared} {scope : Scope} {globals : Addr} {cl : List (Str × Addr)} {qual : Str} {outer : Env} {a x c : Str} {Q : Env → Shared → Prop} (hn : scope.names = [(a, .local), (x, .cell), (c, .free)])
    (h : Q (newEnv scope s.heap.objs.size globals ((x, s.heap.objs.size + 1) :: cl) qual none .none (some outer) builtinsNs) { s with heap := (s.heap.push { cls := .type "dict", data := .dict #[] }).push { cls := .type "cell", data := .cell none } }) :
    wpAny M A (newFunctionEnv scope globals cl [] qual none .none (some outer)) Q E s := by
  simp only [newFunctionEnv, Option.isSome_some, if_true]
  refine wpAny_bind (wpAny_alloc ?_)
  rw [hn]
  rw [List.forIn_cons, show (NameKind.local == NameKind.cell) = false from rfl]
  simp only [Bool.false_eq_true, if_false]
  refine wpAny_bind (wpAny_bind (wpAny_pure ?_))
  dsimp only
  rw [List.forIn_cons]
  simp only [show (NameKind.cell == NameKind.cell) = true from rfl, if_true]
  refine wpAny_bind (wpAny_bind (wpAny_alloc (wpAny_pure ?_)))
  dsimp only
  rw [List.forIn_cons]
  simp only [show (NameKind.free == NameKind.cell) = false from rfl, Bool.false_eq_true, if_false]
  refine wpAny_bind (wpAny_pure ?_)
  dsimp only
  rw [List.forIn_nil]
  refine wpAny_pure ?_
  rw [List.forIn_nil]
  refine wpAny_bind (wpAny_pure (wpAny_pure ?_))
  rw [Heap.size_push]
  exact h
section
variable {prog : Program} {w : World} {A : Around} {E : Value → Shared → Prop} {env : Env}
theorem comp_coreC {elt iter : Expr} {x : Str} {px : Pos} {ifs : List Expr} {scope : Scope} {cl : List (Str × Addr)} {pos : Pos} {s₂ : Shared} {g : Heap} {I : Addr} {fp wr : List Addr} {n : Nat} {P : Nat → Value → Prop} {St : Nat → Heap → Prop}
    (W : Walks prog w A I fp wr n P St) (hsz : n ≤ 1000) (hwr : ∀ b ∈ wr, b = I) (hfp : ∀ b ∈ fp, b = I ∨ ∃ o, g.get? b = some o)
    (hg : ∀ b o, g.get? b = some o → s₂.heap.get? b = some o) (hgs : g.objs.size ≤ s₂.heap.objs.size) (hI : ∃ oI, s₂.heap.get? I = some oI) (hIg : g.get? I = none) (hst : St 0 s₂.heap) (hSI : ∀ i h, St i h → ∃ o, h.get? I = some o)
    {na nc : Str} (hnames : scope.names = [(na, .local), (x, .cell), (nc, .free)]) (hkind : scope.kind = .function) (hx : ∀ C cells, (compEnvC scope cells C env).kindOf x = some .cell)
    (J : Nat → List Value → List (Addr × Obj) → Nat → Prop) (hJm : ∀ i ys im tk tk', J i ys im tk → tk ≤ tk' → J i ys im tk') (im₀ : List (Addr × Obj)) (N₀ : ∀ p ∈ im₀, s₂.heap.get? p.1 = some p.2 ∧ p.1 ≠ I ∧ g.get? p.1 = none) (j₀ : J 0 [] im₀ s₂.toks)
    (turn : ∀ i v ys im own C Cc oc h tk m, i < n → P i v → J i ys im tk → s₂.heap.objs.size ≤ C → (Cc, oc) ∈ own → oc.data = .cell (some v) → Fr g C h m → News g C h (own ++ im) → (∀ p ∈ own, ∀ q ∈ im, p.1 ≠ q.1) →
      wpAny (model prog w) A (forIn ifs true fun c r => if r = true then do let ok ← isTrue c (compEnvC scope ((x, Cc) :: cl) C env) (eval c (compEnvC scope ((x, Cc) :: cl) C env)); pure (ForInStep.yield ok) else pure (ForInStep.yield r))
        (fun ok s₃ => if ok = true then wpAny (model prog w) A (eval elt (compEnvC scope ((x, Cc) :: cl) C env)) (fun y s₄ => TurnEnd g C s₂ own (J (i + 1) (ys ++ [y])) s₄) (fun _ _ => False) s₃ else TurnEnd g C s₂ own (J (i + 1) ys) s₃)
        (fun _ _ => False) { s₂ with heap := h, toks := tk })
    {RR : Value → Addr → Result → Shared → Prop}
    (done : ∀ D C ys k im h tk m', s₂.heap.get? D = none → s₂.heap.get? C = none → D ≠ C → h.Ns C m' → h.get? D = some (listOf ys.toArray k) → (∀ b o, g.get? b = some o → h.get? b = some o) →
      (∀ p ∈ im, h.get? p.1 = some p.2 ∧ p.1 ≠ C ∧ p.1 ≠ D ∧ g.get? p.1 = none) → J n ys im tk → RR (.ref D) C (.ok .next) { s₂ with heap := h, toks := tk }) :
    wpAny (model prog w) A (newList []) (fun acc s₃ => wpAny (model prog w) A (newFunctionEnv scope env.globals cl [] env.qual none .none (some env)) (fun cenv s₄ =>
      codeAny (model prog w) A (.compStart (.ListComp elt [⟨.Name x px, iter, ifs, 0⟩] scope pos) 0 (.ref I) acc { cenv with scope := relabel scope env }) (RR acc cenv.locals) s₄) E s₃) E s₂ := by
  refine wpAny_newObj_type (newEnv_cell hnames ?_)
  dsimp only
  generalize hH2 : s₂.heap.push { cls := .type "list", dict := none, data := .seq ([] : List Value).toArray } = H2
  have hns₀ := (Heap.Ns.new H2 (.type "dict")).keeps fun b o e => Heap.get?_push_of_some { cls := .type "cell", data := .cell none } e
  have hCcl : ((H2.push { cls := .type "dict", data := .dict #[] }).push { cls := .type "cell", data := .cell none }).get? (H2.objs.size + 1) = some { cls := .type "cell", data := .cell none } := by
    rw [← Heap.size_push H2 { cls := .type "dict", data := .dict #[] }]
    exact Heap.get?_push_size _ rfl
  have hup₁ : ∀ b o, H2.get? b = some o → ((H2.push { cls := .type "dict", data := .dict #[] }).push { cls := .type "cell", data := .cell none }).get? b = some o := fun b o e => Heap.get?_push_of_some _ (Heap.get?_push_of_some _ e)
  generalize (H2.push { cls := .type "dict", data := .dict #[] }).push { cls := .type "cell", data := .cell none } = h₁ at hns₀ hCcl hup₁ ⊢
  have hC : H2.objs.size = s₂.heap.objs.size + 1 := by rw [← hH2, Heap.size_push]
  generalize hDD : s₂.heap.objs.size = D at hC ⊢
  generalize hCC : H2.objs.size = C at hC hns₀ hCcl ⊢
  generalize hCe : C + 1 = Cc at hCcl ⊢
  have hDC : D ≠ C := by omega
  have hDCc : D ≠ Cc := by omega
  have hCCc : C ≠ Cc := by omega
  have below : ∀ b o, s₂.heap.get? b = some o → b ≠ C ∧ b ≠ D ∧ b ≠ Cc := fun b o e => ⟨Nat.ne_of_lt (by rw [hC, ← hDD]; exact Nat.lt_succ_of_lt (Heap.lt_size e)), Nat.ne_of_lt (hDD ▸ Heap.lt_size e), Nat.ne_of_lt (by rw [← hCe, hC, ← hDD]; exact Nat.lt_succ_of_lt (Nat.lt_succ_of_lt (Heap.lt_size e)))⟩
  have old : ∀ b o, s₂.heap.get? b = some o → h₁.get? b = some o := fun b o e => hup₁ b o (hH2 ▸ Heap.get?_push_of_some _ e)
  have fresh : ∀ a, D ≤ a → s₂.heap.get? a = none := fun a ha => by
    cases e : s₂.heap.get? a with
    | none => rfl
    | some o' => exact absurd (Heap.lt_size e) (Nat.not_lt.mpr (hDD ▸ ha))
  have hD0 := fresh D (Nat.le_refl _)
  have hC0 := fresh C (by omega)
  have hCc0 := fresh Cc (by omega)
  have gnone : ∀ a, s₂.heap.get? a = none → g.get? a = none := fun a ha => by
    cases e : g.get? a with
    | none => rfl
    | some o => rw [hg a o e] at ha; cases ha
  obtain ⟨oI, hI⟩ := hI
  have hID := below I oI hI
  have hacc : h₁.get? D = some (listOf ([] : List Value).toArray 0) := hup₁ _ _ (by rw [← hH2, ← hDD]; exact Heap.get?_push_size _ rfl)
  have hst₁ : St 0 h₁ := W.frame _ _ _ hst fun b _ o e => old b o e
  have hDf : D ∉ fp := fun hm => (hfp D hm).elim (fun q => hID.2.1 q.symm) fun ⟨o, q⟩ => by rw [gnone D hD0] at q; cases q
  have hCf : Cc ∉ fp := fun hm => (hfp Cc hm).elim (fun q => hID.2.2 q.symm) fun ⟨o, q⟩ => by rw [gnone Cc hCc0] at q; cases q
  have loop : ∀ s₃ : Shared, s₃ = { s₂ with heap := h₁ } →
      codeAny (model prog w) A (.compLoop (.ListComp elt [⟨.Name x px, iter, ifs, 0⟩] scope pos) 0 (.ref I) (.ref D) (compEnvC scope ((x, Cc) :: cl) C env)) (RR (.ref D) C) s₃ := by
    rintro s₃ rfl
    refine codeAny_compLoop_tests
      (fun k s' => ∃ i ys c im oI oc cv h tk m, k = n - i ∧ i ≤ n ∧ ys.length ≤ i ∧ s' = { s₂ with heap := h, toks := tk } ∧ St i h ∧ h.get? I = some oI ∧ h.get? D = some (listOf ys.toArray c) ∧ h.Ns C m ∧ (∀ b o, g.get? b = some o → h.get? b = some o) ∧
        (∀ p ∈ im, h.get? p.1 = some p.2 ∧ p.1 ≠ C ∧ p.1 ≠ D ∧ p.1 ≠ I ∧ p.1 ≠ Cc ∧ g.get? p.1 = none) ∧ h.get? Cc = some oc ∧ oc.data = .cell cv ∧ J i ys im tk) ?_ (n - 0)
      ⟨0, [], 0, im₀, oI, _, none, h₁, _, _, rfl, Nat.zero_le _, Nat.le_refl _, rfl, hst₁, old _ _ hI, hacc, hns₀, fun b o e => old b o (hg b o e), fun p hp => ⟨old _ _ (N₀ p hp).1, (below _ _ (N₀ p hp).1).1, (below _ _ (N₀ p hp).1).2.1, (N₀ p hp).2.1, (below _ _ (N₀ p hp).1).2.2, (N₀ p hp).2.2⟩, hCcl, rfl, j₀⟩
    rintro k s' ⟨i, ys, c, im, oI', oc, cv, h, tk, m, rfl, hin, hyl, rfl, hsti, hIh, hDh, hns, hgh, him, hch, hcd, hj⟩
    have offI : ∀ b, b ≠ I → b ∉ wr := fun b hb hm => hb (hwr b hm)
    by_cases hlt : i < n
    · refine wpAny_with_toks (n := tk) (Nat.le_refl _) (W.item i _ _ _ hlt hsti fun v h₂ tk₂ hPv hst₂ hk₂ htk₂ => ?_)
      refine wpAny_assign_Name (wpAny_storeName_cell (env := compEnvC scope ((x, Cc) :: cl) C env) (c := Cc) (v₀ := cv) (by simp [compEnvC, relabel, hkind]) (hx _ _) (by simp [compEnvC]) ⟨oc, hk₂ _ _ (offI _ hID.2.2.symm) hch, hcd⟩ fun h₃ hc₃ hs₃ => ?_)
      obtain ⟨oc3, hoc3, hcd3⟩ := hc₃
      have hn₃ : h₃.Ns C m := (hns.at' fun o e => hk₂ _ o (offI _ hID.1.symm) e).at' fun o e => hs₃.extBut _ o hCCc e
      have up : ∀ b o, b ≠ Cc → b ≠ I → h.get? b = some o → h₃.get? b = some o := fun b o h1 h2 e => hs₃.extBut b o h1 (hk₂ b o (offI b h2) e)
      have hst₃ : St (i + 1) h₃ := W.frame _ _ _ hst₂ fun b hb o e => hs₃.extBut b o (fun q => hCf (by rw [← show b = Cc from q]; exact hb)) e
      obtain ⟨oI3, hI3⟩ := hSI _ _ hst₃
      have gC := gnone C hC0
      have gD := gnone D hD0
      have gCc := gnone Cc hCc0
      have g3 : ∀ b o, g.get? b = some o → h₃.get? b = some o := fun b o e => up b o (fun q => by rw [q, gCc] at e; cases e) (fun q => by rw [q, hIg] at e; cases e) (hgh b o e)
      have hDh3 := up D _ hDCc hID.2.1.symm hDh
      have own3 : News g C h₃ ([(I, oI3), (D, listOf ys.toArray c), (Cc, oc3)] ++ im) := by
        intro p hp
        rcases List.mem_append.mp hp with hp | hp
        · rcases List.mem_cons.mp hp with rfl | hp
          · exact ⟨hI3, hID.1, hIg⟩
          rcases List.mem_cons.mp hp with rfl | hp
          · exact ⟨hDh3, hDC, gD⟩
          · obtain rfl := List.mem_singleton.mp hp
            exact ⟨hoc3, hCCc.symm, gCc⟩
        · have z := him p hp
          exact ⟨up _ _ z.2.2.2.2.1 z.2.2.2.1 z.1, z.2.1, z.2.2.2.2.2⟩
      refine wpAny_mono (turn i v ys im [(I, oI3), (D, listOf ys.toArray c), (Cc, oc3)] C Cc oc3 h₃ _ _ hlt hPv (hJm _ _ _ _ _ hj htk₂) (by omega) (.tail _ (.tail _ (.head _))) hcd3 ⟨hn₃, g3, by omega⟩ own3 ?_) (fun ok s₃ h₃' => ?_) fun _ _ y => y.elim
      · intro p hp q hq
        have z := him q hq
        rcases List.mem_cons.mp hp with rfl | hp
        · exact z.2.2.2.1.symm
        rcases List.mem_cons.mp hp with rfl | hp
        · exact z.2.2.1.symm
        · obtain rfl := List.mem_singleton.mp hp
          exact z.2.2.2.2.1.symm
      have close : ∀ {ys' : List Value} {s' : Shared} {c' : Nat} {h5 : Heap} {h4 : Heap} {tk4 : Nat} {m4 : Str → Option Value} {nw im' : List (Addr × Obj)}, ys'.length ≤ i + 1 → s' = { s₂ with heap := h5, toks := tk4 } → Fr g C h4 m4 → News g C h4 nw →
          (∀ p ∈ [(I, oI3), (D, listOf ys.toArray c), (Cc, oc3)], p ∈ nw) → (∀ p ∈ im', p ∈ nw) → (∀ p ∈ [(I, oI3), (D, listOf ys.toArray c), (Cc, oc3)], ∀ q ∈ im', p.1 ≠ q.1) → J (i + 1) ys' im' tk4 → (∀ b o, b ≠ D → h4.get? b = some o → h5.get? b = some o) → h5.get? D = some (listOf ys'.toArray c') →
          ∃ k', k' < n - i ∧ ∃ i ys c im oI oc cv h tk m, k' = n - i ∧ i ≤ n ∧ ys.length ≤ i ∧ s' = { s₂ with heap := h, toks := tk } ∧ St i h ∧ h.get? I = some oI ∧ h.get? D = some (listOf ys.toArray c) ∧ h.Ns C m ∧ (∀ b o, g.get? b = some o → h.get? b = some o) ∧
            (∀ p ∈ im, h.get? p.1 = some p.2 ∧ p.1 ≠ C ∧ p.1 ≠ D ∧ p.1 ≠ I ∧ p.1 ≠ Cc ∧ g.get? p.1 = none) ∧ h.get? Cc = some oc ∧ oc.data = .cell cv ∧ J i ys im tk := by
        intro ys' s' c' h5 h4 tk4 m4 nw im' hyl' es F4 N4 ho him' hap hj' h45 hD5
        have I4 := (N4 _ (ho _ (.head _))).1
        have C4 := (N4 _ (ho _ (.tail _ (.tail _ (.head _))))).1
        refine ⟨n - (i + 1), by omega, i + 1, ys', c', im', oI3, oc3, some v, h5, tk4, m4, rfl, hlt, hyl', es, ?_, h45 _ _ hID.2.1 I4, hD5, F4.ns.at' fun o e => h45 _ o hDC.symm e, fun b o e => h45 b o (fun q => by rw [q, gD] at e; cases e) (F4.keep b o e), ?_, h45 _ _ hDCc.symm C4, hcd3, hj'⟩
        · refine W.frame _ _ _ hst₃ fun b hb o e => ?_
          rcases hfp b hb with rfl | ⟨o', e'⟩
          · rw [hI3] at e; cases e; exact h45 _ _ hID.2.1 I4
          · have := g3 b o' e'
            rw [e] at this; cases this
            exact h45 b o (fun q => by rw [q, gD] at e'; cases e') (F4.keep b o e')
        · intro p hp
          have z := N4 p (him' p hp)
          have a1 := hap _ (.head _) p hp
          have a2 := hap _ (.tail _ (.head _)) p hp
          have a3 := hap _ (.tail _ (.tail _ (.head _))) p hp
          exact ⟨h45 _ _ a2.symm z.1, z.2.1, a2.symm, a1.symm, a3.symm, z.2.2⟩
      cases ok with
      | false =>
        simp only [Bool.false_eq_true, if_false] at h₃' ⊢
        obtain ⟨h', tk', m', nw, im', es, F4, N4, ho, him', hap, hj'⟩ := h₃'
        exact close (by omega) es F4 N4 ho him' hap hj' (fun _ _ _ e => e) (N4 _ (ho _ (.tail _ (.head _)))).1
      | true =>
        simp only [if_true] at h₃' ⊢
        refine wpAny_mono h₃' (fun y s₄ h₄ => ?_) fun _ _ y => y.elim
        obtain ⟨h', tk', m', nw, im', rfl, F4, N4, ho, him', hap, hj'⟩ := h₄
        refine append_at (hsz := by rw [List.size_toArray, sizeLine_eq]; omega) (N4 _ (ho _ (.tail _ (.head _)))).1 fun h5 hs5 hD5 => ?_
        exact close (by rw [List.length_append]; simp only [List.length_singleton]; omega) rfl F4 N4 ho him' hap hj' (fun b o hb e => hs5.extBut b o hb e) (c' := c + 1) (by rw [hD5]; simp)
    · have hin' : i = n := by omega
      subst hin'
      refine wpAny_with_toks (n := tk) (Nat.le_refl _) (W.done _ _ _ hsti fun h₂ tk₂ hk₂ htk₂ => ?_)
      exact done D C ys c im h₂ _ _ hD0 hC0 hDC (hns.at' fun o e => hk₂ _ o (offI _ hID.1.symm) e) (hk₂ _ _ (offI _ hID.2.1.symm) hDh) (fun b o e => hk₂ b o (offI b fun q => by rw [q, hIg] at e; cases e) (hgh b o e))
        (fun p hp => have z := him p hp; ⟨hk₂ _ _ (offI _ z.2.2.2.1) z.1, z.2.1, z.2.2.1, z.2.2.2.2.2⟩) (hJm _ _ _ _ _ hj htk₂)
  exact codeAny_compStart_list (loop _ rfl) (W.self 0 _ _ _ hst₁ (loop _ rfl))
theorem comp_str {elt iter : Expr} {x : Str} {px : Pos} {ifs : List Expr} {scope : Scope} {cl : List (Str × Addr)} {pos : Pos} {s : Shared} {Q : Value → Shared → Prop} {y : Str} {t : Tok}
    (hh : A.handled = none) (hasc : y.cps.all (· < 128) = true) (hsz : y.cps.size ≤ 1000) (hcell : ∀ y ∈ scope.names, y.2 ≠ .cell) (hkind : scope.kind = .function) (hx : scope.names.lookup x = some .local)
    (J : Nat → List Value → List (Addr × Obj) → Prop) (j₀ : J 0 [] [])
    (turn : ∀ i c u ys im own C h tk m, y.cps[i]? = some c → J i ys im → s.heap.objs.size ≤ C → m x = some (.str ⟨#[c]⟩ u) → Fr s.heap C h m → News s.heap C h (own ++ im) → (∀ p ∈ own, ∀ q ∈ im, p.1 ≠ q.1) →
      wpAny (model prog w) A (forIn ifs true fun c r => if r = true then do let ok ← isTrue c (compEnvC scope cl C env) (eval c (compEnvC scope cl C env)); pure (ForInStep.yield ok) else pure (ForInStep.yield r))
        (fun ok s₃ => if ok = true then wpAny (model prog w) A (eval elt (compEnvC scope cl C env)) (fun y s₄ => TurnEnd s.heap C s own (fun im _ => J (i + 1) (ys ++ [y]) im) s₄) (fun _ _ => False) s₃ else TurnEnd s.heap C s own (fun im _ => J (i + 1) ys im) s₃)
        (fun _ _ => False) { s with heap := h, toks := tk })
    (done : ∀ D ys k im h tk, s.heap.get? D = none → h.get? D = some (listOf ys.toArray k) → (∀ b o, s.heap.get? b = some o → h.get? b = some o) →
      (∀ p ∈ im, h.get? p.1 = some p.2 ∧ p.1 ≠ D ∧ s.heap.get? p.1 = none) → J y.cps.size ys im → Q (.ref D) { s with heap := h, toks := tk }) :
    wpAny (model prog w) A (pyIter (.str y t)) (fun it s₂ => wpAny (model prog w) A (newList []) (fun acc s₃ => wpAny (model prog w) A (newFunctionEnv scope env.globals cl [] env.qual none .none (some env)) (fun cenv s₄ =>
      codeAny (model prog w) A (.compStart (.ListComp elt [⟨.Name x px, iter, ifs, 0⟩] scope pos) 0 it acc { cenv with scope := relabel scope env })
        (fun r s' => (∃ u, r = .ok u) ∧ ∃ m, s'.heap.Ns cenv.locals m ∧ ∀ h', Heap.SameBut cenv.locals s'.heap h' → Q acc { s' with heap := h' }) s₄) E s₃) E s₂) E s := by
  refine wpAny_pyIter_ascii hasc ?_
  generalize hI : s.heap.objs.size = I
  have hI0 : s.heap.get? I = none := by
    cases e : s.heap.get? I with
    | none => rfl
    | some o => exact absurd (Heap.lt_size e) (by rw [hI]; exact Nat.lt_irrefl _)
  have hpI : (s.heap.push { cls := .type "str_ascii_iterator", data := .fields #[.str y t, .int 0 0] }).get? I = some { cls := .type "str_ascii_iterator", data := .fields #[.str y t, .int 0 0] } := by rw [← hI]; exact Heap.get?_push_size _ rfl
  have up : ∀ b o, s.heap.get? b = some o → (s.heap.push { cls := .type "str_ascii_iterator", data := .fields #[.str y t, .int 0 0] }).get? b = some o := fun b o e => Heap.get?_push_of_some _ e
  refine comp_core (s₂ := { s with heap := s.heap.push { cls := .type "str_ascii_iterator", data := .fields #[.str y t, .int 0 0] } }) (g := s.heap) (n := y.cps.size) (env := env) (elt := elt) (iter := iter) (px := px) (ifs := ifs) (cl := cl) (pos := pos) (RR := fun acc C r s' => (∃ u, r = .ok u) ∧ ∃ m, s'.heap.Ns C m ∧ ∀ h', Heap.SameBut C s'.heap h' → Q acc { s' with heap := h' }) (Walks.strAscii hh I y t) hsz (by simp) (by simp) up
    (by show _ ≤ (s.heap.push _).objs.size; rw [Heap.size_push]; omega) ⟨_, hpI⟩ hI0 ⟨_, hpI, rfl, rfl⟩ ?_ hcell hkind hx (fun i ys im _ => J i ys im) (fun _ _ _ _ _ h _ => h) [] (fun _ h => nomatch h) j₀ ?_ ?_
  · rintro i h ⟨o, ho, _⟩
    exact ⟨o, ho⟩
  · intro i v ys im own C h tk m hi ⟨c, u, hc, e⟩ hj hC hm F N hap
    have hC' : s.heap.objs.size ≤ C := by
      have := hC
      rw [show ({ s with heap := s.heap.push { cls := .type "str_ascii_iterator", data := .fields #[.str y t, .int 0 0] } } : Shared).heap.objs.size = s.heap.objs.size + 1 from Heap.size_push _ _] at this
      omega
    exact turn i c u ys im own C h tk m hc hj hC' (e ▸ hm) F N hap
  · intro D C ys k im h tk m' hD hC hDC hn hDh hgh him hj
    have dn : ∀ a, (s.heap.push { cls := .type "str_ascii_iterator", data := .fields #[.str y t, .int 0 0] }).get? a = none → s.heap.get? a = none := fun a ha => by
      cases e : s.heap.get? a with
      | none => rfl
      | some o => rw [up _ _ e] at ha; cases ha
    refine ⟨⟨_, rfl⟩, m', hn, fun h' hs' => ?_⟩
    refine done D ys k im h' tk (dn D hD) (hs'.extBut _ _ hDC hDh) (fun b o e => hs'.extBut _ _ (fun q => ?_) (hgh b o e)) (fun p hp => ⟨hs'.extBut _ _ (him p hp).2.1 (him p hp).1, (him p hp).2.2⟩) hj
    have := up _ _ e
    rw [q] at this
    rw [hC] at this; cases this
theorem comp_strC {elt iter : Expr} {x : Str} {px : Pos} {ifs : List Expr} {scope : Scope} {cl : List (Str × Addr)} {pos : Pos} {s : Shared} {Q : Value → Shared → Prop} {y : Str} {t : Tok}
    (hh : A.handled = none) (hasc : y.cps.all (· < 128) = true) (hsz : y.cps.size ≤ 1000) {na nc : Str} (hnames : scope.names = [(na, .local), (x, .cell), (nc, .free)]) (hkind : scope.kind = .function) (hx : ∀ C cells, (compEnvC scope cells C env).kindOf x = some .cell)
    (J : Nat → List Value → List (Addr × Obj) → Prop) (j₀ : J 0 [] [])
    (turn : ∀ i c u ys im own C Cc oc h tk m, y.cps[i]? = some c → J i ys im → s.heap.objs.size ≤ C → (Cc, oc) ∈ own → oc.data = .cell (some (.str ⟨#[c]⟩ u)) → Fr s.heap C h m → News s.heap C h (own ++ im) → (∀ p ∈ own, ∀ q ∈ im, p.1 ≠ q.1) →
      wpAny (model prog w) A (forIn ifs true fun c r => if r = true then do let ok ← isTrue c (compEnvC scope ((x, Cc) :: cl) C env) (eval c (compEnvC scope ((x, Cc) :: cl) C env)); pure (ForInStep.yield ok) else pure (ForInStep.yield r))
        (fun ok s₃ => if ok = true then wpAny (model prog w) A (eval elt (compEnvC scope ((x, Cc) :: cl) C env)) (fun y s₄ => TurnEnd s.heap C s own (fun im _ => J (i + 1) (ys ++ [y]) im) s₄) (fun _ _ => False) s₃ else TurnEnd s.heap C s own (fun im _ => J (i + 1) ys im) s₃)
        (fun _ _ => False) { s with heap := h, toks := tk })
    (done : ∀ D ys k im h tk, s.heap.get? D = none → h.get? D = some (listOf ys.toArray k) → (∀ b o, s.heap.get? b = some o → h.get? b = some o) →
      (∀ p ∈ im, h.get? p.1 = some p.2 ∧ p.1 ≠ D ∧ s.heap.get? p.1 = none) → J y.cps.size ys im → Q (.ref D) { s with heap := h, toks := tk }) :
    wpAny (model prog w) A (pyIter (.str y t)) (fun it s₂ => wpAny (model prog w) A (newList []) (fun acc s₃ => wpAny (model prog w) A (newFunctionEnv scope env.globals cl [] env.qual none .none (some env)) (fun cenv s₄ =>
      codeAny (model prog w) A (.compStart (.ListComp elt [⟨.Name x px, iter, ifs, 0⟩] scope pos) 0 it acc { cenv with scope := relabel scope env })
        (fun r s' => (∃ u, r = .ok u) ∧ ∃ m, s'.heap.Ns cenv.locals m ∧ ∀ h', Heap.SameBut cenv.locals s'.heap h' → Q acc { s' with heap := h' }) s₄) E s₃) E s₂) E s := by
  refine wpAny_pyIter_ascii hasc ?_
  generalize hI : s.heap.objs.size = I
  have hI0 : s.heap.get? I = none := by
    cases e : s.heap.get? I with
    | none => rfl
    | some o => exact absurd (Heap.lt_size e) (by rw [hI]; exact Nat.lt_irrefl _)
  have hpI : (s.heap.push { cls := .type "str_ascii_iterator", data := .fields #[.str y t, .int 0 0] }).get? I = some { cls := .type "str_ascii_iterator", data := .fields #[.str y t, .int 0 0] } := by rw [← hI]; exact Heap.get?_push_size _ rfl
  have up : ∀ b o, s.heap.get? b = some o → (s.heap.push { cls := .type "str_ascii_iterator", data := .fields #[.str y t, .int 0 0] }).get? b = some o := fun b o e => Heap.get?_push_of_some _ e
  refine comp_coreC (s₂ := { s with heap := s.heap.push { cls := .type "str_ascii_iterator", data := .fields #[.str y t, .int 0 0] } }) (g := s.heap) (n := y.cps.size) (env := env) (elt := elt) (iter := iter) (px := px) (ifs := ifs) (cl := cl) (pos := pos) (RR := fun acc C r s' => (∃ u, r = .ok u) ∧ ∃ m, s'.heap.Ns C m ∧ ∀ h', Heap.SameBut C s'.heap h' → Q acc { s' with heap := h' }) (Walks.strAscii hh I y t) hsz (by simp) (by simp) up
    (by show _ ≤ (s.heap.push _).objs.size; rw [Heap.size_push]; omega) ⟨_, hpI⟩ hI0 ⟨_, hpI, rfl, rfl⟩ ?_ hnames hkind hx (fun i ys im _ => J i ys im) (fun _ _ _ _ _ h _ => h) [] (fun _ h => nomatch h) j₀ ?_ ?_
  · rintro i h ⟨o, ho, _⟩
    exact ⟨o, ho⟩
  · intro i v ys im own C Cc oc h tk m hi ⟨c, u, hc, e⟩ hj hC ho hod F N hap
    have hC' : s.heap.objs.size ≤ C := by
      have := hC
      rw [show ({ s with heap := s.heap.push { cls := .type "str_ascii_iterator", data := .fields #[.str y t, .int 0 0] } } : Shared).heap.objs.size = s.heap.objs.size + 1 from Heap.size_push _ _] at this
      omega
    exact turn i c u ys im own C Cc oc h tk m hc hj hC' ho (e ▸ hod) F N hap
  · intro D C ys k im h tk m' hD hC hDC hn hDh hgh him hj
    have dn : ∀ a, (s.heap.push { cls := .type "str_ascii_iterator", data := .fields #[.str y t, .int 0 0] }).get? a = none → s.heap.get? a = none := fun a ha => by
      cases e : s.heap.get? a with
      | none => rfl
      | some o => rw [up _ _ e] at ha; cases ha
    refine ⟨⟨_, rfl⟩, m', hn, fun h' hs' => ?_⟩
    refine done D ys k im h' tk (dn D hD) (hs'.extBut _ _ hDC hDh) (fun b o e => hs'.extBut _ _ (fun q => ?_) (hgh b o e)) (fun p hp => ⟨hs'.extBut _ _ (him p hp).2.1 (him p hp).1, (him p hp).2.2⟩) hj
    have := up _ _ e
    rw [q] at this
    rw [hC] at this; cases this
end

theorem calm_LB : True := by w_top off; trivial
local macro_rules | `(tactic| walk_at "exec Assign cons ListComp") => `(tactic| refine hold ?_)
local macro_rules | `(tactic| walk_at "m compA") => `(tactic| (unfold Hold; refine' comp_evalA ?sw ?hc ?hk ?hn ?hs ?_; (case sw => with_unfolding_all rfl); (case hc => with_unfolding_all rfl); (case hk => rfl); (case hn => decide); (case hs => intro _; with_unfolding_all rfl)))
/-- the law's own def -/
def lawStmt (i : Nat) : Stmt := match PySem.Challenge.pw_tc0036_01.main.body.getLast? with | some (.FunctionDef _ _ b ..) => b.getD i (.Pass default) | _ => .Pass default
def lawScope : Scope := match PySem.Challenge.pw_tc0036_01.main.body.getLast? with | some (.FunctionDef _ _ _ _ _ _ sc ..) => sc | _ => default
local macro_rules | `(tactic| walk_at "m law") => `(tactic| (
  conv in (lawStmt _) => whnf
  conv in lawScope => whnf))
theorem subscriptTail_opsR {prog : Program} {w : World} {A : Around} {E : Value → Shared → Prop} {s : Shared} {value slice : Expr} {o i : Value} {T id : String} {ops : List Value} {Q : Value → Shared → Prop} (hT : s.TypeIs o T)
    (hl : typeLookup (.type T) "__getitem__" = pure (some (.builtin id))) (h : wpAny (model prog w) A (getItem o i) Q E s)
    (hs : subscripted slice false o i = operate ops (getItem o i)) : wpAny (model prog w) A (subscriptTail value slice o i) Q E s := by
  unfold subscriptTail
  refine wpAny_bind ?_
  rw [getitemInPython_of_ne hT.not_modules]
  refine wpAny_bind (wpAny_specialOf hT hl ?_)
  have fin : wpAny (model prog w) A (subscripted slice false o i) (fun r s₃ => wpAny (model prog w) A (letTemporaryGo value o r >>= fun _ => pure r) Q E s₃) E s := by
    rw [hs]
    exact wpAny_operating (wpAny_mono h (fun r s₃ h₃ => wpAny_bind (wpAny_letTemporaryGo (wpAny_pure h₃))) fun _ _ x => x)
  first
    | exact wpAny_pure (wpAny_bind fin)
    | exact wpAny_bind (wpAny_pure (wpAny_bind fin))
    | exact wpAny_bind fin
theorem slice_tmp {prog : Program} {w : World} {A : Around} {E : Value → Shared → Prop} {s : Shared} {h₀ : Heap} {L : Addr} {m : Str → Option Value} {news : List (Addr × Obj)} {value slice : Expr} {l : Addr} {vs ws : List Value} {vl vu : Value} {lo hi : Option Int} {Q : Value → Shared → Prop}
    (F : Fr h₀ L s.heap m) (N : News h₀ L s.heap news) (hl : s.heap.IsList l vs.toArray) (pl : IsPart vl lo) (pu : IsPart vu hi) (hz : vs.length ≤ 1000) (e : (slicePick vs.toArray lo hi none).toList = ws)
    (h : ∀ D h', Fr h₀ L h' m → News h₀ L h' ((D, listOf ws.toArray 0) :: news) → (∀ p ∈ news, p.1 < D) → Q (.ref D) { s with heap := h' })
    (hs : subscripted slice false (.ref l) (.ref s.heap.objs.size) = operate [.ref s.heap.objs.size, .ref l] (getItem (.ref l) (.ref s.heap.objs.size))) :
    wpAny (model prog w) A (subscriptTail value slice (.ref l) (.ref s.heap.objs.size)) Q E { s with heap := s.heap.push { cls := .type "slice", data := .fields #[vl, vu, .none] } } := by
  refine subscriptTail_opsR (Heap.IsList.typeIs (s := { s with heap := s.heap.push { cls := .type "slice", data := .fields #[vl, vu, .none] } }) (hl.push _)) list_getitem_lookup
    (wpAny_getItem_list_slice (hl.push _) (Heap.IsSliceOf.new ..) pl pu .none (by simp) ?_ (by rw [List.size_toArray, sizeLine_eq]; omega)) hs
  have N1 := News.push (F.push { cls := .type "slice", data := .fields #[vl, vu, .none] }) (N.grown fun _ _ e => Heap.get?_push_of_some _ e) { cls := .type "list", data := .seq (slicePick vs.toArray lo hi none) }
  rw [Heap.size_push] at N1
  show Q (.ref (s.heap.push _).objs.size) _
  rw [Heap.size_push]
  refine h _ _ ((F.push _).push _) ?_ fun p hp => Nat.lt_succ_of_lt (Heap.lt_size (N p hp).1)
  rw [← e, Array.toArray_toList]
  exact N1
local macro_rules | `(tactic| walk_at "subscriptTail List Slice ref ref") => `(tactic| refine hold ?_)
section
variable {w : World} {loose : List Str} {mean : ExcName → Option Value} {mg mb : Str → Option Value} {A : Around} {s : Shared} {h₀ : Heap} {L f : Addr} {cdv : Value} {m : Str → Option Value} {news : List (Addr × Obj)} {Q : Flow → Shared → Prop} {E : Value → Shared → Prop}
theorem st1 {D : Addr} {ys : List Value} {n : Nat} {ns : List Int} (X : (hd.heap_39 w.params).In h₀) (T : Top hd.view_39 loose mean mg mb h₀) (S : Sm A 30) (F : Fr h₀ L s.heap m)
    (N : News h₀ L s.heap ((D, listOf ys.toArray n) :: news)) (hm : m (PySem.Str.ofString "drawn") = some (.ref D)) (hns : IntsAre ys ns) (h6 : ns.length ≤ 6) 
    (k : ∀ l ys' ns' h' tk m', Fr h₀ L h' m' → News h₀ L h' ((l, listOf ys'.toArray 0) :: news) → m' (PySem.Str.ofString "numbers") = some (.ref l) → (∀ p ∈ news, p.1 ≠ l) → IntsAre ys' ns' → ns'.length = 6 → Q .next { s with heap := h', toks := tk }) :
  wpAny (model PySem.Challenge.rw_tc0036_01.row.prog w) A (exec (lawStmt 1) (envOfC (PySem.Str.ofString "law") lawScope L f cdv)) Q E s := by
  obtain ⟨hz, dp, fr, gd, un⟩ := A
  obtain rfl : hz = none := S.hh
  walk_at "m law"
  iterate 30 (first | walk1 | (dsimp only; walk1))
  refine' slice_tmp ?gF ?gN ?gl ?gp ?gq ?gz ?ge ?_ ?gs
  case gF => k_asm
  case gN => k_asm
  case gl => exact News.isList (by k_asm) (.head _)
  case gp => kmk_part
  case gq => kmk_part
  case gz => exact Nat.le_of_ble_eq_true rfl
  case ge => exact rfl
  case gs => with_unfolding_all rfl
  intro D' h' F' N' l1
  dsimp only
  generalize hws : (slicePick _ _ _ _).toList = ws at N'
  have hI : IntsAre ws (([1, 0, 1, 1, 0, 2] : List Int).drop ns.length) := by rw [← hws]; exact kmk_from (.cons _ _ (.cons _ _ (.cons _ _ (.cons _ _ (.cons _ _ (.cons _ _ .nil)))))) (Int.natCast_nonneg _)
  k_steps
  rename_i D2 ws2 h1 hI2 l2 h3 F3 N3
  exact k D2 ws2 _ h3 _ _ F3 (fun p hp => N3 p (by
    rcases List.mem_cons.mp hp with q | q
    · exact q ▸ .head _
    · exact .tail _ (.tail _ (.tail _ (.tail _ q))))) rfl (fun p hp => Nat.ne_of_lt (allLt_mem _ l2.2.2.2 p hp)) hI2 (by simp; omega)
theorem abc_at (n : Int) : ∃ c, Txt.item (PySem.Str.ofString "abc") (n.fmod 3) = ⟨#[c]⟩ ∧ (c = 97 ∨ c = 98 ∨ c = 99) := by
  have e0 : n.fmod 3 = n % 3 := Int.fmod_eq_emod_of_nonneg n (by decide)
  rw [e0]
  have h : n % 3 = 0 ∨ n % 3 = 1 ∨ n % 3 = 2 := by omega
  rcases h with e | e | e <;> rw [e]
  · exact ⟨97, by decide +kernel, .inl rfl⟩
  · exact ⟨98, by decide +kernel, .inr (.inl rfl)⟩
  · exact ⟨99, by decide +kernel, .inr (.inr rfl)⟩
theorem join_abcS : ∀ cs : List Nat, PySem.Str.join (PySem.Str.ofString "") (cs.map fun c => ⟨#[c]⟩) = ⟨cs.toArray⟩
  | [] => rfl
  | [c] => rfl
  | c :: d :: r => by
    show (⟨#[c]⟩ : Str) ++ PySem.Str.ofString "" ++ PySem.Str.join (PySem.Str.ofString "") ((d :: r).map fun c => ⟨#[c]⟩) = _
    rw [join_abcS (d :: r)]
    apply PySem.Str.ext'
    show #[c] ++ #[] ++ (d :: r).toArray = _
    simp
theorem join_abc (cs : List Nat) : Txt.join (PySem.Str.ofString "") (cs.map fun c => ⟨#[c]⟩) = ⟨cs.toArray⟩ :=
  (eq_of_beq (join_plain_closes _ _)).trans (join_abcS cs)
theorem st2 {D : Addr} {ys : List Value} {n : Nat} {ns : List Int} {oc : Obj} {cv : Option Value} (X : (hd.heap_39 w.params).In h₀) (T : Top hd.view_39 loose mean mg mb h₀) (S : Sm A 30) (F : Fr h₀ L s.heap m)
    (N : News h₀ L s.heap ((D, listOf ys.toArray n) :: (L + 1, oc) :: news)) (hoc : oc.data = .cell cv) (hD : D ≠ L + 1) (hnn : ∀ p ∈ news, p.1 ≠ L + 1) (hm : m (PySem.Str.ofString "numbers") = some (.ref D)) (hns : IntsAre ys ns) (h6 : ns.length = 6)
    (k : ∀ cs t oc' h' tk, Fr h₀ L h' m → News h₀ L h' ((L + 1, oc') :: news) → oc'.data = .cell (some (.str ⟨cs⟩ t)) → cs.size = 6 → (∀ c ∈ cs.toList, c = 97 ∨ c = 98 ∨ c = 99) → Q .next { s with heap := h', toks := tk }) :
  wpAny (model PySem.Challenge.rw_tc0036_01.row.prog w) A (exec (lawStmt 2) (envOfC (PySem.Str.ofString "law") lawScope L f cdv)) Q E s := by
  obtain ⟨hz, dp, fr, gd, un⟩ := A
  obtain rfl : hz = none := S.hh
  walk_at "m law"
  k_steps
  walk_at "m comp"
  k_steps
  unfold Hold
  refine comp_list rfl (News.isList N (.head _)) (by rw [hns.length]; omega) (fun _ _ e => e) (Nat.le_refl _) (by decide) rfl (by decide) (fun i ys im => ∃ cs : List Nat, StrsAre ys (cs.map fun c => ⟨#[c]⟩) ∧ cs.length = i ∧ im = [] ∧ ∀ c ∈ cs, c = 97 ∨ c = 98 ∨ c = 99) [] (fun _ h => nomatch h) ⟨[], .nil, rfl, rfl, fun _ h => nomatch h⟩ ?_ ?_
  · rintro i v ys im own C h tk m hv ⟨cs, hcs, hlen, rfl, hc⟩ hC hm F N hap
    obtain ⟨n, u, _, rfl⟩ := ints_get hns hv
    refine ifs_nil ?_
    k_steps
    obtain ⟨c, e, hcc⟩ := abc_at n
    rw [e]
    exact ⟨_, _, _, _, [], rfl, F, N, (fun p hp => List.mem_append_left _ hp), (fun p hp => nomatch hp), (fun _ _ _ h => nomatch h), cs ++ [c], by rw [List.map_append]; exact hcs.append' (.cons _ _ .nil), by rw [List.length_append, hlen]; rfl, rfl, fun x hx => (List.mem_append.mp hx).elim (hc x) fun q => by rw [List.mem_singleton.mp q]; exact hcc⟩
  · rintro D1 ys1 k1 im1 h1 tk1 hD0 hD1 hk1 him ⟨cs, hcs, hlen, rfl, hc⟩
    have F1 := F.keeps hk1
    have N1 := new_news F N hk1 hD1 hD0
    k_steps
    refine join_list (ys := cs.map fun c => ⟨#[c]⟩) (isList_of hD1) hcs ?_ ?_
    · rw [List.map_map, show ((fun x : Str => x.length) ∘ fun c : Nat => (⟨#[c]⟩ : Str)) = fun _ => 1 from rfl, List.length_map]
      rw [List.map_const', List.sum_replicate_nat, hlen, hns.length, h6]
      decide
    intro t' tk'
    rw [join_abc]
    refine cell_at (pre := [(D1, listOf ys1.toArray k1), (D, listOf ys.toArray n)]) F1 N1 ?_ hnn hoc ?_ rfl rfl rfl
    · intro p hp
      simp only [List.mem_cons, List.not_mem_nil, or_false] at hp
      rcases hp with rfl | rfl
      · intro q
        have := (N (L + 1, oc) (.tail _ (.head _))).1
        dsimp only at q hD0
        rw [← q, hD0] at this
        cases this
      · exact hD
    intro h2 oc2 F2 N2 ho2
    dsimp only
    k_steps
    exact k _ _ _ _ _ F2 (fun p hp => N2 p (.tail _ (.tail _ hp))) ho2 (by simp [hlen, hns.length, h6]) (by simpa using hc)
end

theorem calm_LC : True := by w_top off; trivial
theorem enterG {prog : Program} {w : World} {A : Around} {s : Shared} {K : Frag} {p : Program} {loose : List Str} {mean : ExcName → Option Value} {mg mb : Str → Option Value} {g : Heap} {nw : List (Addr × Obj)}
    {R : Result → Shared → Prop} {name qual : Str} {params : Arguments} {body : List Stmt} {scope : Scope} {dV kV doc pm cdv ct oc : Value} {an od : Option Addr} {osl : Array (Option Value)} {f : Addr} {args : Args} {binds : List (Str × Value)}
    (X : K.In g) (T : Top p loose mean mg mb g) (hg : ∀ b o, g.get? b = some o → s.heap.get? b = some o) (hgs : g.objs.size ≤ s.heap.objs.size) (hnw : ∀ p ∈ nw, s.heap.get? p.1 = some p.2 ∧ g.get? p.1 = none)
    (ho : K.lookup f = some ⟨oc, od, .func (fnOf name qual params body scope dV kV doc pm an cdv ct), osl⟩) (hcd : codeIn K cdv qual = true) (hroom : A.depth < recursionLimit)
    (hbind : BindsTo s (fnOf name qual params body scope dV kV doc pm an cdv ct) args binds) (hloc : ∀ y ∈ binds, scope.names.lookup y.1 = some .local)
    (h : ∀ L' h₁, Fr g L' h₁ (fun y => binds.reverse.lookup y) → News g L' h₁ nw → 
      wpAny (model prog w) (A.deeper (envOf qual scope L' f cdv)) (execs body (envOf qual scope L' f cdv))
        (fun fl s' => R (.ok (.ret (match fl with | .ret v => v | _ => .none))) s') (fun _ _ => False)
        { s with heap := h₁, toks := s.toks + binds.length })
    (hco : scope.isCoroutine = false) (hgen : scope.isGenerator = false) (hk : scope.kind = .function)
    (hcell : ∀ x ∈ scope.names, x.2 ≠ .cell) : codeAny (model prog w) A (.call (.ref f) args) R s := by
  refine codeAny_call_def (fd := fnOf name qual params body scope dV kV doc pm an cdv ct) (body := body) (binds := binds) hroom (hg _ _ (X _ _ ho)) rfl (T.nolimit.keeps hg) (codeRec_of (X.keeps hg) hcd) rfl hbind hcell hloc (fun h₁ hns hk₁ => ?_) hco hgen hk
  refine wpAny_mono (h s.heap.objs.size h₁ ⟨hns, fun b o e => hk₁ b o (hg b o e), hgs⟩ ?_) (fun fl s' hl => hl) fun _ _ y => y.elim
  intro q hq
  obtain ⟨a, b⟩ := hnw q hq
  exact ⟨hk₁ _ _ a, Nat.ne_of_lt (Heap.lt_size a), b⟩
section
variable {w : World} {loose : List Str} {mean : ExcName → Option Value} {mg mb : Str → Option Value} {A : Around} {s : Shared} {h₀ : Heap} {L f : Addr} {cdv : Value} {m : Str → Option Value} {news : List (Addr × Obj)} {Q : Flow → Shared → Prop} {E : Value → Shared → Prop}
theorem st0 {l : Addr} {vs : List Value} {ns : List Int} (X : (hd.heap_39 w.params).In h₀) (T : Top hd.view_39 loose mean mg mb h₀) (S : Sm A 30) (F : Fr h₀ L s.heap m)
    (N : News h₀ L s.heap news) (hl : h₀.IsList l vs.toArray) (hv : IntsAre vs ns) (hm : m (PySem.Str.ofString "script") = some (.ref l)) (hz : vs.toArray.size ≤ sizeLine)
    (k : ∀ D ys ns' n h' tk m', Fr h₀ L h' m' → News h₀ L h' ((D, listOf ys.toArray n) :: news) → m' (PySem.Str.ofString "drawn") = some (.ref D) → IntsAre ys ns' → ns'.length ≤ 6 → Q .next { s with heap := h', toks := tk }) :
  wpAny (model PySem.Challenge.rw_tc0036_01.row.prog w) A (exec (lawStmt 0) (envOfC (PySem.Str.ofString "law") lawScope L f cdv)) Q E s := by
  obtain ⟨hz, dp, fr, gd, un⟩ := A
  obtain rfl : hz = none := S.hh
  walk_at "m law"
  k_steps
  walk_at "m compA"
  k_steps
  unfold Hold
  rename Fr _ _ _ _ => F1
  rename News _ _ _ _ => N1
  rename IntsAre _ (List.take 6 _) => hI1
  refine' comp_listA rfl rfl rfl F1 N1 (News.isList N1 (.head _)) (by rw [hI1.length, List.length_take]; omega) (fun _ _ e => e) (Nat.le_refl _) ?hce ?hki ?hxx (fun i ys im => ∃ ns, IntsAre ys ns ∧ ns.length = i ∧ im = []) [] (fun _ h => nomatch h) ⟨[], .nil, rfl, rfl⟩ ?tu ?dn
  case hce => decide
  case hki => rfl
  case hxx => rfl
  · rintro i v ys im own C h tk m hv ⟨ns, hns, hlen, rfl⟩ hC hm F N hap
    obtain ⟨n, u, _, rfl⟩ := ints_get hI1 hv
    have X9 := X.keeps F1.keep
    have T9 := T.keeps F1.keep
    clear F1 N1
    refine ifs_nil ?_
    k_steps
    rename Fr _ _ _ _ => F2
    rename News _ _ _ _ => N2
    exact ⟨_, _, _, _, [], rfl, F2, N2, (fun p hp => List.mem_append_left _ hp), (fun p hp => nomatch hp), (fun _ _ _ h => nomatch h), _, hns.append (.cons _ _ .nil), by rw [List.length_append, hlen]; rfl, rfl⟩
  · rintro D1 ys1 k1 im1 h1 tk1 F2 N2 o1 o2 ⟨ns, hns, hlen, rfl⟩
    exact k D1 ys1 ns k1 h1 _ _ F2 (fun p hp => N2 p (by
      rcases List.mem_cons.mp hp with q | q
      · exact q ▸ .head _
      · exact .tail _ (.tail _ q))) rfl hns (by rw [hlen, hI1.length, List.length_take]; omega)
theorem st3 {oc : Obj} {cv : Option Value} (X : (hd.heap_39 w.params).In h₀) (T : Top hd.view_39 loose mean mg mb h₀) (S : Sm A 30) (F : Fr h₀ L s.heap m)
    (N : News h₀ L s.heap ((L + 2, oc) :: news)) (hoc : oc.data = .cell cv) (hnn : ∀ p ∈ news, p.1 ≠ L + 2)
    (k : ∀ x dx tl n hsh tk es oc' h' tk', Fr h₀ L h' m → News h₀ L h' ((tl, listOf #[] 0) :: (x, instObj 231 dx) :: (dx, es) :: (L + 2, oc') :: news) → oc'.data = .cell (some (.ref x)) → 
      es = dictOf [⟨hsh, .str (PySem.Str.ofString "_headers") tk, .ref tl⟩] n → (∀ p ∈ (x, instObj 231 dx) :: (dx, es) :: (L + 2, oc') :: news, p.1 ≠ tl) → Q .next { s with heap := h', toks := tk' }) :
  wpAny (model PySem.Challenge.rw_tc0036_01.row.prog w) A (exec (lawStmt 3) (envOfC (PySem.Str.ofString "law") lawScope L f cdv)) Q E s := by
  obtain ⟨hz, dp, fr, gd, un⟩ := A
  obtain rfl : hz = none := S.hh
  walk_at "m law"
  k_steps
  refine' call_cls F X N ?k4 ?k5 ?k6 ?_
  case k4 => k_is
  case k5 => k_is
  case k6 => k_is
  intro x dx h1 F1 N1 l1 l2
  k_lt l1
  k_lt2 l2
  have l3 : @LT.lt Nat _ L dx := Nat.lt_of_le_of_lt (Nat.le_add_right L 2) l1.1
  obtain ⟨oL, a1, a2, hoL, a3⟩ := F1.ns
  have hL0 : h₀.get? L = none := by
    cases e : h₀.get? L with
    | none => rfl
    | some o => exact absurd (Heap.lt_size e) (Nat.not_lt.mpr F1.above)
  have hgs : h₀.objs.size ≤ h1.objs.size := Nat.le_of_lt (Nat.lt_of_le_of_lt F1.above (Heap.lt_size hoL))
  clear F N
  refine' enterG (g := h₀) (nw := (x, instObj 231 dx) :: (dx, dictOf [] 0) :: (L, oL) :: (L + 2, oc) :: news) X T F1.keep hgs ?gnw ?g6 ?g7 ?g8 ?gB ?gC ?_ ?d2 ?d3 ?d4 ?d5
  case gnw =>
    intro p hp
    simp only [List.mem_cons] at hp
    rcases hp with rfl | rfl | rfl | rfl | hp
    · exact ⟨(N1 _ (.head _)).1, (N1 _ (.head _)).2.2⟩
    · exact ⟨(N1 _ (.tail _ (.head _))).1, (N1 _ (.tail _ (.head _))).2.2⟩
    · exact ⟨hoL, hL0⟩
    · exact ⟨(N1 _ (.tail _ (.tail _ (.head _)))).1, (N1 _ (.tail _ (.tail _ (.head _)))).2.2⟩
    · exact ⟨(N1 _ (.tail _ (.tail _ (.tail _ hp)))).1, (N1 _ (.tail _ (.tail _ (.tail _ hp)))).2.2⟩
  case g6 => k_is
  case g7 => k_is
  case g8 =>
    have := S.hd
    show dp + 1 < recursionLimit
    simp only [recursionLimit]
    dsimp only at this
    omega
  case gB => exact binds_K (by k_in) rfl (by k_is) rfl rfl rfl
  case gC => exact locs rfl
  case d2 => exact rfl
  case d3 => exact rfl
  case d4 => exact rfl
  case d5 => decide
  intro L2 h2 F2 N2
  have hab := F1.above
  have hnL : ∀ p ∈ (x, instObj 231 dx) :: (dx, dictOf [] 0) :: (L + 2, oc) :: news, p.1 ≠ L := fun p hp => (N1 p hp).2.1
  clear F1 N1
  dsimp only
  k_steps
  unfold Hold
  refine wpAny_For ?_ (by intro _; with_unfolding_all rfl)
  k_steps
  unfold Hold
  rename Fr _ _ _ _ => F3
  rename News _ _ _ _ => N3
  refine iter_none rfl (News.isList N3 (.head _)) F3 N3 ?_
  intro h3 tk3 F4 N4
  clear F3 N3
  dsimp only
  k_steps
  refine ⟨rfl, ?_⟩
  dsimp only
  rename_i tl _ l4 _ tk2 _
  have F5 : Fr h₀ L h3 m := ⟨⟨oL, a1, a2, (N4 (L, oL) (.tail _ (.tail _ (.tail _ (.head _))))).1, a3⟩, F4.keep, hab⟩
  have N5 : News h₀ L h3 ([(tl, listOf #[] 0), (x, instObj 231 dx), (dx, dictOf [⟨PyData.keyHash w.params (PySem.Str.ofString "_headers"), .str (PySem.Str.ofString "_headers") (tk2 + 1), .ref tl⟩] 1)] ++ (L + 2, oc) :: news) := by
    intro p hp
    simp only [List.cons_append, List.nil_append, List.mem_cons] at hp
    rcases hp with rfl | rfl | rfl | rfl | hp
    · have z := N4 _ (.head _)
      exact ⟨z.1, Nat.ne_of_gt l4.2.2.1, z.2.2⟩
    · have z := N4 _ (.tail _ (.head _))
      exact ⟨z.1, Nat.ne_of_gt (Nat.lt_trans l3 l2), z.2.2⟩
    · have z := N4 _ (.tail _ (.tail _ (.head _)))
      exact ⟨z.1, Nat.ne_of_gt l3, z.2.2⟩
    · have z := N4 _ (.tail _ (.tail _ (.tail _ (.tail _ (.head _)))))
      exact ⟨z.1, hnL _ (.tail _ (.tail _ (.head _))), z.2.2⟩
    · have z := N4 _ (.tail _ (.tail _ (.tail _ (.tail _ (.tail _ hp)))))
      exact ⟨z.1, hnL _ (.tail _ (.tail _ (.tail _ hp))), z.2.2⟩
  refine cell_at F5 N5 ?_ hnn hoc ?_ rfl rfl rfl
  · intro p hp
    simp only [List.mem_cons, List.not_mem_nil, or_false] at hp
    rcases hp with rfl | rfl | rfl
    · exact Nat.ne_of_gt l4.2.2.2.1
    · exact Nat.ne_of_gt (Nat.lt_trans l1.1 l2)
    · exact Nat.ne_of_gt l1.1
  intro h4 oc4 F6 N6 ho4
  refine k x dx tl _ _ _ _ oc4 h4 _ F6 N6 ho4 rfl ?_
  intro p hp
  simp only [List.mem_cons] at hp
  rcases hp with rfl | rfl | rfl | hp
  · exact Nat.ne_of_lt l4.1
  · exact Nat.ne_of_lt l4.2.1
  · exact Nat.ne_of_lt l4.2.2.2.1
  · exact Nat.ne_of_lt (allLt_mem _ l4.2.2.2.2 p hp)
end

theorem calm_LD : True := by w_top off; trivial
local macro_rules | `(tactic| walk_at "call ref cons nil") => `(tactic| ((with_reducible show wpAny _ _ (call (Value.ref 249) [Value.str _ _, Value.ref _]) _ _ _); refine hold ?_))
def PrsL (led : List (Addr × Obj)) : List Value → List (Str × Str) → Prop
  | [], [] => True
  | v :: vs, p :: ps => (∃ a t u n, v = .ref a ∧ (a, (⟨.type "tuple", none, .seq #[.str p.1 t, .str p.2 u] n, #[]⟩ : Obj)) ∈ led) ∧ PrsL led vs ps
  | _, _ => False
local macro_rules | `(tactic| walk_at "m none") => `(tactic| fail "none")
theorem PrsL.mono {led led' : List (Addr × Obj)} (h : ∀ p ∈ led, p ∈ led') : ∀ {vs : List Value} {ps : List (Str × Str)}, PrsL led vs ps → PrsL led' vs ps
  | [], [], _ => trivial
  | _ :: _, _ :: _, ⟨⟨a, t, u, n, e, q⟩, r⟩ => ⟨⟨a, t, u, n, e, h _ q⟩, r.mono h⟩
theorem PrsL.prs {led : List (Addr × Obj)} {h : Heap} (hl : ∀ p ∈ led, h.get? p.1 = some p.2) : ∀ {vs : List Value} {ps : List (Str × Str)}, PrsL led vs ps → Prs h vs ps
  | [], [], _ => trivial
  | _ :: _, _ :: _, ⟨⟨a, t, u, n, e, q⟩, r⟩ => ⟨⟨a, t, u, n, e, hl _ q⟩, r.prs hl⟩
theorem PrsL.grow {led : List (Addr × Obj)} {h h' : Heap} (hl : ∀ p ∈ led, h'.get? p.1 = some p.2) : ∀ {vs ws : List Value} {ps qs : List (Str × Str)}, PrsL led vs ps → Prs h' (vs ++ ws) qs → (∀ v ∈ ws, ∃ a, v = .ref a ∧ h.get? a = none) →
    ∃ tps, PrsL (tps ++ led) (vs ++ ws) qs ∧ ∀ p ∈ tps, h'.get? p.1 = some p.2 ∧ h.get? p.1 = none
  | [], [], [], [], _, _, _ => ⟨[], trivial, fun _ h => nomatch h⟩
  | [], _ :: ws, [], q :: qs, _, ⟨⟨a, t, u, n, e, g⟩, r⟩, hn => by
    obtain ⟨tps, h1, h2⟩ := PrsL.grow (h := h) hl (vs := []) (ws := ws) (ps := []) trivial r fun v hv => hn v (.tail _ hv)
    obtain ⟨a', e', g'⟩ := hn _ (.head _)
    rw [e] at e'
    cases e'
    refine ⟨(a, _) :: tps, ⟨⟨a, t, u, n, e, .head _⟩, h1.mono fun p hp => .tail _ hp⟩, fun p hp => ?_⟩
    rcases List.mem_cons.mp hp with rfl | hp
    · exact ⟨g, g'⟩
    · exact h2 p hp
  | v :: vs, ws, p :: ps, q :: qs, ⟨⟨a, t, u, n, e, m⟩, r⟩, ⟨⟨a', t', u', n', e', g⟩, r'⟩, hn => by
    obtain ⟨tps, h1, h2⟩ := PrsL.grow (h := h) hl r r' hn
    refine ⟨tps, ⟨⟨a', t', u', n', e', ?_⟩, h1⟩, h2⟩
    rw [e] at e'
    cases e'
    have e2 := Option.some.inj (g.symm.trans (hl _ m))
    rw [e2]
    exact List.mem_append_right _ m
theorem hide_fr {h₀ h : Heap} {L D : Addr} {m : Str → Option Value} {o : Obj} (F : Fr h₀ L h m) (z : h.get? D = some o ∧ D ≠ L ∧ h₀.get? D = none) : Fr h₀ L (h.hide D) m :=
  But.fr (fun _ _ n e => (Heap.hide_ne h n).trans e) F z.2.1 z.2.2
theorem hide_news {h₀ h : Heap} {L D : Addr} {news : List (Addr × Obj)} (N : News h₀ L h news) (hn : ∀ p ∈ news, p.1 ≠ D) : News h₀ L (h.hide D) news :=
  fun p hp => ⟨(Heap.hide_ne h (hn p hp)).trans (N p hp).1, (N p hp).2⟩
theorem hide_mono {h h' : Heap} {D : Addr} (hk : ∀ b o, h.get? b = some o → h'.get? b = some o) : ∀ b o, (h.hide D).get? b = some o → (h'.hide D).get? b = some o := fun b o e => by
  by_cases q : b = D
  · subst q; rw [Heap.hide_self] at e; cases e
  · exact (Heap.hide_ne h' q).trans (hk b o ((Heap.hide_ne h q).symm.trans e))
theorem noted_at {w : World} {loose : List Str} {mean : ExcName → Option Value} {mg mb : Str → Option Value} {A : Around} {s : Shared} {g : Heap} {C : Addr} {m : Str → Option Value} {Q E : Value → Shared → Prop} {own led : List (Addr × Obj)} {vs ys : List Value} {n i : Nat} {x tl : Addr} {l : List Nat} {t : Tok}
    (F : Fr g C s.heap m) (N : News g C s.heap (own ++ (tl, listOf vs.toArray n) :: led)) (hap : ∀ p ∈ own, ∀ q ∈ (tl, listOf vs.toArray n) :: led, p.1 ≠ q.1) (hgt : g.get? tl = none) (X : (hd.heap_39 w.params).In g) (T : Top hd.view_39 loose mean mg mb g) (S' : Sm A 20) (I : Hdr g x tl)
    (hpr : PrsL led vs (tabTo l i)) (hys : AllI (CutI led) ys ((List.range i).map (heapTo l))) (hlt : ∀ p ∈ led, p.1 ≠ tl) (hi : i ≤ 6) (h6 : l.length = 6) (hab : Ab l)
    (k : ∀ r h' tk, TurnEnd g C s own (fun im _ => ∃ vs n led, im = (tl, listOf vs.toArray n) :: led ∧ PrsL led vs (tabTo l (i + 1)) ∧ AllI (CutI led) (ys ++ [.ref r]) ((List.range (i + 1)).map (heapTo l)) ∧ ∀ p ∈ led, p.1 ≠ tl) { s with heap := h', toks := tk } → Q (.ref r) { s with heap := h', toks := tk }) :
    wpAny (model PySem.Challenge.rw_tc0036_01.row.prog w) A (call (.ref 249) [.str (S (l.take i)) t, .ref x]) Q E s := by
  have zt := N (tl, listOf vs.toArray n) (List.mem_append_right _ (.head _))
  have kk := hide_in F.keep hgt
  have hledk : ∀ p ∈ led, (s.heap.hide tl).get? p.1 = some p.2 := fun p hp => (Heap.hide_ne s.heap (hlt p hp)).trans (N p (List.mem_append_right _ (.tail _ hp))).1
  have hok := ls_ok (hab.take i)
  have htl := tabTo_len l i
  have hmul : i * 6 ≤ 36 := by omega
  rw [h6] at htl
  have hlen : (S (l.take i)).length ≤ 6 := by rw [S_len, List.length_take]; omega
  refine noted_spec (X.keeps kk) (T.keeps kk) S' (I.keep kk) zt.1 (hpr.prs hledk) (by omega) (fun p hp => (tabTo_mem hab i p hp).1) hok.2.2.2.2 (fun r ps vs' n' h' tk B hr hrn hrt hps htl' hprs hnt => ?_) (by omega) (hab.take i).S
    (by rw [slice_last]; rfl) (by rw [slice_last]; rfl) hok.1 hok.2.1 hok.2.2.1 hok.2.2.2.1
  obtain ⟨k0, hr⟩ := hr
  obtain ⟨ws, rfl, hws⟩ := hnt
  rw [S_list] at hps hprs
  have hB : ∀ b o, b ≠ tl → s.heap.get? b = some o → h'.get? b = some o := B
  have hledk' : ∀ p ∈ led, (h'.hide tl).get? p.1 = some p.2 := fun p hp => (Heap.hide_ne h' (hlt p hp)).trans (hB _ _ (hlt p hp) (N p (List.mem_append_right _ (.tail _ hp))).1)
  obtain ⟨tps, hp1, hp2⟩ := PrsL.grow (h := s.heap) hledk' hpr hprs hws
  obtain ⟨oC, _, _, hoC, _⟩ := F.ns
  have fresh : ∀ a, s.heap.get? a = none → a ≠ C ∧ g.get? a = none := fun a ha => by
    refine ⟨fun q => ?_, ?_⟩
    · rw [q, hoC] at ha
      cases ha
    · cases e : g.get? a with
      | none => rfl
      | some o => rw [F.keep _ _ e] at ha; cases ha
  have tpt : ∀ p ∈ tps, p.1 ≠ tl := fun p hp q => by have := (hp2 p hp).1; rw [q, Heap.hide_self] at this; cases this
  refine k r h' tk ⟨h', tk, m, own ++ (tl, listOf (vs ++ ws).toArray n') :: (r, listOf ps.toArray k0) :: (tps ++ led), (tl, listOf (vs ++ ws).toArray n') :: (r, listOf ps.toArray k0) :: (tps ++ led), rfl, B.fr F zt.2.1 hgt, ?_, fun p hp => List.mem_append_left _ hp, fun p hp => List.mem_append_right _ hp, ?_,
    vs ++ ws, n', (r, listOf ps.toArray k0) :: (tps ++ led), rfl, hp1.mono fun p hp => .tail _ hp, ?_, ?_⟩
  · intro p hp
    rcases List.mem_append.mp hp with hp | hp
    · have z := N p (List.mem_append_left _ hp)
      exact ⟨hB _ _ (hap p hp _ (.head _)) z.1, z.2⟩
    rcases List.mem_cons.mp hp with rfl | hp
    · exact ⟨htl', zt.2⟩
    rcases List.mem_cons.mp hp with rfl | hp
    · exact ⟨hr, fresh _ hrn⟩
    rcases List.mem_append.mp hp with hp | hp
    · exact ⟨Heap.of_hide (hp2 p hp).1, fresh _ (hp2 p hp).2⟩
    · have z := N p (List.mem_append_right _ (.tail _ hp))
      exact ⟨hB _ _ (hlt p hp) z.1, z.2⟩
  · intro p hp q hq e
    have z := (N p (List.mem_append_left _ hp)).1
    rcases List.mem_cons.mp hq with rfl | hq
    · exact hap p hp _ (.head _) e
    rcases List.mem_cons.mp hq with rfl | hq
    · rw [e] at z; rw [hrn] at z; cases z
    rcases List.mem_append.mp hq with hq | hq
    · rw [e, (hp2 q hq).2] at z; cases z
    · exact hap p hp q (.tail _ hq) e
  · rw [List.range_succ, List.map_append]
    exact cut_more (hys.imp fun _ _ => CutI.mono fun p hp => List.mem_append_right _ hp) hps
  · intro p hp
    rcases List.mem_cons.mp hp with rfl | hp
    · exact hrt
    rcases List.mem_append.mp hp with hp | hp
    · exact tpt p hp
    · exact hlt p hp
section
variable {w : World} {loose : List Str} {mean : ExcName → Option Value} {mg mb : Str → Option Value} {A : Around} {s : Shared} {h₀ : Heap} {L f : Addr} {cdv : Value} {m : Str → Option Value} {news : List (Addr × Obj)} {Q : Flow → Shared → Prop} {E : Value → Shared → Prop}
theorem st4 {l : List Nat} {t : Tok} {o1 o2 : Obj} {x tl : Addr} (X : (hd.heap_39 w.params).In h₀) (T : Top hd.view_39 loose mean mg mb h₀) (S' : Sm A 30) (F : Fr h₀ L s.heap m)
    (N : News h₀ L s.heap ((tl, listOf #[] 0) :: (L + 1, o1) :: (L + 2, o2) :: news)) (h1 : o1.data = .cell (some (.str (S l) t))) (h2 : o2.data = .cell (some (.ref x))) (hx : Hdr (s.heap.hide tl) x tl)
    (hnn : ∀ p ∈ (L + 1, o1) :: (L + 2, o2) :: news, p.1 ≠ tl) (h6 : l.length = 6) (hab : Ab l)
    (k : ∀ D ys kD vs n led h' tk m', Fr h₀ L h' m' → News h₀ L h' ((D, listOf ys.toArray kD) :: (tl, listOf vs.toArray n) :: (led ++ (L + 1, o1) :: (L + 2, o2) :: news)) → m' (PySem.Str.ofString "heaps") = some (.ref D) →
      AllI (CutI led) ys ((List.range 7).map (heapTo l)) → PrsL led vs (tabTo l 7) →
      (∀ p ∈ (D, listOf ys.toArray kD) :: (tl, listOf vs.toArray n) :: led, ∀ q ∈ (L + 1, o1) :: (L + 2, o2) :: news, p.1 ≠ q.1) → Q .next { s with heap := h', toks := tk }) :
  wpAny (model PySem.Challenge.rw_tc0036_01.row.prog w) A (exec (lawStmt 4) (envOfC (PySem.Str.ofString "law") lawScope L f cdv)) Q E s := by
  obtain ⟨hz, dp, fr, gd, un⟩ := A
  obtain rfl : hz = none := S'.hh
  walk_at "m law"
  k_steps
  walk_at "m compA"
  k_steps
  unfold Hold
  rename Fr _ _ _ _ => F1
  rename News _ _ _ _ => N1
  rename IsRange _ _ _ _ _ _ _ _ => hr
  obtain ⟨r1, r2⟩ := rng (n := 7) (a := 0) (b := 7) (by decide) (by decide) (by omega) (by decide)
  rename_i hA _ _ _ _ hk0
  have Fg : Fr h₀ L (Heap.hide hA tl) m := hide_fr F1 (N1 _ (.head _))
  have Ng : News h₀ L (Heap.hide hA tl) _ := hide_news (D := tl) (fun p hp => N1 p (.tail _ hp)) hnn
  have hI := Hdr.keep hx (hide_mono (D := tl) hk0)
  refine' comp_rangeA rfl rfl rfl Fg Ng hr r1 r2 ?hsz (fun b o e => Heap.of_hide e) ?hgs ?hce ?hki ?hxx (fun i ys im _ => ∃ vs n led, im = (tl, listOf vs.toArray n) :: led ∧ PrsL led vs (tabTo l i) ∧ AllI (CutI led) ys ((List.range i).map (heapTo l)) ∧ (∀ p ∈ led, p.1 ≠ tl)) (fun _ _ _ _ _ h _ => h) [(tl, listOf #[] 0)] ?hN0
     ⟨[], 0, [], rfl, trivial, .nil, fun _ h => nomatch h⟩ ?tu ?dn
  case hsz => decide
  case hgs => exact Nat.le_of_eq (Heap.hide_size _ _)
  case hce => decide
  case hki => rfl
  case hxx => rfl
  case hN0 =>
    intro p hp
    rw [List.mem_singleton.mp hp]
    exact ⟨(N1 _ (.head _)).1, Heap.hide_self hA _⟩
  · rintro i u ys im own C h tk m hi ⟨vs, n, led, rfl, hpr, hys, hlt⟩ hC hm F N hap
    rw [Int.zero_add] at hm
    have X9 := X.keeps Fg.keep
    have T9 := T.keeps Fg.keep
    have hg1 : (Heap.hide hA tl).get? (L + 1) = some o1 := (Ng _ (.head _)).1
    have hg2 : (Heap.hide hA tl).get? (L + 2) = some o2 := (Ng _ (.tail _ (.head _))).1
    have hgt : (Heap.hide hA tl).get? tl = none := Heap.hide_self hA _
    generalize Heap.hide hA tl = g at *
    obtain ⟨y, hy⟩ : ∃ y, y = S l := ⟨_, rfl⟩
    rw [← hy] at h1
    have hyl : y.length ≤ 6 := by rw [hy, S_len, h6]; decide
    clear F1 N1 Fg Ng
    refine ifs_nil ?_
    k_steps
    unfold Hold
    rename Fr g _ _ _ => F2
    rename News g _ _ _ => N2
    rw [hy, slice_take (by omega)]
    refine noted_at F2 N2 hap hgt X9 T9 (Sm.mono S' (by decide)) hI hpr hys hlt (by omega) h6 hab fun r h' tk hte => ?_
    dsimp only
    exact hte
  · rintro D1 ys1 k1 im1 h1 tk1 F2 N2 d1 d2 ⟨tk', _, vs, n, led, rfl, hpr, hys, hlt⟩
    exact k D1 ys1 k1 vs n led h1 _ _ F2 N2 rfl hys hpr fun p hp q hq => by
      rcases List.mem_cons.mp hp with rfl | hp
      · exact (d1 q (List.mem_append_right _ hq)).symm
      · exact d2 p hp q hq
end

theorem calm_LE : True := by w_top off; trivial
local macro_rules | `(tactic| walk_at "call ref cons nil") => `(tactic| ((with_reducible show wpAny _ _ (call (Value.ref 263) [Value.str _ _, Value.ref _]) _ _ _); refine hold ?_))
local macro_rules | `(tactic| walk_at "subscriptTail Name Name ref int") => `(tactic| refine hold ?_)
local macro_rules | `(tactic| walk_at "subscriptTail Name BinOp ref int") => `(tactic| refine hold ?_)
local macro_rules | `(tactic| walk_at "compareOp NotEq ref ref") => `(tactic| refine hold ?_)
theorem news_at {h₀ h : Heap} {L a : Addr} {o : Obj} {im : List (Addr × Obj)} (N : News h₀ L h im) (i : (a, o) ∈ im) : h.get? a = some o := (N _ i).1
local macro_rules | `(tactic| walk_at "m mem") => `(tactic| repeat (first | assumption | refine List.Mem.tail _ ?_))
local macro_rules | `(tactic| walk_at "eval Name") => `(tactic| (k_here; k_dflt (refine' nmC rfl ?o ?c ?_ ?k ?x ?d; (case k => rfl); (case x => rfl); (case d => decide); (case o => refine' news_at ?N ?i; (case N => k_asm); (case i => walk_at "m mem")); (case c => assumption))))
local macro_rules | `(tactic| walk_at "binaryOp Add ref ref") => `(tactic| refine hold ?_)
theorem last_at {w : World} {loose : List Str} {mean : ExcName → Option Value} {mg mb : Str → Option Value} {A : Around} {s : Shared} {h₀ : Heap} {L : Addr} {m : Str → Option Value} {Q E : Value → Shared → Prop} {im : List (Addr × Obj)} {vs : List Value} {i : Nat} {x tl : Addr} {l : List Nat} {t : Tok}
    (F : Fr h₀ L s.heap m) (N : News h₀ L s.heap im) (X : (hd.heap_39 w.params).In h₀) (T : Top hd.view_39 loose mean mg mb h₀) (S' : Sm A 20) (I : Hdr s.heap x tl) (hl : s.heap.IsList tl vs.toArray) (hp : Prs s.heap vs (tabTo l 7)) (h6 : l.length = 6) (hab : Ab l)
    (k : ∀ t h' tk, Fr h₀ L h' m → News h₀ L h' im → Q (.str (lastTo l i) t) { s with heap := h', toks := tk }) :
    wpAny (model PySem.Challenge.rw_tc0036_01.row.prog w) A (call (.ref 263) [.str (S (l.take i)) t, .ref x]) Q E s := by
  have hok := ls_ok (hab.take i)
  have htl := tabTo_len l 7
  rw [h6] at htl
  refine last_spec (low := Txt.lower (ls (l.take i))) (X.keeps F.keep) (T.keeps F.keep) S' I hl hp (by omega) (fun p hp => (tabTo_mem hab 7 p hp).1) (by rw [slice_last]; rfl) hok.2.2.1 hok.1 (by rw [S_len, List.length_take]; omega) (fun wd hwd => ?_) fun t h' tk hk => k t h' tk (F.keeps hk) (N.grown hk)
  obtain ⟨p, hp, rfl⟩ := getAll_mem hwd
  obtain ⟨_, a, b, c⟩ := tabTo_mem hab 7 p hp
  exact ⟨by omega, by simp; omega, c⟩
theorem get_heap {led : List (Addr × Obj)} {ys : List Value} {l : List Nat} (hys : AllI (CutI led) ys ((List.range 7).map (heapTo l))) {j : Nat} (hj : j ≤ 6) :
    ∃ a ps k0, ys[j]? = some (.ref a) ∧ (a, listOf ps.toArray k0) ∈ led ∧ StrsAre ps (heapTo l j) := by
  have e : ((List.range 7).map (heapTo l))[j]? = some (heapTo l j) := by rw [List.getElem?_map, List.getElem?_range (by omega)]; rfl
  obtain ⟨v, e1, a, ps, k0, rfl, m1, s1⟩ := hys.getA e
  exact ⟨a, ps, k0, e1, m1, s1⟩
theorem heapTo_len (l : List Nat) (n : Nat) : (heapTo l n).length ≤ l.length := by
  unfold heapTo
  refine Nat.le_trans (tot_up _).2 ?_
  rw [List.length_reverse, List.length_take]
  omega
section
variable {w : World} {loose : List Str} {mean : ExcName → Option Value} {mg mb : Str → Option Value} {A : Around} {s : Shared} {h₀ : Heap} {L f : Addr} {cdv : Value} {m : Str → Option Value} {im : List (Addr × Obj)} {Q : Flow → Shared → Prop} {E : Value → Shared → Prop}
theorem st5 {l : List Nat} {t : Tok} {o1 o2 : Obj} {x tl D : Addr} {ys vs : List Value} {kD n : Nat} {led : List (Addr × Obj)} (X : (hd.heap_39 w.params).In h₀) (T : Top hd.view_39 loose mean mg mb h₀) (S' : Sm A 30) (F : Fr h₀ L s.heap m)
    (N : News h₀ L s.heap im) (i1 : (L + 1, o1) ∈ im) (i2 : (L + 1 + 1, o2) ∈ im) (iD : (D, listOf ys.toArray kD) ∈ im) (it : (tl, listOf vs.toArray n) ∈ im) (il : ∀ p ∈ led, p ∈ im) (hx : HdrI im x tl)
    (h1 : o1.data = .cell (some (.str (S l) t))) (h2 : o2.data = .cell (some (.ref x))) (hm : m (PySem.Str.ofString "heaps") = some (.ref D)) (h6 : l.length = 6) (hab : Ab l)
    (hys : AllI (CutI led) ys ((List.range 7).map (heapTo l))) (hpr : PrsL led vs (tabTo l 7))
    (law : ∀ i, 1 ≤ i → i ≤ 6 → (lastTo l i).length ≤ i ∧ heapTo l i = heapTo l (i - (lastTo l i).length) ++ [lastTo l i])
    (k : ∀ h' tk m', Fr h₀ L h' m' → News h₀ L h' im → m' (PySem.Str.ofString "heaps") = some (.ref D) → Q .next { s with heap := h', toks := tk }) :
  wpAny (model PySem.Challenge.rw_tc0036_01.row.prog w) A (exec (lawStmt 5) (envOfC (PySem.Str.ofString "law") lawScope L f cdv)) Q E s := by
  obtain ⟨hz, dp, fr, gd, un⟩ := A
  obtain rfl : hz = none := S'.hh
  obtain ⟨r1, r2⟩ := rng (n := 6) (a := 1) (b := 7) (by decide) (by decide) (by omega) (by decide)
  walk_at "m law"
  k_steps
  unfold Hold
  refine wpAny_For ?_ (by intro _; with_unfolding_all rfl)
  k_steps
  unfold Hold
  rename Fr _ _ _ _ => F1
  rename News _ _ _ _ => N1
  rename IsRange _ _ _ _ _ _ _ _ => hr
  refine iter_range im rfl hr r1 r2 rfl rfl F1 N1 (fun _ m im' => im' = im ∧ m (PySem.Str.ofString "heaps") = some (.ref D)) ⟨rfl, hm⟩ ?_ ?_
  · rintro I i u m im' oI h tk hi ⟨rfl, hm⟩ hI F N
    clear F1 N1
    obtain ⟨m1, F1, g1, g2⟩ : ∃ m1, Fr h₀ L h m1 ∧ m1 (PySem.Str.ofString "size") = some (.int ((i + 1 : Nat) : Int) u) ∧ m1 (PySem.Str.ofString "heaps") = some (.ref D) :=
      ⟨_, F, by rw [show ((i + 1 : Nat) : Int) = 1 + (i : Int) by omega]; rfl, hm⟩
    clear F
    have N2 : News h₀ L h ((I, oI) :: im') := N
    clear N
    obtain ⟨y, hy⟩ : ∃ y, y = S l := ⟨_, rfl⟩
    rw [← hy] at h1
    have hyl : y.length ≤ 6 := by rw [hy, S_len, h6]; decide
    k_steps
    unfold Hold
    rename Fr _ _ _ _ => F3
    rename News _ _ _ _ => N3
    rw [hy, slice_take (by omega)]
    refine last_at F3 N3 X T (Sm.mono S' (by decide)) ((hx.mono fun p hp => .tail _ hp).hdr N3) (News.isList N3 (.tail _ it)) (hpr.prs fun p hp => (N3 p (.tail _ (il p hp))).1) h6 hab fun t9 h9 tk9 F4 N4 => ?_
    clear F3 N3
    obtain ⟨lw1, lw2⟩ := law (i + 1) (by omega) (by omega)
    generalize hwd : lastTo l (i + 1) = wd at lw1 lw2 ⊢
    dsimp only
    k_steps
    unfold Hold
    rename News _ _ _ _ => N5
    obtain ⟨b1, ps1, k1, e1, p1, q1⟩ := get_heap hys (j := i + 1) (by omega)
    obtain ⟨b2, ps2, k2, e2, p2, q2⟩ := get_heap hys (j := i + 1 - wd.length) (by omega)
    refine item_at (v := .ref b1) (News.isList N5 (.tail _ iD)) (by omega) (by omega) (by rw [Int.toNat_natCast]; exact e1) ?_
    k_steps
    unfold Hold
    rename News _ _ _ _ => N6
    refine item_at (v := .ref b2) (News.isList N6 (.tail _ iD)) (by omega) (by omega) (by rw [show ((((i + 1 : Nat) : Int)) - (wd.length : Int)).toNat = i + 1 - wd.length by omega]; exact e2) ?_
    k_steps
    unfold Hold
    rename News _ _ _ _ => N7
    rename Fr _ _ _ _ => F7
    refine cat_at F7 N7 (News.isList N7 (.tail _ (.tail _ (il _ p2)))) (News.isList N7 (.head _)) (by have := heapTo_len l (i + 1 - wd.length); rw [q2.len_eq]; simp; omega) ?_
    intro r8 h8 F8 N8 l8
    clear F7 N7
    dsimp only
    k_steps
    unfold Hold
    rename News _ _ _ _ => N9
    refine ne_same (d := dS (heapTo l (i + 1))) (reads_S (N9 _ (.tail _ (.tail _ (.tail _ (il _ p1))))).1 q1) (reads_S (N9 _ (.head _)).1 (by rw [lw2]; exact q2.append' (.cons _ _ .nil))) (ok_dS (heap_abS hab _)) (by decide) S' ?_
    k_steps
    exact ⟨h8, _, _, _, im', rfl, F8, N9, (fun p hp => by rw [List.mem_singleton.mp hp]; exact .tail _ (.tail _ (.head _))), (fun p hp => .tail _ (.tail _ (.tail _ hp))), hI, rfl, g2⟩
  · rintro m im' h tk ⟨rfl, hm⟩ F N
    exact k _ _ _ F N hm
end

theorem calm_LF : True := by w_top off; trivial
local macro_rules | `(tactic| walk_at "call ref cons nil") => `(tactic| ((with_reducible show wpAny _ _ (call (Value.ref 188) [Value.ref _]) _ _ _); refine hold ?_))
local macro_rules | `(tactic| walk_at "call ref cons nil") => `(tactic| ((with_reducible show wpAny _ _ (call (Value.ref 268) [Value.str _ _, Value.ref _]) _ _ _); refine hold ?_))
local macro_rules | `(tactic| walk_at "call ref cons nil") => `(tactic| ((with_reducible show wpAny _ _ (call (Value.ref 256) [Value.str _ _]) _ _ _); refine hold ?_))
local macro_rules | `(tactic| walk_at "call ref cons nil") => `(tactic| ((with_reducible show wpAny _ _ (call (Value.ref 73) [Value.ref _, Value.int _ _]) _ _ _); refine hold ?_))
local macro_rules | `(tactic| k_inst) => `(tactic| (refine' InstAt.of_news ?N ?h1 ?h2; (case N => k_asm); (case h1 => walk_at "m mem"); (case h2 => walk_at "m mem")))
section
variable {w : World} {loose : List Str} {mean : ExcName → Option Value} {mg mb : Str → Option Value} {A : Around} {s : Shared} {h₀ : Heap} {L f : Addr} {cdv : Value} {m : Str → Option Value} {im : List (Addr × Obj)} {Q : Flow → Shared → Prop} {E : Value → Shared → Prop}
theorem st6 {l : List Nat} {o2 o3 : Obj} {cv : Option Value} {x tl : Addr} {vs : List Value} {n : Nat} {led : List (Addr × Obj)} (X : (hd.heap_39 w.params).In h₀) (T : Top hd.view_39 loose mean mg mb h₀) (S' : Sm A 30) (F : Fr h₀ L s.heap m)
    (N : News h₀ L s.heap ((L + 1 + 1 + 1, o3) :: im)) (i2 : (L + 1 + 1, o2) ∈ im) (it : (tl, listOf vs.toArray n) ∈ im) (il : ∀ p ∈ led, p ∈ im) (hx : HdrI im x tl) (h2 : o2.data = .cell (some (.ref x))) (h3 : o3.data = .cell cv) (hne : ∀ p ∈ im, p.1 ≠ L + 1 + 1 + 1)
    (h6 : l.length = 6) (hab : Ab l) (hpr : PrsL led vs (tabTo l 7))
    (k : ∀ W wvs kW o3' h' tk, Fr h₀ L h' m → News h₀ L h' ((W, listOf wvs.toArray kW) :: (L + 1 + 1 + 1, o3') :: im) → o3'.data = .cell (some (.ref W)) → StrsAre wvs ((tabTo l 7).map (·.2)) → Q .next { s with heap := h', toks := tk }) :
  wpAny (model PySem.Challenge.rw_tc0036_01.row.prog w) A (exec (lawStmt 6) (envOfC (PySem.Str.ofString "law") lawScope L f cdv)) Q E s := by
  obtain ⟨hz, dp, fr, gd, un⟩ := A
  obtain rfl : hz = none := S'.hh
  obtain ⟨dx, hsh, tkk, nd, ix, id⟩ := hx
  walk_at "m law"
  k_steps
  show wpAny _ _ (call (.ref 188) [.ref x]) _ _ _
  have htl := tabTo_len l 7
  rw [h6] at htl
  refine values_spec (X.keeps F.keep) (T.keeps F.keep) (Sm.mono S' (by decide)) (HdrI.hdr N ⟨dx, hsh, tkk, nd, .tail _ ix, .tail _ id⟩) (News.isList N (.tail _ it)) (hpr.prs fun p hp => (N p (.tail _ (il p hp))).1) (by omega) fun W wvs kW h' tk hk hr hrn hw => ?_
  have F2 := F.keeps hk
  have N2 := new_news F N hk hr hrn
  refine cell_at (pre := [(W, listOf wvs.toArray kW)]) F2 N2 ?_ hne h3 ?_ rfl rfl rfl
  · intro p hp
    rw [List.mem_singleton.mp hp]
    intro q
    have := (N _ (.head _)).1
    dsimp only at q this
    rw [← q, hrn] at this
    cases this
  intro h3 o3' F3 N3 ho3
  exact k W wvs kW o3' h3 _ F3 N3 ho3 hw
end

theorem calm_LG : True := by w_top off; trivial
section
variable {w : World} {loose : List Str} {mean : ExcName → Option Value} {mg mb : Str → Option Value} {A : Around} {s : Shared} {h₀ : Heap} {L f : Addr} {cdv : Value} {m : Str → Option Value} {im : List (Addr × Obj)} {Q : Flow → Shared → Prop} {E : Value → Shared → Prop}
theorem AllI.map {α β : Type} {R : Value → β → Prop} {f : α → β} : ∀ {vs : List Value} {as : List α}, AllI (fun v a => R v (f a)) vs as → AllI R vs (as.map f)
  | _, _, .nil => .nil
  | _, _, .cons r q => .cons r q.map
theorem CutAt.keep {h h' : Heap} (hk : ∀ b o, h.get? b = some o → h'.get? b = some o) {v : Value} {c : List Str} : CutAt h v c → CutAt h' v c := fun ⟨a, vs, n, e, m, s⟩ => ⟨a, vs, n, e, hk _ _ m, s⟩
theorem RowAt.keep {h h' : Heap} (hk : ∀ b o, h.get? b = some o → h'.get? b = some o) {v : Value} {c : List (List Str)} : RowAt h v c → RowAt h' v c := fun ⟨a, vs, n, e, m, s⟩ => ⟨a, vs, n, e, hk _ _ m, s.imp fun _ _ => CutAt.keep hk⟩
theorem st8 {l : List Nat} {t : Tok} {o1 o3 : Obj} {D W : Addr} {ys wvs : List Value} {kD kW : Nat} {led : List (Addr × Obj)} (X : (hd.heap_39 w.params).In h₀) (T : Top hd.view_39 loose mean mg mb h₀) (S' : Sm A 30) (F : Fr h₀ L s.heap m)
    (N : News h₀ L s.heap im) (i1 : (L + 1, o1) ∈ im) (i3 : (L + 1 + 1 + 1, o3) ∈ im) (iD : (D, listOf ys.toArray kD) ∈ im) (iW : (W, listOf wvs.toArray kW) ∈ im) (il : ∀ p ∈ led, p ∈ im)
    (h1 : o1.data = .cell (some (.str (S l) t))) (h3 : o3.data = .cell (some (.ref W))) (hm : m (PySem.Str.ofString "heaps") = some (.ref D)) (h6 : l.length = 6) (hab : Ab l)
    (hys : AllI (CutI led) ys ((List.range 7).map (heapTo l))) (hw : StrsAre wvs ((tabTo l 7).map (·.2)))
    (law : rowsTo leStr (S l) ((tabTo l 7).map (·.2)) 6 = (List.range 7).map fun j => [heapTo l j])
    (k : ∀ h' tk, Fr h₀ L h' m → News h₀ L h' im → Q .next { s with heap := h', toks := tk }) :
  wpAny (model PySem.Challenge.rw_tc0036_01.row.prog w) A (exec (lawStmt 8) (envOfC (PySem.Str.ofString "law") lawScope L f cdv)) Q E s := by
  obtain ⟨hz, dp, fr, gd, un⟩ := A
  obtain rfl : hz = none := S'.hh
  walk_at "m law"
  have htl := tabTo_len l 7
  rw [h6] at htl
  k_steps
  unfold Hold
  rename Fr _ _ _ _ => F1
  rename News _ _ _ _ => N1
  refine cuts_spec (X.keeps F1.keep) (T.keeps F1.keep) (Sm.mono S' (by decide)) (News.isList N1 iW) hw (by rw [List.length_map]; omega) (by rw [S_len]; omega) fun r rvs rn h2 tk2 hk2 hr2 hrn2 hrows => ?_
  rw [S_len, h6, law] at hrows
  have F2 := F1.keeps hk2
  have N2 := new_news F1 N1 hk2 hr2 hrn2
  clear F1 N1
  try dsimp only
  k_steps
  walk_at "m comp"
  k_steps
  unfold Hold
  have hyl : ys.length = 7 := by rw [hys.length]; simp
  refine comp_list rfl (News.isList N2 (.tail _ iD)) (by omega) (fun _ _ e => e) (Nat.le_refl _) (by decide) rfl (by decide) (fun i zs im' => AllI (fun z j => ∃ a v n, z = .ref a ∧ (a, listOf [v].toArray n) ∈ im' ∧ ys[j]? = some v) zs (List.range i)) [] (fun _ h => nomatch h) .nil ?_ ?_
  · rintro i v zs im' own C h tk m hv hj hC hm F N hap
    refine ifs_nil ?_
    k_steps
    rename Fr h2 _ _ _ => F9
    rename News h2 _ _ _ => N9
    rename_i z9 _ l9
    exact ⟨_, _, m, _, (z9, listOf #[v] 0) :: im', rfl, F9, N9, (fun p hp => .tail _ (List.mem_append_left _ hp)), (fun p hp => by
        rcases List.mem_cons.mp hp with rfl | hp
        · exact .head _
        · exact .tail _ (List.mem_append_right _ hp)), (fun p hp q hq => by
        rcases List.mem_cons.mp hq with rfl | hq
        · exact Nat.ne_of_lt (l9 p (List.mem_append_left _ hp))
        · exact hap p hp q hq), by
        rw [List.range_succ]
        exact (hj.imp fun _ _ ⟨a, v, n, e, m, q⟩ => ⟨a, v, n, e, .tail _ m, q⟩).append (.cons ⟨z9, v, 0, rfl, .head _, hv⟩ .nil)⟩
  · rintro D1 zs k1 im1 h5 tk5 hD0 hD1 hk5 him hj
    have hr5 : h5.get? r = some (listOf rvs.toArray rn) := hk5 _ _ hr2
    have hrows5 := hrows.imp fun _ _ q => RowAt.keep hk5 q
    k_steps
    unfold Hold
    rw [hyl] at hj
    have hled : ∀ p ∈ led, h5.get? p.1 = some p.2 := fun p hp => hk5 _ _ (N2 p (.tail _ (il p hp))).1
    have hz : AllI (RowAt h5) zs ((List.range 7).map fun j => [heapTo l j]) := AllI.map (f := fun j => [heapTo l j]) (hj.imp fun z j ⟨a, v, n, e, m, q⟩ => by
      obtain ⟨c, ec, hc⟩ := hys.get q
      rw [List.getElem?_map] at ec
      obtain ⟨j', ej, rfl⟩ := Option.map_eq_some_iff.mp ec
      have hj7 : j < 7 := by have := (List.getElem?_eq_some_iff.mp ej).1; simpa using this
      rw [List.getElem?_range hj7] at ej
      cases ej
      exact ⟨a, [v], n, e, (him _ m).1, .cons (CutI.at hled hc) .nil⟩)
    refine ne_same (d := dSSS ((List.range 7).map fun j => [heapTo l j])) (reads_SSS hr5 hrows5) (reads_SSS hD1 hz) (ok_dSSS fun a ha b hb => ?_) (by decide) S' ?_
    · obtain ⟨j, _, rfl⟩ := List.mem_map.mp ha
      rw [List.mem_singleton.mp hb]
      exact heap_abS hab j
    k_steps
    exact k h5 _ (F2.keeps hk5) fun p hp => (N2.grown hk5) p (.tail _ hp)
end

theorem calm_LH : True := by w_top off; trivial
section
variable {w : World} {loose : List Str} {mean : ExcName → Option Value} {mg mb : Str → Option Value} {A : Around} {s : Shared} {h₀ : Heap} {L f : Addr} {cdv : Value} {m : Str → Option Value} {im : List (Addr × Obj)} {Q : Flow → Shared → Prop} {E : Value → Shared → Prop}
theorem st9 {l : List Nat} {t : Tok} {o1 o3 : Obj} {W : Addr} {wvs : List Value} {kW : Nat} (X : (hd.heap_39 w.params).In h₀) (T : Top hd.view_39 loose mean mg mb h₀) (S' : Sm A 30) (F : Fr h₀ L s.heap m)
    (N : News h₀ L s.heap im) (i1 : (L + 1, o1) ∈ im) (i3 : (L + 1 + 1 + 1, o3) ∈ im) (iW : (W, listOf wvs.toArray kW) ∈ im)
    (h1 : o1.data = .cell (some (.str (S l) t))) (h3 : o3.data = .cell (some (.ref W))) (h6 : l.length = 6)
    (hw : StrsAre wvs ((tabTo l 7).map (·.2)))
    (law : ∀ p, 1 ≤ p → p ≤ 5 → (rowsTo leStr (S (l.drop p)) ((tabTo l 7).map (·.2)) (6 - p)).map List.length = List.replicate (7 - p) 1)
    (k : ∀ h' tk m', Fr h₀ L h' m' → News h₀ L h' im → Q .next { s with heap := h', toks := tk }) :
  wpAny (model PySem.Challenge.rw_tc0036_01.row.prog w) A (exec (lawStmt 9) (envOfC (PySem.Str.ofString "law") lawScope L f cdv)) Q E s := by
  obtain ⟨hz, dp, fr, gd, un⟩ := A
  obtain rfl : hz = none := S'.hh
  obtain ⟨r1, r2⟩ := rng (n := 5) (a := 1) (b := 6) (by decide) (by decide) (by omega) (by decide)
  have htl := tabTo_len l 7
  rw [h6] at htl
  walk_at "m law"
  k_steps
  unfold Hold
  refine wpAny_For ?_ (by intro _; with_unfolding_all rfl)
  k_steps
  unfold Hold
  rename Fr _ _ _ _ => F1
  rename News _ _ _ _ => N1
  rename IsRange _ _ _ _ _ _ _ _ => hr
  refine iter_range im rfl hr r1 r2 rfl rfl F1 N1 (fun _ m im' => im' = im) rfl ?_ ?_
  · rintro I i u m im' oI h tk hi rfl hI F N
    clear F1 N1
    obtain ⟨m1, F1, g1⟩ : ∃ m1, Fr h₀ L h m1 ∧ m1 (PySem.Str.ofString "place") = some (.int ((i + 1 : Nat) : Int) u) :=
      ⟨_, F, by rw [show ((i + 1 : Nat) : Int) = 1 + (i : Int) by omega]; rfl⟩
    clear F
    have N2 : News h₀ L h ((I, oI) :: im') := N
    clear N
    obtain ⟨y, hy⟩ : ∃ y, y = S l := ⟨_, rfl⟩
    rw [← hy] at h1
    have hyl : y.length ≤ 6 := by rw [hy, S_len, h6]; decide
    k_steps
    walk_at "m comp"
    k_steps
    unfold Hold
    rename Fr _ _ _ _ => F3
    rename News _ _ _ _ => N3
    rw [hy, slice_drop (by omega)]
    refine cuts_spec (X.keeps F3.keep) (T.keeps F3.keep) (Sm.mono S' (by decide)) (News.isList N3 (.tail _ iW)) hw (by rw [List.length_map]; omega) (by rw [S_len, List.length_drop]; omega) fun r rvs rn h2 tk2 hk2 hr2 hrn2 hrows => ?_
    have hlaw := law (i + 1) (by omega) (by omega)
    rw [S_len, List.length_drop, h6] at hrows
    generalize rowsTo leStr (S (l.drop (i + 1))) ((tabTo l 7).map (·.2)) (6 - (i + 1)) = rows at hlaw hrows
    have hone : ∀ x ∈ rows, x.length = 1 := fun x hx => List.eq_of_mem_replicate (by rw [← hlaw]; exact List.mem_map_of_mem hx)
    have hrl : rows.length = 7 - (i + 1) := by have := congrArg List.length hlaw; simpa using this
    have F2 := F3.keeps hk2
    have N2 := new_news F3 N3 hk2 hr2 hrn2
    clear F3 N3
    try dsimp only
    k_steps
    unfold Hold
    refine comp_list rfl (News.isList N2 (.head _)) (by rw [hrows.length]; omega) (fun _ _ e => e) (Nat.le_refl _) (by decide) rfl (by decide) (fun j zs im' => IntsAre zs (List.replicate j 1) ∧ im' = []) [] (fun _ h => nomatch h) ⟨.nil, rfl⟩ ?_ ?_
    · rintro j v zs im9 own C h tk m hv ⟨hj, rfl⟩ hC hm F N hap
      obtain ⟨row, hrow, a, vs, an, rfl, ha, hcs⟩ := hrows.get hv
      have hvl : vs.length = 1 := by rw [hcs.length]; exact hone row (List.mem_of_getElem? hrow)
      have hla := isList_of ha
      have X9 := X.keeps F2.keep
      have T9 := T.keeps F2.keep
      refine ifs_nil ?_
      k_steps
      exact ⟨_, _, m, _, [], rfl, F, N, (fun p hp => List.mem_append_left _ hp), (fun p hp => nomatch hp), (fun _ _ _ h => nomatch h), by rw [List.replicate_succ']; exact hj.append (by rw [hvl]; exact .cons _ _ .nil), rfl⟩
    · rintro D1 zs k1 im1 h5 tk5 hD0 hD1 hk5 him ⟨hj, rfl⟩
      have F5 := F2.keeps hk5
      have N5 := new_news F2 N2 hk5 hD1 hD0
      k_steps
      unfold Hold
      rename News _ _ _ _ => N9
      rename IntsAre (List.flatten _) _ => hI9
      rw [hrows.length, hrl] at hj
      have e9 : (List.replicate (7 - ((i + 1 : Nat) : Int)).toNat ([1] : List Int)).flatten = List.replicate (7 - (i + 1)) 1 := by
        rw [List.flatten_replicate_singleton, show (7 - ((i + 1 : Nat) : Int)).toNat = 7 - (i + 1) by omega]
      rw [e9] at hI9
      refine ne_same (d := .list ((List.replicate (7 - (i + 1)) (1 : Int)).map .int)) (reads_I (N9 _ (.tail _ (.tail _ (.head _)))).1 hj) (reads_I (N9 _ (.head _)).1 hI9) (ok_ints _) (by decide) S' ?_
      k_steps
      rename Fr _ _ _ _ => F9
      exact ⟨_, _, _, _, im', rfl, F9, N9, (fun p hp => by rw [List.mem_singleton.mp hp]; exact .tail _ (.tail _ (.tail _ (.tail _ (.head _))))), (fun p hp => .tail _ (.tail _ (.tail _ (.tail _ (.tail _ hp))))), hI, rfl⟩
  · rintro m im' h tk rfl F N
    exact k _ _ _ F N
end

theorem calm_LI : True := by w_top off; trivial
theorem len_atT {prog : Program} {w : World} {A : Around} {E : Value → Shared → Prop} {s : Shared} {l : Addr} {xs : List Value} {Q : Value → Shared → Prop} (hl : s.heap.IsList l xs.toArray) (hz : xs.length ≤ 100000)
    (h : ∀ t tk, t ≠ 0 → t < tk → Q (.int xs.length t) { s with toks := tk }) : wpAny (model prog w) A (call (.builtin "len") [.ref l]) Q E s := by
  refine len_list hl (by rw [List.size_toArray]; omega) ?_
  have := h (s.toks + 1) (s.toks + 1 + 1) (Nat.succ_ne_zero _) (Nat.lt_succ_self _)
  rwa [List.size_toArray]
section
local macro_rules | `(tactic| walk_at "call builtin:len cons nil") => `(tactic| (k_here; (with_reducible show wpAny _ _ (call _ [Value.ref _]) _ _ _); refine hold ?_))
def wholeOf (l : List Nat) : Bool := !!(Builtin.Str.occurrences (Txt.slice (S l ++ S l) (some 1) (some (-1))) (S l) 0 (Txt.slice (S l ++ S l) (some 1) (some (-1))).length 1).isEmpty
def rot (l : List Nat) (k : Nat) : List Nat := l.drop k ++ l.take k
theorem S_append (a b : List Nat) : S a ++ S b = S (a ++ b) := by
  apply PySem.Str.ext'
  show a.toArray ++ b.toArray = (a ++ b).toArray
  simp
section
variable {w : World} {loose : List Str} {mean : ExcName → Option Value} {mg mb : Str → Option Value} {A : Around} {s : Shared} {h₀ : Heap} {L f : Addr} {cdv : Value} {m : Str → Option Value} {im : List (Addr × Obj)} {Q : Flow → Shared → Prop} {E : Value → Shared → Prop}
theorem st10 {l : List Nat} {t : Tok} {o1 : Obj} (X : (hd.heap_39 w.params).In h₀) (T : Top hd.view_39 loose mean mg mb h₀) (S' : Sm A 30) (F : Fr h₀ L s.heap m)
    (N : News h₀ L s.heap im) (i1 : (L + 1, o1) ∈ im) (h1 : o1.data = .cell (some (.str (S l) t))) (h6 : l.length = 6) (hab : Ab l)
    (k : ∀ D zs kD h' tk m', Fr h₀ L h' m' → News h₀ L h' ((D, listOf zs.toArray kD) :: im) → m' (PySem.Str.ofString "counts") = some (.ref D) → IntsAre zs ((List.range 6).map fun k => ((up (rot l k).reverse).length : Int)) →
      (∀ n u, Value.int n u ∈ zs → u ≠ 0 ∧ u < tk) → Q .next { s with heap := h', toks := tk }) :
  wpAny (model PySem.Challenge.rw_tc0036_01.row.prog w) A (exec (lawStmt 10) (envOfC (PySem.Str.ofString "law") lawScope L f cdv)) Q E s := by
  obtain ⟨hz, dp, fr, gd, un⟩ := A
  obtain rfl : hz = none := S'.hh
  obtain ⟨r1, r2⟩ := rng (n := 6) (a := 0) (b := 6) (by decide) (by decide) (by omega) (by decide)
  walk_at "m law"
  k_steps
  walk_at "m compA"
  k_steps
  unfold Hold
  rename Fr _ _ _ _ => F1
  rename News _ _ _ _ => N1
  rename IsRange _ _ _ _ _ _ _ _ => hr
  refine' comp_rangeA rfl rfl rfl F1 N1 hr r1 r2 ?hsz (fun b o e => e) (Nat.le_refl _) ?hce ?hki ?hxx (fun i zs im' tk => IntsAre zs ((List.range i).map fun k => ((up (rot l k).reverse).length : Int)) ∧ im' = [] ∧ ∀ n u, Value.int n u ∈ zs → u ≠ 0 ∧ u < tk)
    (fun _ _ _ _ _ ⟨a, b, c⟩ hle => ⟨a, b, fun n u hu => ⟨(c n u hu).1, Nat.lt_of_lt_of_le (c n u hu).2 hle⟩⟩) [] (fun _ h => nomatch h) ⟨.nil, rfl, fun _ _ h => nomatch h⟩ ?tu ?dn
  case hsz => decide
  case hce => decide
  case hki => rfl
  case hxx => rfl
  · rintro i u zs im' own C h tk m hi ⟨hzs, rfl, htk⟩ hC hm F N hap
    rw [Int.zero_add] at hm
    have X9 := X.keeps F1.keep
    have T9 := T.keeps F1.keep
    have hg1 := news_at N1 i1
    clear F1 N1
    obtain ⟨y, hy⟩ : ∃ y, y = S l := ⟨_, rfl⟩
    rw [← hy] at h1
    have hyl : y.length ≤ 6 := by rw [hy, S_len, h6]; decide
    refine ifs_nil ?_
    rw [if_pos rfl]
    refine wpAny_with_toks (n := tk) (Nat.le_refl _) ?_
    k_steps
    unfold Hold
    rename Fr _ _ _ _ => F5
    rename News _ _ _ _ => N5
    rw [hy, slice_drop (by omega), slice_take (by omega), S_append]
    have hrot : Ab (rot l i) := fun c hc => (List.mem_append.mp hc).elim (hab.drop i c) (hab.take i c)
    have hrl : (rot l i).length = 6 := by unfold rot; rw [List.length_append, List.length_drop, List.length_take]; omega
    refine heaped_spec (y := S (rot l i)) (X9.keeps F5.keep) (T9.keeps F5.keep) (Sm.mono S' (by decide)) (by rw [S_len]; omega) (fun c hc => by rcases hrot.S c hc with h | h | h <;> omega) fun r rvs rn h2 tk2 hk2 hr2 hrn2 hps => ?_
    rw [S_list] at hps
    have F6 := F5.keeps hk2
    have N6 := new_news F5 N5 hk2 hr2 hrn2
    clear F5 N5
    try dsimp only
    k_steps
    unfold Hold
    refine len_atT (isList_of hr2) (by rw [hps.len_eq]; have := (tot_up (rot l i).reverse).2; rw [List.length_reverse] at this; omega) fun t9 tk9 ht0 ht1 => ?_
    k_steps
    rename (tk ≤ tk9) => hle
    refine ⟨_, _, m, _, [], rfl, F6, N6, (fun p hp => .tail _ (List.mem_append_left _ hp)), (fun p hp => nomatch hp), (fun _ _ _ h => nomatch h), ?_, rfl, ?_⟩
    · rw [List.range_succ, List.map_append, hps.len_eq]
      exact hzs.append (.cons _ _ .nil)
    · intro n u hu
      rcases List.mem_append.mp hu with hu | hu
      · exact ⟨(htk n u hu).1, Nat.lt_of_lt_of_le (htk n u hu).2 hle⟩
      · cases List.mem_singleton.mp hu
        exact ⟨ht0, ht1⟩
  · rintro D1 zs k1 im1 h5 tk5 F2 N2 o1 o2 ⟨tk', hle, hzs, rfl, htk⟩
    exact k D1 zs k1 h5 _ _ F2 N2 rfl hzs fun n u hu => ⟨(htk n u hu).1, Nat.lt_of_lt_of_le (htk n u hu).2 hle⟩
end
section
variable {w : World} {loose : List Str} {mean : ExcName → Option Value} {mg mb : Str → Option Value} {A : Around} {s : Shared} {h₀ : Heap} {L f : Addr} {cdv : Value} {m : Str → Option Value} {im : List (Addr × Obj)} {Q : Flow → Shared → Prop} {E : Value → Shared → Prop}
theorem st11 {l : List Nat} {t : Tok} {o1 : Obj} {D : Addr} (X : (hd.heap_39 w.params).In h₀) (T : Top hd.view_39 loose mean mg mb h₀) (S' : Sm A 30) (F : Fr h₀ L s.heap m)
    (N : News h₀ L s.heap im) (i1 : (L + 1, o1) ∈ im) (h1 : o1.data = .cell (some (.str (S l) t))) (h6 : l.length = 6) (hab : Ab l) (hm : m (PySem.Str.ofString "counts") = some (.ref D))
    (k : ∀ h' tk m', Fr h₀ L h' m' → News h₀ L h' im → m' (PySem.Str.ofString "counts") = some (.ref D) → m' (PySem.Str.ofString "whole") = some (.bool (wholeOf l)) → s.toks ≤ tk → Q .next { s with heap := h', toks := tk }) :
  wpAny (model PySem.Challenge.rw_tc0036_01.row.prog w) A (exec (lawStmt 11) (envOfC (PySem.Str.ofString "law") lawScope L f cdv)) Q E s := by
  obtain ⟨hz, dp, fr, gd, un⟩ := A
  obtain rfl : hz = none := S'.hh
  obtain ⟨y, hy⟩ : ∃ y, y = S l := ⟨_, rfl⟩
  rw [← hy] at h1
  have hyl : y.length ≤ 6 := by rw [hy, S_len, h6]; decide
  walk_at "m law"
  refine wpAny_with_toks (n := s.toks) (Nat.le_refl _) ?_
  k_steps
  rename Fr _ _ _ _ => F2
  rename News _ _ _ _ => N2
  rename (s.toks ≤ _) => hle
  refine k _ _ _ F2 N2 ?_ ?_ hle
  · exact hm
  · subst hy
    rfl
theorem st12 {D : Addr} {zs : List Value} {ns : List Int} {kD tk0 : Nat} {b : Bool} (X : (hd.heap_39 w.params).In h₀) (T : Top hd.view_39 loose mean mg mb h₀) (S' : Sm A 30) (F : Fr h₀ L s.heap m)
    (N : News h₀ L s.heap im) (iD : (D, listOf zs.toArray kD) ∈ im) (hm : m (PySem.Str.ofString "counts") = some (.ref D)) (hb : m (PySem.Str.ofString "whole") = some (.bool b)) (hzs : IntsAre zs ns) (hn : ns.length ≤ 1000)
    (htk : ∀ n u, Value.int n u ∈ zs → u ≠ 0 ∧ u < tk0) (hle : tk0 ≤ s.toks) (law : ns.countP (· == 1) = if b then 1 else 0)
    (k : ∀ h' tk m', Fr h₀ L h' m' → Q (.ret (.bool true)) { s with heap := h', toks := tk }) :
  wpAny (model PySem.Challenge.rw_tc0036_01.row.prog w) A (exec (lawStmt 12) (envOfC (PySem.Str.ofString "law") lawScope L f cdv)) Q E s := by
  obtain ⟨hz, dp, fr, gd, un⟩ := A
  obtain rfl : hz = none := S'.hh
  walk_at "m law"
  k_steps
  unfold Hold
  rename Fr _ _ _ _ => F1
  rename News _ _ _ _ => N1
  refine countOf_spec (X.keeps F1.keep) (T.keeps F1.keep) (Sm.mono S' (by decide)) (News.isList N1 iD) hzs hn (by decide) (fun n u hu => ⟨(htk n u hu).1, Nat.lt_of_lt_of_le (htk n u hu).2 hle⟩) fun t2 h2 tk2 hk2 => ?_
  have F2 := F1.keeps hk2
  rw [law]
  clear F1 N1
  try dsimp only
  k_steps
  · rename (b = true) => hb2
    subst hb2
    exact k h2 _ m F2
  · rename (b = false) => hb2
    subst hb2
    exact k h2 _ m F2
end
end

theorem calm_LK : True := by w_top off; trivial
section
local macro_rules | `(tactic| k_inst) => `(tactic| exact InstAt.kept (by assumption) (Fr.keep (by assumption)))
local macro_rules | `(tactic| walk_at "pyIter str") => `(tactic| refine hold ?_)
local macro_rules | `(tactic| k_inst) => `(tactic| exact InstAt.kept (by assumption) (Fr.keep (by assumption)))
theorem abc_get {i c : Nat} (h : (PySem.Str.ofString "abc").cps[i]? = some c) : i < 3 ∧ c = 97 + i := by
  rw [show (PySem.Str.ofString "abc") = ⟨#[97, 98, 99]⟩ by decide +kernel] at h
  match i, h with
  | 0, h => cases h; exact ⟨by decide, rfl⟩
  | 1, h => cases h; exact ⟨by decide, rfl⟩
  | 2, h => cases h; exact ⟨by decide, rfl⟩
  | i + 3, h => simp at h
theorem abc_ok {i : Nat} (h : i < 3) : Ab [97 + i] := fun c hc => by
  rw [List.mem_singleton.mp hc]
  omega
section
variable {w : World} {loose : List Str} {mean : ExcName → Option Value} {mg mb : Str → Option Value} {A : Around} {s : Shared} {h₀ : Heap} {L f : Addr} {cdv : Value} {m : Str → Option Value} {im : List (Addr × Obj)} {Q : Flow → Shared → Prop} {E : Value → Shared → Prop}
theorem st7 {l : List Nat} {o2 o3 : Obj} {W x tl : Addr} {wvs vs : List Value} {kW n : Nat} {led : List (Addr × Obj)} (X : (hd.heap_39 w.params).In h₀) (T : Top hd.view_39 loose mean mg mb h₀) (S' : Sm A 30) (F : Fr h₀ L s.heap m)
    (N : News h₀ L s.heap im) (i2 : (L + 1 + 1, o2) ∈ im) (i3 : (L + 1 + 1 + 1, o3) ∈ im) (iW : (W, listOf wvs.toArray kW) ∈ im) (it : (tl, listOf vs.toArray n) ∈ im) (il : ∀ p ∈ led, p ∈ im) (hx : HdrI im x tl)
    (h2 : o2.data = .cell (some (.ref x))) (h3 : o3.data = .cell (some (.ref W))) (h6 : l.length = 6) (hab : Ab l) (hpr : PrsL led vs (tabTo l 7))
    (hw : StrsAre wvs ((tabTo l 7).map (·.2)))
    (law : ∀ i, i < 3 → getAll (tabTo l 7) (Txt.lower (S [97 + i])) = ((tabTo l 7).map (·.2)).filter fun w => Txt.slice w (some (-1)) none == S [97 + i])
    (k : ∀ h' tk, Fr h₀ L h' m → News h₀ L h' im → Q .next { s with heap := h', toks := tk }) :
  wpAny (model PySem.Challenge.rw_tc0036_01.row.prog w) A (exec (lawStmt 7) (envOfC (PySem.Str.ofString "law") lawScope L f cdv)) Q E s := by
  obtain ⟨hz, dp, fr, gd, un⟩ := A
  obtain rfl : hz = none := S'.hh
  walk_at "m law"
  have htl := tabTo_len l 7
  rw [h6] at htl
  k_steps
  walk_at "m comp"
  k_steps
  unfold Hold
  refine comp_str rfl (by decide +kernel) (by decide +kernel) (by decide) rfl (by decide) (fun i zs im => AllI (CutI im) zs ((List.range i).map fun j => getAll (tabTo l 7) (Txt.lower (S [97 + j])))) .nil ?_ ?_
  · rintro i c u zs im' own C h tk m hc hj hC hm F9 N9 hap
    obtain ⟨hi, rfl⟩ := abc_get hc
    have hI := hx.hdr N
    have hI0 := hI
    obtain ⟨dx, sl, hsh, tkk, nI, II⟩ := hI0
    have hg2 := news_at N i2
    have X9 := X.keeps F.keep
    have T9 := T.keeps F.keep
    have hlt : s.heap.IsList tl vs.toArray := News.isList N it
    have hps : Prs s.heap vs (tabTo l 7) := hpr.prs fun p hp => (N p (il p hp)).1
    clear N F
    refine ifs_nil ?_
    k_steps
    unfold Hold
    have hok := ls_ok (abc_ok hi)
    have eS : ls [97 + i] = S [97 + i] := rfl
    rw [eS] at hok
    refine get_all_at (low := Txt.lower (S [97 + i])) F9 N9 X9 T9 (Sm.mono S' (by decide)) hI (isList_keep F9.keep hlt) (Prs.keep F9.keep hps) (by omega) (fun p hp => (tabTo_mem hab 7 p hp).1) rfl hok.2.2.1 hok.1 fun r rvs rn h' tk' F' N' l' hrs => ?_
    refine ⟨_, _, m, _, (r, listOf rvs.toArray rn) :: im', rfl, F', N', (fun p hp => .tail _ (List.mem_append_left _ hp)), (fun p hp => by
        rcases List.mem_cons.mp hp with rfl | hp
        · exact .head _
        · exact .tail _ (List.mem_append_right _ hp)), (fun p hp q hq => by
        rcases List.mem_cons.mp hq with rfl | hq
        · exact l' p (List.mem_append_left _ hp)
        · exact hap p hp q hq), ?_⟩
    rw [List.range_succ, List.map_append]
    exact cut_more hj hrs
  · rintro D1 zs k1 im1 h5 tk5 hD0 hD1 hk5 him hj
    have F5 := F.keeps hk5
    have N5 := new_news F N hk5 hD1 hD0
    have hz : AllI (CutAt h5) zs ((List.range 3).map fun j => getAll (tabTo l 7) (Txt.lower (S [97 + j]))) := hj.imp fun _ _ q => q.at fun p hp => (him p hp).1
    k_steps
    walk_at "m comp"
    k_steps
    unfold Hold
    refine comp_strC rfl (by decide +kernel) (by decide +kernel) rfl rfl (fun _ _ => rfl) (fun i zs im => AllI (CutI im) zs ((List.range i).map fun j => getAll (tabTo l 7) (Txt.lower (S [97 + j])))) .nil ?_ ?_
    · rintro i c u zs2 im' own C Cc oc h tk m hc hj2 hC ho hod F9 N9 hap
      obtain ⟨hi, rfl⟩ := abc_get hc
      have hg3 := news_at N5 (.tail _ i3)
      have hgW : h5.IsList W wvs.toArray := News.isList N5 (.tail _ iW)
      have X9 := X.keeps F5.keep
      have T9 := T.keeps F5.keep
      clear N5 F5 N F
      refine ifs_nil ?_
      k_steps
      walk_at "m comp"
      k_steps
      unfold Hold
      have hcc : h.get? Cc = some oc := (N9 _ (List.mem_append_left _ ho)).1
      have X10 := X9.keeps F9.keep
      have T10 := T9.keeps F9.keep
      refine comp_list rfl (isList_keep F9.keep hgW) (by rw [hw.len_eq, List.length_map]; omega) (fun _ _ e => e) (Nat.le_refl _) (by decide) rfl (by decide) (fun j zs im => StrsAre zs ((((tabTo l 7).map (·.2)).take j).filter fun w => Txt.slice w (some (-1)) none == S [97 + i]) ∧ im = []) [] (fun _ h => nomatch h) ⟨.nil, rfl⟩ ?_ ?_
      · rintro j v zs9 im9 own9 C2 h9 tk9 m9 hv ⟨hj9, rfl⟩ hC9 hm9 F10 N10 hap9
        obtain ⟨wd, tw, hwd, rfl⟩ := strs_get hw hv
        have hwl : wd.length ≤ 6 := by
          obtain ⟨p, hp, rfl⟩ := List.mem_map.mp (List.mem_of_getElem? hwd)
          have := (tabTo_mem hab 7 p hp).2.2.1
          omega
        refine ifs_one ?_
        k_steps
        · refine ⟨_, _, _, _, [], rfl, by assumption, by assumption, (fun p hp => List.mem_append_left _ hp), (fun _ h => nomatch h), (fun _ _ _ h => nomatch h), ?_, rfl⟩
          rename ((Txt.slice wd _ _ == _) = true) => hif
          rw [take_snoc hwd, List.filter_append]
          refine hj9.append' ?_
          rw [List.filter_cons_of_pos (by exact hif)]
          exact .cons _ _ .nil
        · refine ⟨_, _, _, _, [], rfl, by assumption, by assumption, (fun p hp => List.mem_append_left _ hp), (fun _ h => nomatch h), (fun _ _ _ h => nomatch h), ?_, rfl⟩
          rename ((Txt.slice wd _ _ == _) = false) => hif
          rw [take_snoc hwd, List.filter_append, List.filter_cons_of_neg (by rw [show (Txt.slice wd (some (-1)) none == S [97 + i]) = false from hif]; decide), List.filter_nil, List.append_nil]
          exact hj9
      · rintro D3 zs9 k3 im9 h9 tk9 hG0 hG1 hk9 him9 ⟨hj9, rfl⟩
        rw [hw.len_eq, List.take_length, ← law i hi] at hj9
        refine ⟨h9, _, m, _, (D3, listOf zs9.toArray k3) :: im', rfl, F9.keeps hk9, new_news F9 N9 hk9 hG1 hG0, (fun p hp => .tail _ (List.mem_append_left _ hp)), (fun p hp => by
          rcases List.mem_cons.mp hp with rfl | hp
          · exact .head _
          · exact .tail _ (List.mem_append_right _ hp)), (fun p hp q hq e => by
          rcases List.mem_cons.mp hq with rfl | hq
          · have := (N9 p (List.mem_append_left _ hp)).1
            dsimp only at e hG0
            rw [e, hG0] at this
            cases this
          · exact hap p hp q hq e), ?_⟩
        rw [List.range_succ, List.map_append]
        exact cut_more hj2 hj9
    · rintro D2 zs2 k2 im2 h6 tk6 hE0 hE1 hk6 him2 hj2
      k_steps
      unfold Hold
      have hz2 : AllI (CutAt h6) zs2 ((List.range 3).map fun j => getAll (tabTo l 7) (Txt.lower (S [97 + j]))) := hj2.imp fun _ _ q => q.at fun p hp => (him2 p hp).1
      refine ne_same (d := dSS ((List.range 3).map fun j => getAll (tabTo l 7) (Txt.lower (S [97 + j])))) (reads_SS (hk6 _ _ hD1) (hz.imp fun _ _ => CutAt.keep hk6)) (reads_SS hE1 hz2) (ok_dSS fun a ha wd hwd => ?_) (by decide) S' ?_
      · obtain ⟨j, _, rfl⟩ := List.mem_map.mp ha
        obtain ⟨p, hp, rfl⟩ := getAll_mem hwd
        exact (tabTo_mem hab 7 p hp).2.2.2
      k_steps
      exact k h6 _ (F5.keeps hk6) fun p hp => (N5.grown hk6) p (.tail _ hp)
end
end

theorem calm_LM : True := by w_top off; trivial
/-- what the law says of one text, in plain terms -/
structure Plain (l : List Nat) : Prop where
  p5 : ∀ i, 1 ≤ i → i ≤ 6 → (lastTo l i).length ≤ i ∧ heapTo l i = heapTo l (i - (lastTo l i).length) ++ [lastTo l i]
  p7 : ∀ i, i < 3 → getAll (tabTo l 7) (Txt.lower (S [97 + i])) = ((tabTo l 7).map (·.2)).filter fun w => Txt.slice w (some (-1)) none == S [97 + i]
  p8 : rowsTo leStr (S l) ((tabTo l 7).map (·.2)) 6 = (List.range 7).map fun j => [heapTo l j]
  p9 : ∀ p, 1 ≤ p → p ≤ 5 → (rowsTo leStr (S (l.drop p)) ((tabTo l 7).map (·.2)) (6 - p)).map List.length = List.replicate (7 - p) 1
  p12 : ((List.range 6).map fun k => ((up (rot l k).reverse).length : Int)).countP (· == 1) = if wholeOf l then 1 else 0
theorem ofs {L a b : Nat} (h : a ≠ b) : L + a ≠ L + b := by omega
section
variable {w : World} {loose : List Str} {mean : ExcName → Option Value} {mg mb : Str → Option Value} {A : Around} {s : Shared} {h₀ : Heap} {L f : Addr} {cdv : Value} {m : Str → Option Value} {Q : Flow → Shared → Prop} {E : Value → Shared → Prop}
theorem law_run {a : Addr} {vs : List Value} {ns : List Int} {c1 c2 c3 : Obj} {v1 v2 v3 : Option Value} (plain : ∀ l, l.length = 6 → Ab l → Plain l) (X : (hd.heap_39 w.params).In h₀) (T : Top hd.view_39 loose mean mg mb h₀) (S' : Sm A 30) (F : Fr h₀ L s.heap m)
    (N : News h₀ L s.heap [(L + 3, c3), (L + 2, c2), (L + 1, c1)]) (d1 : c1.data = .cell v1) (d2 : c2.data = .cell v2) (d3 : c3.data = .cell v3)
    (hl : h₀.IsList a vs.toArray) (hv : IntsAre vs ns) (hm : m (PySem.Str.ofString "script") = some (.ref a)) (hz : vs.toArray.size ≤ sizeLine)
    (k : ∀ h' tk m', Fr h₀ L h' m' → Q (.ret (.bool true)) { s with heap := h', toks := tk }) :
  wpAny (model PySem.Challenge.rw_tc0036_01.row.prog w) A (execs [lawStmt 0, lawStmt 1, lawStmt 2, lawStmt 3, lawStmt 4, lawStmt 5, lawStmt 6, lawStmt 7, lawStmt 8, lawStmt 9, lawStmt 10, lawStmt 11, lawStmt 12] (envOfC (PySem.Str.ofString "law") lawScope L f cdv)) Q E s := by
  have ne12 : L + 1 ≠ L + 2 := ofs (by decide)
  have ne13 : L + 1 ≠ L + 3 := ofs (by decide)
  have ne23 : L + 2 ≠ L + 3 := ofs (by decide)
  refine wpAny_execs_cons (st0 X T S' F N hl hv hm hz fun D0 ys0 ns0 n0 h1 tk1 m1 F1 N1 hm1 hI1 hn1 => ?_)
  clear F N hm
  dsimp only
  refine wpAny_execs_cons (st1 X T S' F1 N1 hm1 hI1 hn1 fun D1 ys1 ns1 h2 tk2 m2 F2 N2 hm2 hd2 hI2 hn2 => ?_)
  clear F1 N1 hm1 hI1 hn1
  dsimp only
  have N2' : News h₀ L h2 ((D1, listOf ys1.toArray 0) :: (L + 1, c1) :: [(L + 2, c2), (L + 3, c3)]) := fun p hp => N2 p (by simp at hp ⊢; rcases hp with q | q | q | q <;> simp [q])
  refine wpAny_execs_cons (st2 X T S' F2 N2' d1 (hd2 (L + 1, c1) (by simp)).symm (by intro p hp; simp at hp; rcases hp with rfl | rfl; exact ne12.symm; exact ne13.symm) hm2 hI2 hn2 fun cs t o1 h3 tk3 F3 N3 ho1 hcs hab => ?_)
  clear F2 N2 N2' hm2
  dsimp only
  obtain ⟨l, rfl⟩ : ∃ l : List Nat, cs = l.toArray := ⟨cs.toList, by simp⟩
  have h6 : l.length = 6 := by simpa using hcs
  have hab : Ab l := fun c hc => hab c (by simpa using hc)
  have P := plain l h6 hab
  have N3' : News h₀ L h3 ((L + 2, c2) :: [(L + 1, o1), (L + 3, c3)]) := fun p hp => N3 p (by simp at hp ⊢; rcases hp with q | q | q <;> simp [q])
  refine wpAny_execs_cons (st3 X T S' F3 N3' d2 (by intro p hp; simp at hp; rcases hp with rfl | rfl; exact ne12; exact ne23.symm) fun x dx tl n hsh tk es o2 h4 tk4 F4 N4 ho2 hes ht => ?_)
  clear F3 N3 N3'
  dsimp only
  subst hes
  have hxI : HdrI [(L + 1, o1), (L + 2, o2), (x, instObj 231 dx), (dx, dictOf [⟨hsh, .str (PySem.Str.ofString "_headers") tk, .ref tl⟩] n), (L + 3, c3)] x tl := ⟨dx, hsh, tk, n, by simp, by simp⟩
  have hnn : ∀ p ∈ [(L + 1, o1), (L + 2, o2), (x, instObj 231 dx), (dx, dictOf [⟨hsh, .str (PySem.Str.ofString "_headers") tk, .ref tl⟩] n), (L + 3, c3)], p.1 ≠ tl := fun p hp => ht p (by simp at hp ⊢; rcases hp with q | q | q | q | q <;> simp [q])
  have N4' : News h₀ L h4 ((tl, listOf #[] 0) :: (L + 1, o1) :: (L + 2, o2) :: [(x, instObj 231 dx), (dx, dictOf [⟨hsh, .str (PySem.Str.ofString "_headers") tk, .ref tl⟩] n), (L + 3, c3)]) := fun p hp => N4 p (by simp at hp ⊢; rcases hp with q | q | q | q | q | q <;> simp [q])
  have hxH : Hdr (h4.hide tl) x tl := hxI.hdr (hide_news (fun p hp => N4' p (.tail _ hp)) hnn)
  refine wpAny_execs_cons (st4 X T S' F4 N4' ho1 ho2 hxH hnn h6 hab fun D ys kD vs' n' led h5 tk5 m5 F5 N5 hm5 hys hpr hdist => ?_)
  clear F4 N4 N4' hxH
  dsimp only
  have e1 : (L + 1, o1) ∈ (D, listOf ys.toArray kD) :: (tl, listOf vs'.toArray n') :: (led ++ [(L + 1, o1), (L + 2, o2), (x, instObj 231 dx), (dx, dictOf [⟨hsh, .str (PySem.Str.ofString "_headers") tk, .ref tl⟩] n), (L + 3, c3)]) := by simp
  have hled : ∀ p ∈ led, p ∈ (D, listOf ys.toArray kD) :: (tl, listOf vs'.toArray n') :: (led ++ [(L + 1, o1), (L + 2, o2), (x, instObj 231 dx), (dx, dictOf [⟨hsh, .str (PySem.Str.ofString "_headers") tk, .ref tl⟩] n), (L + 3, c3)]) := fun p hp => by simp [hp]
  refine wpAny_execs_cons (st5 (o2 := o2) X T S' F5 N5 e1 (.tail _ (.tail _ (List.mem_append_right _ (.tail _ (.head _))))) (.head _) (.tail _ (.head _)) hled (hxI.mono fun p hp => .tail _ (.tail _ (List.mem_append_right _ hp))) ho1 ho2 hm5 h6 hab hys hpr P.p5 fun h6' tk6 m6 F6 N6 hm6 => ?_)
  clear F5 N5 hm5
  dsimp only
  have g3 : h6'.get? (L + 3) = some c3 := (N6 _ (.tail _ (.tail _ (List.mem_append_right _ (.tail _ (.tail _ (.tail _ (.tail _ (.head _))))))))).1
  have gx : h6'.get? x = some (instObj 231 dx) := (N6 _ (.tail _ (.tail _ (List.mem_append_right _ (.tail _ (.tail _ (.head _))))))).1
  have gdx : h6'.get? dx = some (dictOf [⟨hsh, .str (PySem.Str.ofString "_headers") tk, .ref tl⟩] n) := (N6 _ (.tail _ (.tail _ (List.mem_append_right _ (.tail _ (.tail _ (.tail _ (.head _)))))))).1
  have N6' : News h₀ L h6' ((L + 1 + 1 + 1, c3) :: (D, listOf ys.toArray kD) :: (tl, listOf vs'.toArray n') :: (led ++ [(L + 1, o1), (L + 2, o2), (x, instObj 231 dx), (dx, dictOf [⟨hsh, .str (PySem.Str.ofString "_headers") tk, .ref tl⟩] n)])) := fun p hp => N6 p (by
    rcases List.mem_cons.mp hp with rfl | hp
    · exact .tail _ (.tail _ (List.mem_append_right _ (.tail _ (.tail _ (.tail _ (.tail _ (.head _)))))))
    rcases List.mem_cons.mp hp with rfl | hp
    · exact .head _
    rcases List.mem_cons.mp hp with rfl | hp
    · exact .tail _ (.head _)
    rcases List.mem_append.mp hp with hp | hp
    · exact .tail _ (.tail _ (List.mem_append_left _ hp))
    · refine .tail _ (.tail _ (List.mem_append_right _ ?_))
      simp at hp ⊢
      rcases hp with q | q | q | q <;> simp [q])
  have hne3 : ∀ p ∈ (D, listOf ys.toArray kD) :: (tl, listOf vs'.toArray n') :: (led ++ [(L + 1, o1), (L + 2, o2), (x, instObj 231 dx), (dx, dictOf [⟨hsh, .str (PySem.Str.ofString "_headers") tk, .ref tl⟩] n)]), p.1 ≠ L + 1 + 1 + 1 := by
    have hd3 : ∀ p ∈ (D, listOf ys.toArray kD) :: (tl, listOf vs'.toArray n') :: led, p.1 ≠ L + 3 := fun p hp => hdist p hp (L + 3, c3) (by simp)
    intro p hp
    rcases List.mem_cons.mp hp with rfl | hp
    · exact hd3 _ (.head _)
    rcases List.mem_cons.mp hp with rfl | hp
    · exact hd3 _ (.tail _ (.head _))
    rcases List.mem_append.mp hp with hp | hp
    · exact hd3 _ (.tail _ (.tail _ hp))
    · simp only [List.mem_cons, List.not_mem_nil, or_false] at hp
      rcases hp with rfl | rfl | rfl | rfl
      · exact ne13
      · exact ne23
      · intro q
        have q' : x = L + 3 := q
        rw [q', g3] at gx
        cases gx
        cases d3
      · intro q
        have q' : dx = L + 3 := q
        rw [q', g3] at gdx
        cases gdx
        cases d3
  have hled6 : ∀ p ∈ led, p ∈ (D, listOf ys.toArray kD) :: (tl, listOf vs'.toArray n') :: (led ++ [(L + 1, o1), (L + 2, o2), (x, instObj 231 dx), (dx, dictOf [⟨hsh, .str (PySem.Str.ofString "_headers") tk, .ref tl⟩] n)]) := fun p hp => by simp [hp]
  have hx6 : HdrI ((D, listOf ys.toArray kD) :: (tl, listOf vs'.toArray n') :: (led ++ [(L + 1, o1), (L + 2, o2), (x, instObj 231 dx), (dx, dictOf [⟨hsh, .str (PySem.Str.ofString "_headers") tk, .ref tl⟩] n)])) x tl := ⟨dx, hsh, tk, n, by simp, by simp⟩
  have i1 : (L + 1, o1) ∈ (D, listOf ys.toArray kD) :: (tl, listOf vs'.toArray n') :: (led ++ [(L + 1, o1), (L + 2, o2), (x, instObj 231 dx), (dx, dictOf [⟨hsh, .str (PySem.Str.ofString "_headers") tk, .ref tl⟩] n)]) := by simp
  have i2 : (L + 1 + 1, o2) ∈ (D, listOf ys.toArray kD) :: (tl, listOf vs'.toArray n') :: (led ++ [(L + 1, o1), (L + 2, o2), (x, instObj 231 dx), (dx, dictOf [⟨hsh, .str (PySem.Str.ofString "_headers") tk, .ref tl⟩] n)]) := .tail _ (.tail _ (List.mem_append_right _ (.tail _ (.head _))))
  have iD : (D, listOf ys.toArray kD) ∈ (D, listOf ys.toArray kD) :: (tl, listOf vs'.toArray n') :: (led ++ [(L + 1, o1), (L + 2, o2), (x, instObj 231 dx), (dx, dictOf [⟨hsh, .str (PySem.Str.ofString "_headers") tk, .ref tl⟩] n)]) := .head _
  have it : (tl, listOf vs'.toArray n') ∈ (D, listOf ys.toArray kD) :: (tl, listOf vs'.toArray n') :: (led ++ [(L + 1, o1), (L + 2, o2), (x, instObj 231 dx), (dx, dictOf [⟨hsh, .str (PySem.Str.ofString "_headers") tk, .ref tl⟩] n)]) := .tail _ (.head _)
  generalize (D, listOf ys.toArray kD) :: (tl, listOf vs'.toArray n') :: (led ++ [(L + 1, o1), (L + 2, o2), (x, instObj 231 dx), (dx, dictOf [⟨hsh, .str (PySem.Str.ofString "_headers") tk, .ref tl⟩] n)]) = im at N6' hne3 hled6 hx6 i1 i2 iD it
  clear N6 hdist
  refine wpAny_execs_cons (st6 X T S' F6 N6' i2 it hled6 hx6 ho2 d3 hne3 h6 hab hpr fun W wvs kW o3 h7 tk7 F7 N7 ho3 hw => ?_)
  clear F6 N6'
  dsimp only
  refine wpAny_execs_cons (st7 X T S' F7 N7 (.tail _ (.tail _ i2)) (.tail _ (.head _)) (.head _) (.tail _ (.tail _ it)) (fun p hp => .tail _ (.tail _ (hled6 p hp))) (hx6.mono fun p hp => .tail _ (.tail _ hp)) ho2 ho3 h6 hab hpr hw P.p7 fun h8 tk8 F8 N8 => ?_)
  clear F7 N7
  dsimp only
  refine wpAny_execs_cons (st8 X T S' F8 N8 (.tail _ (.tail _ i1)) (.tail _ (.head _)) (.tail _ (.tail _ iD)) (.head _) (fun p hp => .tail _ (.tail _ (hled6 p hp))) ho1 ho3 hm6 h6 hab hys hw P.p8 fun h9 tk9 F9 N9 => ?_)
  clear F8 N8
  dsimp only
  refine wpAny_execs_cons (st9 X T S' F9 N9 (.tail _ (.tail _ i1)) (.tail _ (.head _)) (.head _) ho1 ho3 h6 hw P.p9 fun h10 tk10 m10 F10 N10 => ?_)
  clear F9 N9
  dsimp only
  refine wpAny_execs_cons (st10 X T S' F10 N10 (.tail _ (.tail _ i1)) ho1 h6 hab fun DC zs kC h11 tk11 m11 F11 N11 hm11 hzs htk => ?_)
  clear F10 N10
  dsimp only
  refine wpAny_execs_cons (st11 X T S' F11 N11 (.tail _ (.tail _ (.tail _ i1))) ho1 h6 hab hm11 fun h12 tk12 m12 F12 N12 hm12 hb12 hle => ?_)
  clear F11 N11
  dsimp only
  refine wpAny_execs_cons (st12 X T S' F12 N12 (.head _) hm12 hb12 hzs (by rw [List.length_map, List.length_range]; decide) htk hle P.p12 fun h13 tk13 m13 F13 => ?_)
  exact k _ _ _ F13
end

theorem calm_PLA : True := by w_top off; trivial
def ltL : List Nat → List Nat → Bool
  | [], [] => false
  | [], _ :: _ => true
  | _ :: _, [] => false
  | a :: x, b :: y => bif Nat.beq a b then ltL x y else Nat.blt a b
theorem ltL_iff : ∀ a b : List Nat, ltL a b = true ↔ a < b
  | [], [] => by simp [ltL]
  | [], _ :: _ => by simp [ltL]
  | _ :: _, [] => by simp [ltL]
  | a :: x, b :: y => by
    rw [List.cons_lt_cons_iff, ← ltL_iff x y]
    show (bif Nat.beq a b then ltL x y else Nat.blt a b) = true ↔ _
    by_cases h : a = b
    · subst h
      simp [Nat.beq_refl]
    · have hb : Nat.beq a b = false := by
        cases e : Nat.beq a b with
        | false => rfl
        | true => exact absurd (Nat.eq_of_beq_eq_true e) h
      rw [hb, cond_false]
      simp [h, Nat.blt, Nat.lt_iff_add_one_le]
def sqL : List Nat → List (List Nat) → List (List Nat)
  | x, [] => [x]
  | x, y :: r => bif ltL y x then sqL (x ++ y) r else x :: y :: r
/-- the pieces of a word -/
def hpL : List Nat → List (List Nat)
  | [] => []
  | c :: r => sqL [c] (hpL r)
theorem squash_sqL : ∀ (ps : List (List Nat)) (x : List Nat), squash (S x :: ps.map S) = (sqL x ps).map S
  | [], x => by unfold squash sqL; rfl
  | y :: r, x => by
    rw [List.map_cons]
    unfold squash sqL
    rw [S_list, S_list]
    by_cases h : y < x
    · rw [if_pos h, (ltL_iff y x).mpr h, cond_true, S_append]
      exact squash_sqL r (x ++ y)
    · have e : ltL y x = false := by
        cases e : ltL y x with
        | false => rfl
        | true => exact absurd ((ltL_iff y x).mp e) h
      rw [if_neg h, e, cond_false]
      rfl
def hp (v : List Nat) : List Str := up v.reverse
theorem hp_eq : ∀ v, hp v = (hpL v).map S
  | [] => rfl
  | c :: r => by
    unfold hp hpL
    rw [List.reverse_cons, up_snoc]
    have ih := hp_eq r
    unfold hp at ih
    rw [ih]
    exact squash_sqL (hpL r) [c]
theorem sqL_flat : ∀ (ps : List (List Nat)) (x : List Nat), (sqL x ps).flatten = x ++ ps.flatten
  | [], x => by simp [sqL]
  | y :: r, x => by
    unfold sqL
    cases ltL y x
    · simp
    · rw [cond_true, sqL_flat r (x ++ y)]; simp
theorem hpL_flat : ∀ v, (hpL v).flatten = v
  | [] => rfl
  | c :: r => by unfold hpL; rw [sqL_flat, hpL_flat r]; rfl
def nylB (v : List Nat) : Bool := match hpL v with
  | [_] => true
  | _ => false
theorem nyl_one {v : List Nat} (h : nylB v = true) : hpL v = [v] := by
  unfold nylB at h
  split at h
  · rename_i x e
    have := hpL_flat v
    rw [e] at this
    simp at this
    rw [e, this]
  · cases h
theorem nyl_of {v : List Nat} {x : Str} (h : hp v = [x]) : nylB v = true ∧ x = S v := by
  rw [hp_eq] at h
  obtain ⟨y, e, rfl⟩ : ∃ y, hpL v = [y] ∧ S y = x := by
    match hpL v, h with
    | [y], h => exact ⟨y, rfl, by simpa using h⟩
  have := hpL_flat v
  rw [e] at this
  simp at this
  refine ⟨by unfold nylB; rw [e], by rw [this]⟩
theorem hp_of {v : List Nat} (h : nylB v = true) : hp v = [S v] := by rw [hp_eq, nyl_one h]; rfl
theorem noteAll_new {low great : Str} {hs : List (Str × Str)} : ∀ cs, ∀ p ∈ (noteAll low great hs cs).2, p ∈ hs ∨ (p.1 = great ∧ ∃ j, 1 ≤ j ∧ j ≤ cs.length ∧ up (cs.take j) = [p.2]) :=
  list_end _ (fun _ h => .inl h) fun l a ih p hp => by
    have weak : ∀ p ∈ (noteAll low great hs l).2, p ∈ hs ∨ (p.1 = great ∧ ∃ j, 1 ≤ j ∧ j ≤ (l ++ [a]).length ∧ up ((l ++ [a]).take j) = [p.2]) := fun p hp =>
      (ih p hp).imp_right fun ⟨e, j, h1, h2, h3⟩ => ⟨e, j, h1, by rw [List.length_append]; omega, by rw [List.take_append_of_le_length h2]; exact h3⟩
    by_cases h1 : (squash (⟨#[a]⟩ :: up l)).length = 1
    · obtain ⟨x, hx⟩ := List.length_eq_one_iff.mp h1
      rw [note_one hx] at hp
      split at hp
      · exact weak p hp
      · rcases List.mem_append.mp hp with hp | hp
        · exact weak p hp
        · rw [List.mem_singleton.mp hp]
          refine .inr ⟨rfl, (l ++ [a]).length, by simp, Nat.le_refl _, ?_⟩
          rw [List.take_length, up_snoc]
          exact hx
    · rw [note_more h1] at hp
      exact weak p hp
theorem noteAll_sub {low great : Str} {hs : List (Str × Str)} : ∀ cs, ∀ p ∈ hs, p ∈ (noteAll low great hs cs).2 :=
  list_end _ (fun _ h => h) fun l a ih p hp => by
    rw [noteAll_snoc]
    rcases note_snd (low := low) (great := great) (st := noteAll low great hs l) (c := a) with e | ⟨x, e⟩ <;> rw [e]
    · exact ih p hp
    · exact List.mem_append_left _ (ih p hp)
theorem noteAll_has {low great : Str} {hs : List (Str × Str)} (hgl : Txt.lower great = low) : ∀ cs j x, 1 ≤ j → j ≤ cs.length → up (cs.take j) = [x] → ∃ p ∈ (noteAll low great hs cs).2, p.2 = x ∧ Txt.lower p.1 = low :=
  list_end _ (fun j x h1 h2 _ => absurd h2 (by simp; omega)) fun l a ih j x h1 h2 h3 => by
    by_cases hj : j ≤ l.length
    · rw [List.take_append_of_le_length hj] at h3
      obtain ⟨p, hp, e⟩ := ih j x h1 hj h3
      refine ⟨p, ?_, e⟩
      rw [noteAll_snoc]
      rcases note_snd (low := low) (great := great) (st := noteAll low great hs l) (c := a) with e | ⟨x, e⟩ <;> rw [e]
      · exact hp
      · exact List.mem_append_left _ hp
    · have hj' : j = (l ++ [a]).length := by rw [List.length_append, List.length_singleton] at h2 ⊢; omega
      rw [hj', List.take_length, up_snoc] at h3
      rw [note_one h3]
      split
      · rename_i hany
        obtain ⟨z, hz, ez⟩ := List.any_eq_true.mp hany
        unfold getAll at hz
        obtain ⟨p, hp, rfl⟩ := List.mem_map.mp hz
        obtain ⟨hp1, hp2⟩ := List.mem_filter.mp hp
        exact ⟨p, hp1, eq_of_beq ez, eq_of_beq hp2⟩
      · exact ⟨(great, x), List.mem_append_right _ (.head _), rfl, hgl⟩
theorem ls_up {l : List Nat} (h : Ab l) : Txt.lower (Txt.upper (ls l)) = Txt.lower (ls l) := by
  rcases ls_cases h with e | e | e | e <;> rw [e] <;> decide +kernel
theorem tab_sound {l : List Nat} : ∀ n, ∀ p ∈ tabTo l n, ∃ e k, e < n ∧ k < (l.take e).length ∧ p.1 = Txt.upper (ls (l.take e)) ∧ p.2 = S ((l.take e).drop k) ∧ nylB ((l.take e).drop k) = true
  | 0, _, hp => by cases hp
  | n + 1, p, hp => by
    unfold tabTo at hp
    rcases noteAll_new _ p hp with q | ⟨e1, j, j1, j2, j3⟩
    · obtain ⟨e, k, h1, h2⟩ := tab_sound n p q
      exact ⟨e, k, Nat.lt_succ_of_lt h1, h2⟩
    · rw [List.length_reverse] at j2
      rw [List.take_reverse] at j3
      obtain ⟨a, b⟩ := nyl_of j3
      exact ⟨n, (l.take n).length - j, Nat.lt_succ_self _, by omega, e1, b, a⟩
theorem tab_full {l : List Nat} (h : Ab l) : ∀ n e k, e < n → k < (l.take e).length → nylB ((l.take e).drop k) = true → ∃ p ∈ tabTo l n, p.2 = S ((l.take e).drop k) ∧ Txt.lower p.1 = Txt.lower (ls (l.take e))
  | 0, _, _, he, _, _ => absurd he (Nat.not_lt_zero _)
  | n + 1, e, k, he, hk, hn => by
    unfold tabTo
    by_cases q : e = n
    · subst q
      refine noteAll_has (ls_up (h.take e)) _ ((l.take e).length - k) _ (by omega) (by rw [List.length_reverse]; omega) ?_
      rw [List.take_reverse, show (l.take e).length - ((l.take e).length - k) = k by omega]
      exact hp_of hn
    · obtain ⟨p, hp, x⟩ := tab_full h n e k (by omega) hk hn
      exact ⟨p, noteAll_sub _ p hp, x⟩

theorem calm_PLB : True := by w_top off; trivial
theorem ends_iff {v u : List Nat} : Txt.endswith (S v) (S u) = true ↔ u.length ≤ v.length ∧ v.drop (v.length - u.length) = u := by
  have e : Txt.endswith (S v) (S u) = (decide (0 + (S u).length ≤ (S v).length) && Builtin.Str.subAt (S v) (S u) ((S v).length - (S u).length)) := rfl
  rw [e, StrLaws.subAt_eq, S_list, S_list, S_len, S_len, Bool.and_eq_true, decide_eq_true_eq, Nat.zero_add]
  refine and_congr_right fun h => ?_
  rw [List.take_of_length_le (by rw [List.length_drop]; omega)]
  exact beq_iff_eq
/-- the longest last part that is one piece -/
def lastN : List Nat → List Nat
  | [] => []
  | c :: r => bif nylB (c :: r) then c :: r else lastN r
theorem nyl_one_sign (c : Nat) : nylB [c] = true := rfl
theorem lastN_at : ∀ v : List Nat, ∃ k, k ≤ v.length ∧ lastN v = v.drop k
  | [] => ⟨0, Nat.le_refl _, rfl⟩
  | c :: r => by
    unfold lastN
    cases nylB (c :: r)
    · obtain ⟨k, h, e⟩ := lastN_at r
      exact ⟨k + 1, Nat.succ_le_succ h, e⟩
    · exact ⟨0, Nat.zero_le _, rfl⟩
theorem lastN_nyl : ∀ v : List Nat, v ≠ [] → nylB (lastN v) = true ∧ lastN v ≠ []
  | [], h => absurd rfl h
  | [c], _ => ⟨rfl, by show (bif nylB [c] then [c] else lastN []) ≠ []; rw [nyl_one_sign]; simp⟩
  | c :: d :: r, _ => by
    unfold lastN
    cases e : nylB (c :: d :: r)
    · exact lastN_nyl (d :: r) (by simp)
    · exact ⟨e, by simp⟩
theorem lastN_max : ∀ (v : List Nat) (k : Nat), nylB (v.drop k) = true → (v.drop k).length ≤ (lastN v).length
  | [], k, _ => by simp
  | c :: r, 0, h => by
    rw [List.drop_zero] at h ⊢
    unfold lastN
    rw [h]
    exact Nat.le_refl _
  | c :: r, k + 1, h => by
    rw [List.drop_succ_cons] at h ⊢
    have ih := lastN_max r k h
    unfold lastN
    cases nylB (c :: r)
    · exact ih
    · refine Nat.le_trans ih ?_
      obtain ⟨j, _, e⟩ := lastN_at r
      rw [e, List.length_drop]
      simp
      omega
theorem lastOf_spec (y : Str) : ∀ ws : List Str, (lastOf y ws = ⟨#[]⟩ ∨ (lastOf y ws ∈ ws ∧ Txt.endswith y (lastOf y ws) = true)) ∧ ∀ w ∈ ws, Txt.endswith y w = true → w.length ≤ (lastOf y ws).length :=
  list_end _ ⟨.inl rfl, fun _ h => nomatch h⟩ fun l a ih => by
    have e : lastOf y (l ++ [a]) = longer y (lastOf y l) a := by unfold lastOf; rw [List.foldl_append]; rfl
    rw [e]
    unfold longer
    split
    · rename_i h
      refine ⟨.inr ⟨by simp, h.1⟩, fun w hw he => ?_⟩
      rcases List.mem_append.mp hw with hw | hw
      · exact Nat.le_of_lt (Nat.lt_of_le_of_lt (ih.2 w hw he) h.2)
      · rw [List.mem_singleton.mp hw]; exact Nat.le_refl _
    · rename_i h
      refine ⟨ih.1.imp id fun q => ⟨List.mem_append_left _ q.1, q.2⟩, fun w hw he => ?_⟩
      rcases List.mem_append.mp hw with hw | hw
      · exact ih.2 w hw he
      · rw [List.mem_singleton.mp hw] at he ⊢
        exact Nat.le_of_not_lt fun q => h ⟨he, q⟩
theorem mem_getAll {hs : List (Str × Str)} {low wd : Str} : wd ∈ getAll hs low ↔ ∃ p ∈ hs, Txt.lower p.1 = low ∧ p.2 = wd := by
  unfold getAll
  constructor
  · intro h
    obtain ⟨p, hp, e⟩ := List.mem_map.mp h
    obtain ⟨h1, h2⟩ := List.mem_filter.mp hp
    exact ⟨p, h1, eq_of_beq h2, e⟩
  · rintro ⟨p, hp, h1, e⟩
    exact List.mem_map.mpr ⟨p, List.mem_filter.mpr ⟨hp, by rw [h1]; exact beq_self_eq_true _⟩, e⟩
theorem S_inj {a b : List Nat} (h : S a = S b) : a = b := by
  have := congrArg (fun x : Str => x.cps.toList) h
  simpa [S] using this
theorem lastTo_eq {l : List Nat} (h : Ab l) (h6 : l.length = 6) {i : Nat} (h1 : 1 ≤ i) (hi : i ≤ 6) : lastTo l i = S (lastN (l.take i)) := by
  have hv : (l.take i).length = i := by rw [List.length_take]; omega
  have hne : l.take i ≠ [] := fun q => by rw [q] at hv; simp at hv; omega
  obtain ⟨k, hk, ek⟩ := lastN_at (l.take i)
  obtain ⟨hn, hz⟩ := lastN_nyl _ hne
  have hk' : k < (l.take i).length := by
    refine Nat.lt_of_le_of_ne hk fun q => hz ?_
    rw [ek, q, List.drop_length]
  obtain ⟨hs1, hs2⟩ := lastOf_spec (S (l.take i)) (getAll (tabTo l 7) (Txt.lower (ls (l.take i))))
  have hin : S (lastN (l.take i)) ∈ getAll (tabTo l 7) (Txt.lower (ls (l.take i))) := by
    obtain ⟨p, hp, e1, e2⟩ := tab_full h 7 i k (by omega) hk' (by rw [← ek]; exact hn)
    exact mem_getAll.mpr ⟨p, hp, e2, by rw [e1, ek]⟩
  have hle := hs2 _ hin (ends_iff.mpr ⟨by rw [ek, List.length_drop]; omega, by rw [ek, List.length_drop, show (l.take i).length - ((l.take i).length - k) = k by omega]⟩)
  rw [S_len] at hle
  have hpos : 0 < (lastN (l.take i)).length := List.length_pos_iff.mpr hz
  unfold lastTo
  generalize lastOf (S (l.take i)) (getAll (tabTo l 7) (Txt.lower (ls (l.take i)))) = r at hs1 hle ⊢
  rcases hs1 with q | ⟨hm, he⟩
  · rw [q] at hle
    exact absurd hle (by show ¬ _ ≤ 0; omega)
  · obtain ⟨p, hp, _, rfl⟩ := mem_getAll.mp hm
    obtain ⟨e, k2, _, _, _, ep, en⟩ := tab_sound 7 p hp
    rw [ep] at he hle ⊢
    generalize hu : (l.take e).drop k2 = u at en he hle ⊢
    obtain ⟨h3, h4⟩ := ends_iff.mp he
    rw [S_len] at hle
    have h5 := lastN_max (l.take i) ((l.take i).length - u.length) (by rw [h4]; exact en)
    rw [h4] at h5
    have h7 : u.length = (lastN (l.take i)).length := Nat.le_antisymm h5 hle
    congr 1
    rw [← h4, h7, ek, List.length_drop, show (l.take i).length - ((l.take i).length - k) = k by omega]

theorem calm_PLC : True := by w_top off; trivial
theorem ls_drop {v : List Nat} {k : Nat} (h : k < v.length) : ls (v.drop k) = ls v := by
  unfold ls
  rw [List.drop_drop, List.length_drop, show k + (v.length - k - 1) = v.length - 1 by omega]
theorem ls_some {v : List Nat} (h : Ab v) (hz : 0 < v.length) : ls v = S [97] ∨ ls v = S [98] ∨ ls v = S [99] := by
  rcases ls_cases h with e | q
  · unfold ls at e
    have := congrArg List.length (S_inj e)
    rw [List.length_drop] at this
    simp at this
    omega
  · exact q
theorem sign_eq {z : Str} {i : Nat} (hi : i < 3) (h : z = S [97] ∨ z = S [98] ∨ z = S [99]) : (Txt.lower (Txt.upper z) == Txt.lower (S [97 + i])) = (z == S [97 + i]) := by
  match i, hi with
  | 0, _ => rcases h with e | e | e <;> rw [e] <;> decide +kernel
  | 1, _ => rcases h with e | e | e <;> rw [e] <;> decide +kernel
  | 2, _ => rcases h with e | e | e <;> rw [e] <;> decide +kernel
theorem plain7 {l : List Nat} (h : Ab l) (i : Nat) (hi : i < 3) : getAll (tabTo l 7) (Txt.lower (S [97 + i])) = ((tabTo l 7).map (·.2)).filter fun w => Txt.slice w (some (-1)) none == S [97 + i] := by
  unfold getAll
  rw [List.filter_map]
  congr 1
  refine List.filter_congr fun p hp => ?_
  obtain ⟨e, k, _, hk, e1, e2, _⟩ := tab_sound 7 p hp
  show (Txt.lower p.1 == _) = (Txt.slice p.2 (some (-1)) none == _)
  rw [e1, e2, slice_last]
  have e3 : S (((l.take e).drop k).drop (((l.take e).drop k).length - 1)) = ls (l.take e) := ls_drop hk
  rw [e3]
  exact sign_eq hi (ls_some (h.take e) (by omega))
def okL (p : List Nat) (c : List (List Nat)) : Bool := match c.getLast? with
  | none => true
  | some a => !(ltL p a)
def FL (v : List Nat) : Nat → List (List (List Nat))
  | 0 => []
  | k + 1 => FL v k ++ (bif nylB (v.drop k) && okL (v.drop k) (hpL (v.take k)) then [hpL (v.take k) ++ [v.drop k]] else [])
theorem okL_eq (p : List Nat) (c : List (List Nat)) : okCut leStr (S p) (c.map S) = okL p c := by
  unfold okCut okL
  rw [List.getLast?_map]
  cases c.getLast? with
  | none => rfl
  | some a =>
    show leStr (S a) (S p) = !(ltL p a)
    unfold leStr
    rw [S_list, S_list]
    by_cases h : p < a
    · rw [(ltL_iff p a).mpr h, decide_eq_false (fun q => q h)]; rfl
    · have e : ltL p a = false := by
        cases e : ltL p a with
        | false => rfl
        | true => exact absurd ((ltL_iff p a).mp e) h
      rw [e, decide_eq_true h]; rfl
theorem grow_one (le : Str → Str → Bool) (p : Str) (c : List Str) : grow le p [c] = if okCut le p c = true then [c ++ [p]] else [] := by
  unfold grow
  by_cases h : okCut le p c = true
  · simp [h]
  · simp [h]
theorem found_eq {z : List Nat} {W : List Str} {rows : List (List (List Str))} {e : Nat} (he : e + 1 ≤ z.length) (hrows : ∀ k, k ≤ e → rows[k]? = some [hp (z.take k)])
    (hW : ∀ k, k ≤ e → W.any (· == S ((z.drop k).take (e + 1 - k))) = nylB ((z.drop k).take (e + 1 - k))) :
    ∀ k, k ≤ e + 1 → foundTo leStr (S z) W rows (e + 1) k = (FL (z.take (e + 1)) k).map (·.map S)
  | 0, _ => rfl
  | k + 1, hk => by
    unfold foundTo FL
    rw [found_eq he hrows hW k (by omega), List.map_append]
    congr 1
    dsimp only
    rw [slice_mid (by omega) he, hW k (by omega), hrows k (by omega), List.drop_take, List.take_take, Nat.min_eq_left (by omega), Option.getD_some, grow_one, hp_eq, okL_eq]
    generalize (z.drop k).take (e + 1 - k) = u
    cases nylB u
    · rfl
    · cases okL u (hpL (z.take k))
      · rfl
      · simp
theorem rows_eq {z : List Nat} {W : List Str} (hW : ∀ k e, k < e → e ≤ z.length → W.any (· == S ((z.drop k).take (e - k))) = nylB ((z.drop k).take (e - k)))
    (d8 : ∀ e, e < z.length → FL (z.take (e + 1)) (e + 1) = [hpL (z.take (e + 1))]) : ∀ e, e ≤ z.length → rowsTo leStr (S z) W e = (List.range (e + 1)).map fun j => [hp (z.take j)]
  | 0, _ => rfl
  | e + 1, he => by
    unfold rowsTo
    have ih := rows_eq hW d8 e (by omega)
    rw [ih, List.range_succ (n := e + 1), List.map_append]
    congr 1
    rw [found_eq he (fun k hk => by rw [List.getElem?_map, List.getElem?_range (by omega)]; rfl) (fun k hk => hW k (e + 1) (by omega) he) (e + 1) (Nat.le_refl _), d8 e he]
    show [[_]] = [[_]]
    rw [hp_eq]
theorem words_iff {l : List Nat} (h : Ab l) (h6 : l.length = 6) {k e : Nat} (hk : k < e) (he : e ≤ 6) : ((tabTo l 7).map (·.2)).any (· == S ((l.drop k).take (e - k))) = nylB ((l.drop k).take (e - k)) := by
  have hd : (l.drop k).take (e - k) = (l.take e).drop k := List.drop_take.symm
  cases hn : nylB ((l.drop k).take (e - k)) with
  | true =>
    rw [hd] at hn
    obtain ⟨p, hp, e1, _⟩ := tab_full h 7 e k (by omega) (by rw [List.length_take]; omega) hn
    exact List.any_eq_true.mpr ⟨p.2, List.mem_map_of_mem hp, by rw [e1, hd]; exact beq_self_eq_true _⟩
  | false =>
    cases hq : ((tabTo l 7).map (·.2)).any (· == S ((l.drop k).take (e - k))) with
    | false => rfl
    | true =>
      obtain ⟨w, hw, ew⟩ := List.any_eq_true.mp hq
      obtain ⟨p, hp, rfl⟩ := List.mem_map.mp hw
      obtain ⟨e', k', _, _, _, e2, e3⟩ := tab_sound 7 p hp
      have := eq_of_beq ew
      rw [e2] at this
      rw [S_inj this, hn] at e3
      cases e3
def cnt (l : List Nat) : Nat := (List.range 6).countP fun k => nylB (rot l k)
def eqv : List Nat → List Nat → Bool
  | [], [] => true
  | a :: x, b :: y => bif Nat.beq a b then eqv x y else false
  | _, _ => false
theorem eqv_iff : ∀ a b : List Nat, eqv a b = true ↔ a = b
  | [], [] => by simp [eqv]
  | [], _ :: _ => by simp [eqv]
  | _ :: _, [] => by simp [eqv]
  | a :: x, b :: y => by
    show (bif Nat.beq a b then eqv x y else false) = true ↔ _
    rw [List.cons.injEq, ← eqv_iff x y]
    by_cases h : a = b
    · subst h
      simp [Nat.beq_refl]
    · have hb : Nat.beq a b = false := by
        cases e : Nat.beq a b with
        | false => rfl
        | true => exact absurd (Nat.eq_of_beq_eq_true e) h
      rw [hb, cond_false]
      simp [h]
def prim (l : List Nat) : Bool := !(eqv (rot l 1) l || eqv (rot l 2) l || eqv (rot l 3) l || eqv (rot l 4) l || eqv (rot l 5) l)
theorem nylB_len (v : List Nat) : (((hp v).length : Int) == 1) = nylB v := by
  rw [hp_eq, List.length_map]
  unfold nylB
  match hpL v with
  | [] => rfl
  | [_] => rfl
  | _ :: _ :: r =>
    show (((r.length + 1 + 1 : Nat) : Int) == 1) = false
    rw [beq_eq_false_iff_ne]
    omega
theorem whole_eq {l : List Nat} (h6 : l.length = 6) : wholeOf l = prim l := by
  match l, h6 with
  | [a, b, c, d, e, f], _ =>
    have em : Txt.slice (S [a, b, c, d, e, f] ++ S [a, b, c, d, e, f]) (some 1) (some (-1)) = S [b, c, d, e, f, a, b, c, d, e] := by
      rw [S_append]
      show StrLaws.sliceText _ _ _ = _
      rw [StrLaws.sliceText_neg_hi _ _ (by decide) (by rw [S_len]; exact (by decide : -((12 : Nat) : Int) ≤ -1)), S_len]
      exact StrLaws.sliceText_nat (S _) (a := 1) (b := 11) (by decide) (by rw [S_len]; exact (by decide : 11 ≤ 12))
    unfold wholeOf
    rw [em]
    have key := StrLaws.found_iff (S [b, c, d, e, f, a, b, c, d, e]) (S [a, b, c, d, e, f])
    have hr : (∃ i, i + (S [a, b, c, d, e, f]).length ≤ (S [b, c, d, e, f, a, b, c, d, e]).length ∧ Builtin.Str.subAt (S [b, c, d, e, f, a, b, c, d, e]) (S [a, b, c, d, e, f]) i = true) ↔ prim [a, b, c, d, e, f] = false := by
      unfold prim
      rw [Bool.not_eq_false']
      simp only [Bool.or_eq_true, eqv_iff, S_len]
      constructor
      · rintro ⟨i, hi, hs⟩
        rw [StrLaws.subAt_eq, S_list, S_list, S_len] at hs
        have hs := eq_of_beq hs
        match i, hi, hs with
        | 0, _, hs => exact .inl (.inl (.inl (.inl hs)))
        | 1, _, hs => exact .inl (.inl (.inl (.inr hs)))
        | 2, _, hs => exact .inl (.inl (.inr hs))
        | 3, _, hs => exact .inl (.inr hs)
        | 4, _, hs => exact .inr hs
        | i + 5, hi, _ => exact absurd hi (by simp)
      · have mk : ∀ i, i ≤ 4 → ([b, c, d, e, f, a, b, c, d, e].drop i).take 6 = [a, b, c, d, e, f] → ∃ i, i + [a, b, c, d, e, f].length ≤ [b, c, d, e, f, a, b, c, d, e].length ∧ Builtin.Str.subAt (S [b, c, d, e, f, a, b, c, d, e]) (S [a, b, c, d, e, f]) i = true := fun i hi q =>
          ⟨i, by simp; omega, by rw [StrLaws.subAt_eq, S_list, S_list, S_len]; exact beq_iff_eq.mpr q⟩
        rintro ((((q | q) | q) | q) | q)
        · exact mk 0 (by decide) q
        · exact mk 1 (by decide) q
        · exact mk 2 (by decide) q
        · exact mk 3 (by decide) q
        · exact mk 4 (by decide) q
    rw [hr] at key
    generalize (Builtin.Str.occurrences _ _ _ _ _).isEmpty = b at key ⊢
    cases b <;> cases hp : prim [a, b, c, d, e, f] <;> simp_all

theorem calm_PLD : True := by w_top off; trivial
def eqs : List (List Nat) → List (List Nat) → Bool
  | [], [] => true
  | a :: x, b :: y => bif eqv a b then eqs x y else false
  | _, _ => false
theorem eqs_eq : ∀ a b : List (List Nat), eqs a b = true → a = b
  | [], [], _ => rfl
  | a :: x, b :: y, h => by
    have h' : (bif eqv a b then eqs x y else false) = true := h
    cases e : eqv a b with
    | false => rw [e] at h'; cases h'
    | true =>
      rw [e] at h'
      rw [(eqv_iff a b).mp e, eqs_eq x y h']
  | [], _ :: _, h => by cases h
  | _ :: _, [], h => by cases h
def chk5 (v : List Nat) : Bool := eqs (hpL v) (hpL (v.take (v.length - (lastN v).length)) ++ [lastN v])
def chk8 (v : List Nat) : Bool := match FL v v.length with
  | [a] => eqs a (hpL v)
  | _ => false
def chk12 (l : List Nat) : Bool := Nat.beq (cnt l) (bif prim l then 1 else 0)
def allW : Nat → List (List Nat)
  | 0 => [[]]
  | n + 1 => (allW n).flatMap fun r => [97 :: r, 98 :: r, 99 :: r]
theorem mem_allW : ∀ (n : Nat) (v : List Nat), v.length = n → Ab v → v ∈ allW n
  | 0, [], _, _ => .head _
  | n + 1, c :: r, h, hv => by
    unfold allW
    refine List.mem_flatMap.mpr ⟨r, mem_allW n r (by simpa using h) fun x hx => hv x (.tail _ hx), ?_⟩
    rcases hv c (.head _) with rfl | rfl | rfl <;> simp
def chk (v : List Nat) : Bool := chk5 v && chk8 v
theorem w1 : (allW 1).all chk = true := by decide +kernel
theorem w2 : (allW 2).all chk = true := by decide +kernel
theorem w3 : (allW 3).all chk = true := by decide +kernel
theorem w4 : (allW 4).all chk = true := by decide +kernel
theorem w5 : (allW 5).all chk = true := by decide +kernel
theorem w6a : (allW 5).all (fun r => chk (97 :: r)) = true := by decide +kernel
theorem w6b : (allW 5).all (fun r => chk (98 :: r)) = true := by decide +kernel
theorem w6c : (allW 5).all (fun r => chk (99 :: r)) = true := by decide +kernel
theorem r6a : (allW 5).all (fun r => chk12 (97 :: r)) = true := by decide +kernel
theorem r6b : (allW 5).all (fun r => chk12 (98 :: r)) = true := by decide +kernel
theorem r6c : (allW 5).all (fun r => chk12 (99 :: r)) = true := by decide +kernel
theorem six {p : List Nat → Bool} (a : (allW 5).all (fun r => p (97 :: r)) = true) (b : (allW 5).all (fun r => p (98 :: r)) = true) (c : (allW 5).all (fun r => p (99 :: r)) = true) {v : List Nat} (hv : Ab v) (h6 : v.length = 6) : p v = true := by
  match v, h6 with
  | d :: r, h6 =>
    have hr := mem_allW 5 r (by simpa using h6) fun x hx => hv x (.tail _ hx)
    rcases hv d (.head _) with rfl | rfl | rfl
    · exact List.all_eq_true.mp a r hr
    · exact List.all_eq_true.mp b r hr
    · exact List.all_eq_true.mp c r hr
theorem chk_all {v : List Nat} (hv : Ab v) (h1 : 1 ≤ v.length) (h6 : v.length ≤ 6) : chk v = true := by
  have h : v.length = 1 ∨ v.length = 2 ∨ v.length = 3 ∨ v.length = 4 ∨ v.length = 5 ∨ v.length = 6 := by omega
  rcases h with h | h | h | h | h | h
  · exact List.all_eq_true.mp w1 v (mem_allW _ v h hv)
  · exact List.all_eq_true.mp w2 v (mem_allW _ v h hv)
  · exact List.all_eq_true.mp w3 v (mem_allW _ v h hv)
  · exact List.all_eq_true.mp w4 v (mem_allW _ v h hv)
  · exact List.all_eq_true.mp w5 v (mem_allW _ v h hv)
  · exact six w6a w6b w6c hv h
theorem d5 {v : List Nat} (hv : Ab v) (h1 : 1 ≤ v.length) (h6 : v.length ≤ 6) : hpL v = hpL (v.take (v.length - (lastN v).length)) ++ [lastN v] :=
  eqs_eq _ _ (Bool.and_eq_true_iff.mp (chk_all hv h1 h6)).1
theorem d8 {v : List Nat} (hv : Ab v) (h1 : 1 ≤ v.length) (h6 : v.length ≤ 6) : FL v v.length = [hpL v] := by
  have h := (Bool.and_eq_true_iff.mp (chk_all hv h1 h6)).2
  unfold chk8 at h
  split at h
  · rename_i a e
    rw [e, eqs_eq _ _ h]
  · cases h
theorem plain5 {l : List Nat} (hl : Ab l) (h6 : l.length = 6) (i : Nat) (h1 : 1 ≤ i) (hi : i ≤ 6) : (lastTo l i).length ≤ i ∧ heapTo l i = heapTo l (i - (lastTo l i).length) ++ [lastTo l i] := by
  have hv : (l.take i).length = i := by rw [List.length_take]; omega
  rw [lastTo_eq hl h6 h1 hi, S_len]
  obtain ⟨k, hk, ek⟩ := lastN_at (l.take i)
  refine ⟨by rw [ek, List.length_drop]; omega, ?_⟩
  have e := d5 (hl.take i) (by omega) (by omega)
  rw [hv, List.take_take, Nat.min_eq_left (by omega)] at e
  show hp (l.take i) = hp (l.take _) ++ _
  rw [hp_eq, hp_eq, e, List.map_append]
  rfl
theorem plain_rows {z : List Nat} {W : List Str} (hz : Ab z) (h6 : z.length ≤ 6) (hW : ∀ k e, k < e → e ≤ z.length → W.any (· == S ((z.drop k).take (e - k))) = nylB ((z.drop k).take (e - k))) :
    rowsTo leStr (S z) W z.length = (List.range (z.length + 1)).map fun j => [hp (z.take j)] :=
  rows_eq hW (fun e he => by
    have hv : (z.take (e + 1)).length = e + 1 := by rw [List.length_take]; omega
    have := d8 (hz.take (e + 1)) (by omega) (by omega)
    rwa [hv] at this) _ (Nat.le_refl _)
theorem plain_all : ∀ l : List Nat, l.length = 6 → Ab l → Plain l := fun l h6 hl => by
  refine ⟨plain5 hl h6, plain7 hl, ?_, ?_, ?_⟩
  · have := plain_rows (W := (tabTo l 7).map (·.2)) hl (by omega) fun k e hk he => words_iff hl h6 hk (by omega)
    rw [h6] at this
    exact this
  · intro p h1 h5
    have hz : (l.drop p).length = 6 - p := by rw [List.length_drop]; omega
    have := plain_rows (W := (tabTo l 7).map (·.2)) (hl.drop p) (by omega) fun k e hk he => by
      rw [List.drop_drop, show e - k = (p + e) - (p + k) by omega]
      exact words_iff hl h6 (by omega) (by omega)
    rw [hz] at this
    rw [this, List.map_map, show (List.length ∘ fun j => [hp ((l.drop p).take j)]) = fun _ => 1 from rfl, List.map_const', List.length_range, show 6 - p + 1 = 7 - p by omega]
  · rw [whole_eq h6, List.countP_map]
    have e : ((fun x : Int => x == 1) ∘ fun k => ((up (rot l k).reverse).length : Int)) = fun k => nylB (rot l k) := funext fun k => nylB_len (rot l k)
    rw [e]
    have h := Nat.eq_of_beq_eq_true (six r6a r6b r6c hl h6)
    show cnt l = _
    rw [h]
    cases prim l <;> rfl

theorem calm_LN : True := by w_top off; trivial
theorem fin_test : PySem.Challenge.rw_tc0036_01.Holds := hd (by
  k_go0
  all_goals try k_fold
  rename Frag.In _ _ => KX
  rename Top _ _ _ _ _ _ => TT
  rename Fr _ _ _ _ => F1
  rename News _ _ _ _ => N1
  rename IntsAre _ _ => hI1
  rename Heap.IsList _ _ _ => hL1
  rename (¬ _ < _) => hlen
  refine' law_run plain_all KX TT ?gS F1 N1 ?g1 ?g2 ?g3 hL1 hI1 ?gm ?gz ?gk
  case g1 => assumption
  case g2 => assumption
  case g3 => assumption
  case gS => exact ⟨rfl, by rw [depth_deeper]; decide, by rw [units_deeper]; decide⟩
  case gm => rfl
  case gz =>
    rw [List.size_toArray, hI1.length, sizeLine_eq]
    omega
  case gk =>
    intro h' tk' m' F'
    wrow_close)
end Mine36

theorem PySem.Challenge.cw_tc0036_01_holds : PySem.Challenge.rw_tc0036_01.Holds := by
  exact Mine36.fin_test
