import PyProof.Rows.All
import Wide.All
import OpenK.AllK
import Wide.FinOn
import PySem.Challenge.RW_wj0026_01
set_option Elab.async false
set_option rowWalk.seconds 0
open PySem PySem.W PyProof.Rows
-- HD
theorem Mine.atHD : True ∧ True := by
  w_top off
  k_with_none
  first | (walk1; fail) | exact ⟨trivial, trivial⟩
section
open PySem PySem.W PyProof.Rows
set_option maxRecDepth 100000
set_option maxHeartbeats 8000000
namespace Mine
/-- the statements of the text that the view keeps: all but four -/
def seenAt : List Nat := [1, 2, 3, 4, 5, 7, 8, 9, 10, 11, 12, 13, 15, 16, 18, 19, 20, 21, 22, 23, 24, 25, 26, 27, 28]
abbrev lawView : Program := view PySem.Challenge.rw_wj0026_01.row.prog seenAt
theorem law_said : OpenLaw.wellSaid PySem.Challenge.rw_wj0026_01 = true := by rw [Fast.te9446332074065402090]; kernel_rfl
local macro_rules | `(tactic| o_law) => `(tactic| refine holds_law law_said fun said => ?_)
/-- the head at once: the top is run in one piece -/
local macro_rules | `(tactic| o_head $H) => do
  let hw := Lean.mkIdent `hw
  let hc := Lean.mkIdent `hc
  `(tactic| (refine holds_open (q := lawView) (loose := []) (Xt := fun s => xlAt lawView [] s && recOk (RowW.records (OpenRow.toRowW PySem.Challenge.rw_wj0026_01.row)) s) (XP := XL lawView []) (Yf := Hook.obs $H) (Ya := Hook.val $H) (YP := Hook.says $H) (N := 2826) ?hl (Hook.of $H) (Hook.keeps $H) (fun s e => xl_of s (Bool.and_eq_true_iff.mp e).1) XL.keeps (by rfl) (by rfl) (by rfl) (fun s e => recFacts_of (Bool.and_eq_true_iff.mp e).2) (by rfl) (by assumption) (by decide +kernel) ⟨rfl, rfl, rfl, rfl, rfl, by decide +kernel⟩ ?$hw ?$hc; (case hl => (intro w; unfold openEnds topFrom; rw [Fast.te14364793385576792824, Fast.te14082659384304107361, Fast.te4187177175401517315]; kernel_rfl)); all_goals try clear said))
open_top hd for PySem.Challenge.rw_wj0026_01
end Mine
end
-- Base
theorem Mine.atBase : True ∧ True := by
  w_top off
  k_with_none
  first | (walk1; fail) | exact ⟨trivial, trivial⟩
section
open PySem PySem.W PySem.Spec PySem.Calls PyProof.Rows
set_option maxRecDepth 100000
set_option maxHeartbeats 8000000
namespace Mine
abbrev Keeps (h h' : Heap) : Prop := ∀ b o, h.get? b = some o → h'.get? b = some o

def AllNe (a : Nat) : List (Addr × Obj) → Prop
  | [] => True
  | p :: r => @Ne Nat p.1 a ∧ AllNe a r
theorem allNe_all {a : Nat} : ∀ {own : List (Addr × Obj)}, (∀ p ∈ own, @Ne Nat p.1 a) → AllNe a own
  | [], _ => trivial
  | _ :: _, h => ⟨h _ (.head _), allNe_all fun p hp => h p (.tail _ hp)⟩
theorem allNe_mem {a : Nat} {own : List (Addr × Obj)} (h : AllNe a own) : ∀ p ∈ own, @Ne Nat p.1 a := by
  induction own with
  | nil => intro p hp; cases hp
  | cons q r ih =>
    intro p hp
    rcases List.mem_cons.mp hp with e | e
    · rw [e]; exact h.1
    · exact ih h.2 p e
/-- what a call made lies apart from what stood -/
theorem allNe_news {h₀ h h' : Heap} {L L' : Addr} {news nx : List (Addr × Obj)} {a : Addr} {o : Obj} (N : News h₀ L h news) (N' : News h L' h' nx) (hm : (a, o) ∈ nx) : AllNe a news := allNe_all fun q hq e => by
  have h1 := (N' _ hm).2.2
  have h2 := (N q hq).1
  rw [show q.1 = a from e] at h2
  rw [show ((a, o) : Addr × Obj).1 = a from rfl, h2] at h1
  cases h1
/-- entering a plain def: all that stands is the callee's ground, but the listed ledger -/
theorem enterA {prog : Program} {w : World} {dp un : Nat} {gd : Option (List Code)} {cn : Str} {cs : Scope} {L a : Addr} {ccd : Value} {cl : List (Str × Addr)} {outer : List Env}
    {A₀ : Around} {base h₀ : Heap} {m mg mb : Str → Option Value} {p : Program} {loose : List Str} {mean : ExcName → Option Value} {K : Frag} {news : List (Addr × Obj)} {s : Shared} {Q E : Value → Shared → Prop}
    {name qual : Str} {params : Arguments} {body : List Stmt} {scope : Scope} {dV kV doc pm cdv ct oc : Value} {an od : Option Addr} {osl : Array (Option Value)} {f : Addr} {args : List Value} {binds : List (Str × Value)}
    (B : Below A₀ base outer h₀) (F : Fr h₀ L s.heap m) (X₀ : K.In h₀) (N : News h₀ L s.heap news) (T : Top p loose mean mg mb h₀) (hke : cs.kind = .function)
    (ho : K.lookup f = some ⟨oc, od, .func (fnOf name qual params body scope dV kV doc pm an cdv ct), osl⟩) (hcd : codeIn K cdv qual = true) (hroom : dp < recursionLimit)
    (hbind : BindsTo s (fnOf name qual params body scope dV kV doc pm an cdv ct) ⟨args, []⟩ binds) (hloc : ∀ y ∈ binds, scope.names.lookup y.1 = some .local)
    (hco : scope.isCoroutine = false) (hgen : scope.isGenerator = false) (hk : scope.kind = .function)
    (hcell : ∀ x ∈ scope.names, x.2 ≠ .cell)
    (h : ∀ g L' h₁, g = hideAll s.heap (news.map (·.1)) → Fr g L' h₁ (fun y => binds.reverse.lookup y) → News g L' h₁ news → (∀ p ∈ news, p.1 < L') →
      Below (ktrTop dp un gd cn cs L a ccd cl outer) base (envX cn cs L a ccd cl :: outer) g → K.In g → Top p loose mean mg mb g →
      wpAny (model prog w) ((ktrTop dp un gd cn cs L a ccd cl outer).deeper (envOf qual scope L' f cdv)) (execs body (envOf qual scope L' f cdv))
        (fun fl s' => Q (match fl with | .ret v => v | _ => .none) s')
        (fun e s' => wpAny (model prog w) ((ktrTop dp un gd cn cs L a ccd cl outer).deeper (envOf qual scope L' f cdv)) (leaving (envOf qual scope L' f cdv) e) (fun _ s'' => E e s'') (fun e' s'' => E e' s'') s')
        { s with heap := h₁, toks := s.toks + binds.length }) :
    wpAny (model prog w) (ktrTop dp un gd cn cs L a ccd cl outer) (call (.ref f) args) Q E s := by
  obtain ⟨FG, BG, st, -⟩ := groundX (A := ktrTop dp un gd cn cs L a ccd cl outer) (R := fun _ _ => True) (env := envX cn cs L a ccd cl) B F N rfl rfl hke
  refine wpAny_call (codeAny_call_def (fd := fnOf name qual params body scope dV kV doc pm an cdv ct) (body := body) (binds := binds) hroom ((X₀.keeps F.keep) _ _ ho) rfl
    (T.nolimit.keeps F.keep) (codeRec_of (X₀.keeps F.keep) hcd) rfl hbind hcell hloc (fun h₁ hns hk₁ => ?_) hco hgen hk)
  exact h _ s.heap.objs.size h₁ rfl ⟨hns, fun b o e => hk₁ b o (of_hideAll _ e), Nat.le_of_eq (hideAll_size _ _)⟩
    (fun p hp => ⟨hk₁ _ _ (N p hp).1, Nat.ne_of_lt (Heap.lt_size (N p hp).1), hideAll_none _ (List.mem_map_of_mem hp)⟩) (fun p hp => Heap.lt_size (N p hp).1) BG (X₀.keeps st) (T.keeps st)

/-- a body that never leaves by an error: what is asked of its end is a letter from here on, and so are the parts of the state that it does not turn -/
theorem shut {prog : Program} {w : World} {A : Around} {t : Sem Flow} {Q : Value → Shared → Prop} {E' : Value → Shared → Prop} {s : Shared} {h₁ : Heap} {tk : Nat}
    (h : ∀ (Qf : Flow → Shared → Prop) sg sd so tk₀, (∀ v h' tk', Q v { s with heap := h', toks := tk' } → Qf (.ret v) ⟨h', sg, sd, tk', so⟩) → (∀ h' tk', Q .none { s with heap := h', toks := tk' } → Qf .next ⟨h', sg, sd, tk', so⟩) →
      wpAny (model prog w) A t Qf (fun _ _ => False) ⟨h₁, sg, sd, tk₀, so⟩) :
    wpAny (model prog w) A t (fun fl s' => Q (match fl with | .ret v => v | _ => .none) s') E' { s with heap := h₁, toks := tk } :=
  wpAny_mono (h _ s.gens s.drawn s.os tk (fun _ _ _ q => q) fun _ _ q => q) (fun _ _ q => q) fun _ _ q => q.elim

theorem fr_back {h₀ h h' : Heap} {L : Addr} {m : Str → Option Value} (F : Fr h₀ L h m) (k : Keeps h h') : Fr h₀ L h' m := by
  obtain ⟨⟨oL, es, ep, hL, r⟩, kp, ab⟩ := F
  exact ⟨⟨oL, es, ep, k _ _ hL, r⟩, fun b o e => k _ _ (kp b o e), ab⟩
theorem news_back {h₀ h h' : Heap} {L : Addr} {news : List (Addr × Obj)} (N : News h₀ L h news) (k : Keeps h h') : News h₀ L h' news :=
  fun p hp => ⟨k _ _ (N p hp).1, (N p hp).2⟩
theorem keeps_fr {h g h' : Heap} {L : Addr} {m : Str → Option Value} (k : Keeps h g) (F : Fr g L h' m) : Keeps h h' := fun b o e => F.keep b o (k b o e)
theorem keeps_hide0 {h g : Heap} (e : g = hideAll h ([] : List Addr)) : Keeps h g := by subst e; exact fun _ _ e => e
theorem news_new {h₀ h h' : Heap} {L L' l : Addr} {o : Obj} {m : Str → Option Value} {news nx : List (Addr × Obj)} (F : Fr h₀ L h m) (N : News h₀ L h news) (k : Keeps h h') (N' : News h L' h' nx) (hm : (l, o) ∈ nx) : News h₀ L h' ((l, o) :: news) := by
  intro p hp
  rcases List.mem_cons.mp hp with rfl | hp
  · obtain ⟨e1, _, e3⟩ := N' _ hm
    refine ⟨e1, ?_, ?_⟩
    · obtain ⟨⟨oL, _, _, hL, _⟩, _, _⟩ := F
      intro q
      change l = L at q
      rw [show ((l, o) : Addr × Obj).1 = l from rfl, q, hL] at e3
      cases e3
    · cases q : h₀.get? (l, o).1 with
      | none => rfl
      | some o' => rw [F.keep _ _ q] at e3; cases e3
  · exact ⟨k _ _ (N p hp).1, (N p hp).2⟩
theorem any_ints (k : Int) : ∀ ns : List Int, ((ns.map PyData.int).any fun y => PyData.eqv y (.int k)) = decide (k ∈ ns)
  | [] => by simp
  | n :: r => by
    have e : PyData.eqv (.int n) (.int k) = decide (k = n) := by
      by_cases h : k = n
      · subst h; simp [PyData.eqv]
      · simp [PyData.eqv, h, Ne.symm h]
    rw [List.map_cons, List.any_cons, any_ints k r, e]
    by_cases h : k = n <;> simp [h]
theorem notIn_intsK {prog : Program} {w : World} {A : Around} {E : Value → Shared → Prop} {s : Shared} {a : Addr} {vs : List Value} {ns : List Int} {k : Int} {t : Tok} {Q : Value → Shared → Prop}
    (hl : s.heap.IsList a vs.toArray) (hi : IntsAre vs ns) (hu : A.units + 64 < cLine) (h : Q (.bool (!decide (k ∈ ns))) s) :
    wpAny (model prog w) A (compareOp .NotIn (.int k t) (.ref a)) Q E s := by
  refine SeqAt.notIn_list_reads (reads_of_ints hl hi) (Reads.int (h := s.heap) k t) (canLayAll0_ints ns) rfl ?_ (by rw [any_ints]; exact h)
  have := PyProof.Rows.depthAll_ints ns
  have := Nat.min_le_left (PyData.depthAll (ns.map PyData.int)) (PyData.depth (.int k))
  omega
theorem news_more {h₀ h h' : Heap} {L L' : Addr} {ad : List (Addr × Obj)} {m : Str → Option Value} {news nx : List (Addr × Obj)} (F : Fr h₀ L h m) (N : News h₀ L h news) (k : Keeps h h') (N' : News h L' h' nx) (hm : ∀ p ∈ ad, p ∈ nx) : News h₀ L h' (ad ++ news) := by
  intro p hp
  rcases List.mem_append.mp hp with hp | hp
  · obtain ⟨e1, _, e3⟩ := N' _ (hm p hp)
    refine ⟨e1, ?_, ?_⟩
    · obtain ⟨⟨oL, _, _, hL, _⟩, _, _⟩ := F
      intro q
      rw [q, hL] at e3
      cases e3
    · cases q : h₀.get? p.1 with
      | none => rfl
      | some o' => rw [F.keep _ _ q] at e3; cases e3
  · exact ⟨k _ _ (N p hp).1, (N p hp).2⟩
section
variable {prog : Program} {w : World} {A : Around} {h₀ : Heap} {L : Addr} {m : Str → Option Value} {env : Env} {elt : PySem.Expr} {x : Str} {scope : Scope} {cl : List (Str × Addr)} {s : Shared} {S : List (Addr × Obj) → Prop} {Fin : List Value → List (Addr × Obj) → Prop} {news : List (Addr × Obj)}
/-- what a comprehension's element hands back: a datum, and what was made for it -/
def ElD (nw : List (Addr × Obj)) (d : Dat) (y : Value) (news' : List (Addr × Obj)) : Prop := ∃ add, news' = add ++ nw ∧ DatIn add y d
/-- a comprehension over a list of ints whose elements are data -/
theorem comp_dat {vs : List Value} {ns : List Int} (g : Int → Dat) (hi : IntsAre vs ns)
    (turn : ∀ k t I oI C oC D m₂ ys nw h tk (E' : Value → Shared → Prop), k ∈ ns → LCg.NsObj oC m₂ → m₂ x = some (.int k t) → (∀ p ∈ news, p ∈ nw) → Fr h₀ L h m → News h₀ L h ((I, oI) :: (C, oC) :: (D, LCg.lst ys) :: nw) → LCg.Off3 I C D nw → ((@Ne Nat I C) ∧ (@Ne Nat I D) ∧ (@Ne Nat C D)) →
      wpAny (model prog w) A (eval elt (compEnvC scope cl C env)) (LCg.CompEnd h₀ L m { s with heap := h, toks := tk } I oI C oC D (LCg.lst ys) S (ElD nw (g k))) E' { s with heap := h, toks := tk })
    (fin : ∀ ys tl, DatAll tl ys (ns.map g) → Fin ys (tl ++ news)) :
    LCg.CompRest prog w A h₀ L m env elt x scope cl s S (fun i v => vs.toArray[i]? = some v) Fin vs.toArray.size 0 [] news := by
  have hlen : vs.toArray.size = ns.length := by rw [List.size_toArray]; exact hi.length
  have key : ∀ (j i : Nat) (ys : List Value) (tl : List (Addr × Obj)), i + j = ns.length → DatAll tl ys ((ns.take i).map g) →
      LCg.CompRest prog w A h₀ L m env elt x scope cl s S (fun i v => vs.toArray[i]? = some v) Fin j i ys (tl ++ news) := by
    intro j
    induction j with
    | zero =>
      intro i ys tl e hy
      have e : i = ns.length := by omega
      subst e
      rw [List.take_length] at hy
      exact LCg.CompRest.zero (fin ys tl hy)
    | succ j ih =>
      intro i ys tl e hy
      refine LCg.CompRest.succ ?_
      intro v I oI C oC D m₂ h tk E' hv hC hx F N off ne
      obtain ⟨k, t, hv', hk⟩ := IntsAre.at hi i v (by simpa using hv)
      rw [hv'] at hx
      refine wpAny_mono (turn k t I oI C oC D m₂ ys _ h tk E' (List.mem_of_getElem? hk) hC hx (fun p hp => List.mem_append.mpr (.inr hp)) F N off ne) (fun y s₂ hq => ?_) fun _ _ e => e
      obtain ⟨h', tk', nw', e2, F', N', off', hS, add, rfl, hd⟩ := hq
      rw [← List.append_assoc] at N' off' hS
      refine ⟨h', tk', (add ++ tl) ++ news, e2, F', N', off', hS, ?_⟩
      refine ih (i + 1) _ _ (by omega) ?_
      rw [List.take_add_one, hk]
      simpa using DatAll.append (hy.mono fun p hp => List.mem_append.mpr (.inr hp)) (DatAll.one (hd.mono fun p hp => List.mem_append.mpr (.inl hp)))
  rw [hlen]
  exact key ns.length 0 [] [] (by omega) .nil
end
/-- an element that is one new object -/
theorem comp_end1 {h₀ h' : Heap} {L I C D D' : Addr} {m : Str → Option Value} {s₁ : Shared} {oI oC oD o : Obj} {S : List (Addr × Obj) → Prop} {d : Dat} {nw : List (Addr × Obj)} {tk : Nat}
    (N : News h₀ L h' ((D', o) :: (I, oI) :: (C, oC) :: (D, oD) :: nw)) (F : Fr h₀ L h' m) (off : LCg.Off3 I C D nw) (e1 : (@Ne Nat D' I) ∧ (@Ne Nat D' C) ∧ (@Ne Nat D' D)) (hS : S ((D', o) :: nw)) (hd : DatIn [(D', o)] (.ref D') d) :
    LCg.CompEnd h₀ L m s₁ I oI C oC D oD S (ElD nw d) (.ref D') { s₁ with heap := h', toks := tk } := by
  refine LCg.CompEnd.intro F N ((D', o) :: nw) ?_ ⟨e1, off⟩ hS ⟨[(D', o)], rfl, hd⟩
  intro p hp
  simp only [List.mem_cons] at hp ⊢
  rcases hp with e | e | e | e | e <;> simp [e]
end Mine
end
-- G1
theorem Mine.atG1 : True ∧ True := by
  w_top off
  k_with_none
  first | (walk1; fail) | exact ⟨trivial, trivial⟩
section
open PySem PySem.W PySem.Spec PySem.Calls PyProof.Rows
set_option maxRecDepth 100000
set_option maxHeartbeats 8000000
namespace Mine
abbrev metF (n b : Int) : Int × List Int := List.foldl (fun p (_ : Int) => ((p.fst * b).fmod n, p.snd ++ [(p.fst * b).fmod n])) (1, []) (rangeKs 0 (n - 1 - 0).toNat)
def goesF (n b : Int) : Bool := (metF n b).snd.isPerm (rangeKs 1 (n - 1).toNat)
theorem rangeKs_sorted (a : Int) (n : Nat) : List.Pairwise (fun x1 x2 => x1 ≤ x2) (rangeKs a n) := by
  unfold rangeKs
  rw [List.pairwise_map]
  exact List.Pairwise.imp (fun {i j} h => by omega) (List.pairwise_lt_range (n := n))
theorem goes_end {n b : Int} {l : List Int} (p : l.Perm (metF n b).snd) (o : List.Pairwise (fun x1 x2 => x1 ≤ x2) l) : decide (l = rangeKs 1 (n - 1).toNat) = goesF n b := by
  unfold goesF
  rw [Bool.eq_iff_iff, decide_eq_true_eq, List.isPerm_iff]
  constructor
  · rintro rfl; exact p.symm
  · intro q
    exact List.Perm.eq_of_pairwise (fun _ _ _ _ h1 h2 => Int.le_antisymm h1 h2) o (rangeKs_sorted _ _) (p.trans q)
section
variable {w : World} {loose : List Str} {mean : ExcName → Option Value} {mg mb : Str → Option Value}
  {dp un : Nat} {gd : Option (List Code)} {cn : Str} {cs : Scope} {L a : Addr} {ccd : Value} {cl : List (Str × Addr)} {outer : List Env}
  {A₀ : Around} {bs h₀ : Heap} {m : Str → Option Value} {news : List (Addr × Obj)} {s : Shared} {Q E : Value → Shared → Prop}
theorem goes_spec {number base : Int} {t1 t2 : Tok}
    (B : Below A₀ bs outer h₀) (F : Fr h₀ L s.heap m) (X : (Mine.hd.heap_1 w.params).In h₀) (N : News h₀ L s.heap news) (T : Top topProg loose mean mg mb h₀) (hk : cs.kind = .function)
    (hd : dp < 800) (hu : un < 8000) (hn : 2 ≤ number ∧ number ≤ 64) (hb : 0 ≤ base ∧ base ≤ 64)
    (ret : ∀ h' tk', Keeps s.heap h' → Fr h₀ L h' m → News h₀ L h' news → Q (.bool (goesF number base)) { s with heap := h', toks := tk' }) :
    wpAny (model PySem.Challenge.rw_wj0026_01.row.prog w) (ktrTop dp un gd cn cs L a ccd cl outer) (call (.ref 135) [.int number t1, .int base t2]) Q E s := by
  k_with_none
  revert X; k_fill; intro X
  refine' enterA B F X News.nil T hk ?k6 ?k7 ?k8 ?k9 ?kB ?c2 ?c3 ?c4 ?c5 ?_
  case k6 => k_is
  case k7 => k_is
  case k8 => (show dp < 1000; omega)
  case k9 => exact BindsTo.of_eq rfl
  case kB => exact locs rfl
  case c2 => exact rfl
  case c3 => exact rfl
  case c4 => exact rfl
  case c5 => decide
  intro g L' h₁ hg F' N' lt' B' X' T'
  refine shut fun Qf sg sd so tk₀ hQ hQ0 => ?_
  have KP : Keeps s.heap g := keeps_hide0 hg
  clear hg
  replace ret := fun h' tk' (k : Keeps s.heap h') => hQ _ _ _ (ret h' tk' k (fr_back F k) (news_back N k))
  clear B F X N T
  try dsimp only
  (try k_fold)
  k_steps
  · rw [goes_end (by assumption) (by assumption)]
    exact ret _ _ (keeps_fr KP (by assumption))
end
end Mine
end
-- G2
theorem Mine.atG2 : True ∧ True := by
  w_top off
  k_with_none
  k_with "w1" => (k_here; (with_reducible show wpAny _ _ (call (Value.ref 135) _) _ _ _); k_dflt (refine goes_spec (by k_asm) (by k_asm) (by k_asm) (by k_asm) (by k_asm) (by first | exact rfl | assumption) (by first | omega | (dsimp only [ktrTop, Around.deeper] at *; omega)) (by first | omega | (dsimp only [ktrTop, Around.deeper] at *; omega)) (by omega) (by omega) ?_))
  k_with "w2" => ((try dsimp only); (try k_sweep); (try k_fold))
  first | (walk1; fail) | exact ⟨trivial, trivial⟩
section
open PySem PySem.W PySem.Spec PySem.Calls PyProof.Rows
set_option maxRecDepth 100000
set_option maxHeartbeats 8000000
namespace Mine
local macro_rules | `(tactic| walk_at "call ref") => `(tactic| (k_extra "w1"; intro h9 tk9 K9 F9 N9; k_extra "w2"))
theorem root_end {p b r : Int} (h : goesF p b = true) (h1 : 1 ≤ b) (h2 : b ≤ r) (hl : ∀ c, 1 ≤ c → c < r → goesF p c = false) : r = b := by
  rcases Int.lt_or_eq_of_le h2 with q | q
  · rw [hl b h1 q] at h; cases h
  · exact q.symm
theorem root_lt {p b r : Int} (h : goesF p b = false) (h2 : b ≤ r) (hg : goesF p r = true) : b < r := by
  rcases Int.lt_or_eq_of_le h2 with q | q
  · exact q
  · rw [q, hg] at h; cases h
theorem root_state {p b r : Int} (h : goesF p b = false) (h1 : 1 ≤ b) (h2 : b ≤ r) (hg : goesF p r = true) : 1 ≤ b + 1 ∧ b + 1 ≤ r := by
  have := root_lt h h2 hg; omega
theorem root_meas {p b r : Int} (h : goesF p b = false) (h2 : b ≤ r) (hg : goesF p r = true) : (r - (b + 1)).toNat < (r - b).toNat := by
  have := root_lt h h2 hg; omega
def rootF (p : Int) : Int := ((rangeKs 1 63).find? (goesF p)).getD 0
/-- p is small and has a least base that goes round -/
def RootOk (p : Int) : Prop := (2 ≤ p ∧ p ≤ 64) ∧ 1 ≤ rootF p ∧ rootF p ≤ 63 ∧ goesF p (rootF p) = true ∧ ∀ c, 1 ≤ c → c < rootF p → goesF p c = false
section
variable {w : World} {loose : List Str} {mean : ExcName → Option Value} {mg mb : Str → Option Value}
  {dp un : Nat} {gd : Option (List Code)} {cn : Str} {cs : Scope} {L a : Addr} {ccd : Value} {cl : List (Str × Addr)} {outer : List Env}
  {A₀ : Around} {bs h₀ : Heap} {m : Str → Option Value} {news : List (Addr × Obj)} {s : Shared} {Q E : Value → Shared → Prop}
theorem root_spec {prime : Int} {t1 : Tok}
    (B : Below A₀ bs outer h₀) (F : Fr h₀ L s.heap m) (X : (Mine.hd.heap_1 w.params).In h₀) (N : News h₀ L s.heap news) (T : Top topProg loose mean mg mb h₀) (hk : cs.kind = .function)
    (hd : dp < 780) (hu : un < 7800) (hR : RootOk prime)
    (ret : ∀ t h' tk', Keeps s.heap h' → Fr h₀ L h' m → News h₀ L h' news → Q (.int (rootF prime) t) { s with heap := h', toks := tk' }) :
    wpAny (model PySem.Challenge.rw_wj0026_01.row.prog w) (ktrTop dp un gd cn cs L a ccd cl outer) (call (.ref 142) [.int prime t1]) Q E s := by
  k_with_none
  k_with "w1" => (k_here; (with_reducible show wpAny _ _ (call (Value.ref 135) _) _ _ _); k_dflt (refine goes_spec (by k_asm) (by k_asm) (by k_asm) (by k_asm) (by k_asm) (by first | exact rfl | assumption) (by first | omega | (dsimp only [ktrTop, Around.deeper] at *; omega)) (by first | omega | (dsimp only [ktrTop, Around.deeper] at *; omega)) (by omega) (by omega) ?_))
  k_with "w2" => ((try dsimp only); (try k_sweep); (try k_fold))
  revert X; k_fill; intro X
  refine' enterA (binds := [(Str.ofString "prime", .int prime t1)]) B F X News.nil T hk ?k6 ?k7 ?k8 ?k9 ?kB ?c2 ?c3 ?c4 ?c5 ?_
  case k6 => k_is
  case k7 => k_is
  case k8 => (show dp < 1000; omega)
  case k9 => exact BindsTo.of_eq rfl
  case kB => exact locs rfl
  case c2 => exact rfl
  case c3 => exact rfl
  case c4 => exact rfl
  case c5 => decide
  intro g L' h₁ hg F' N' lt' B' X' T'
  refine shut fun Qf sg sd so tk₀ hQ hQ0 => ?_
  have KP : Keeps s.heap g := keeps_hide0 hg
  replace hg : g = s.heap := hg
  replace ret := fun t h' tk' (kq9 : Keeps s.heap h') => hQ _ _ _ (ret t h' tk' kq9 (fr_back F kq9) (news_back N kq9))
  clear hg B F X N T
  try dsimp only
  (try k_fold)
  obtain ⟨hn, h1, h2, hg, hl⟩ := hR
  generalize rootF prime = r at h1 h2 hg hl ret
  k_with "exec While UnaryOp cons nil" => k_while (fun (_ : List Int) b => 1 ≤ b ∧ b ≤ r) (fun (_ : List Int) b => (r - b).toNat) "base"
  k_with "state" => exact root_state (by assumption) (by assumption) (by assumption) hg
  k_with "measure" => exact root_meas (by assumption) (by assumption) hg
  k_steps
  all_goals (try dsimp only)
  · have e := root_end (by assumption) (by assumption) (by assumption) hl
    subst e
    exact ret _ _ _ (keeps_fr KP (by assumption))
end
end Mine
end
-- P3
theorem Mine.atP3 : True ∧ True := by
  w_top off
  k_with_none
  first | (walk1; fail) | exact ⟨trivial, trivial⟩
section
namespace Mine
def primesL : Nat → Int → Int → List Int → List Int
  | 0, _, _, acc => acc
  | f + 1, n, p, acc => if n > 1 then (if n.fmod p ≠ 0 then primesL f n (p + 1) acc else primesL f (n.fdiv p) p (if p ∈ acc then acc else acc ++ [p])) else acc
def PInv (R : List Int) (n p : Int) (acc : List Int) : Prop := 1 ≤ n ∧ n ≤ 64 ∧ 2 ≤ p ∧ acc.length + (2 * n - p).toNat ≤ 128 ∧ (∀ q, 2 ≤ q → q < p → n.fmod q ≠ 0 ∨ n = 1) ∧ p ≤ 64 ∧ ∃ f, (2 * n - p).toNat ≤ f ∧ primesL f n p acc = R
theorem pinv_start {N : Int} {R : List Int} (h : 1 ≤ N ∧ N ≤ 64) (e : primesL 128 N 2 [] = R) : PInv R N 2 [] :=
  e ▸ ⟨h.1, h.2, by omega, by simp only [List.length_nil]; omega, fun q h1 h2 => by omega, by omega, 128, by omega, rfl⟩
theorem pinv_le {R : List Int} {n p : Int} {acc : List Int} (h : PInv R n p acc) (hn : 1 < n) : p ≤ n := by
  obtain ⟨h1, h2, h3, h4, h5, -⟩ := h
  rcases Int.lt_or_le n p with q | q
  · exfalso
    rcases h5 n (by omega) q with h6 | h6
    · exact h6 (by simp)
    · omega
  · exact q
theorem pinv_end {R : List Int} {n p : Int} {acc : List Int} (h : PInv R n p acc) (hn : ¬ 1 < n) : R = acc := by
  obtain ⟨h1, h2, h3, h4, h5, h6, f, hf, e⟩ := h
  rw [← e]
  cases f with
  | zero => rfl
  | succ f => unfold primesL; rw [if_neg (by omega)]
theorem pinv_one {R : List Int} {n p : Int} {acc : List Int} (h : PInv R n p acc) (hn : 1 < n) (hm : n.fmod p ≠ 0) : PInv R n (p + 1) acc := by
  have hle := pinv_le h hn
  have hlt : p < n := by
    rcases Int.lt_or_eq_of_le hle with q | q
    · exact q
    · exact absurd (by rw [q]; simp) hm
  obtain ⟨h1, h2, h3, h4, h5, h6, f, hf, e⟩ := h
  refine ⟨h1, h2, by omega, by omega, fun q a b => ?_, by omega, ?_⟩
  · rcases Int.lt_or_eq_of_le (show q ≤ p by omega) with x | x
    · exact h5 q a x
    · exact .inl (x ▸ hm)
  · cases f with
    | zero => omega
    | succ f =>
      refine ⟨f, by omega, ?_⟩
      rw [← e]
      conv => rhs; unfold primesL
      rw [if_pos (by omega), if_pos hm]
theorem pinv_meas1 {R : List Int} {n p : Int} {acc : List Int} (h : PInv R n p acc) (hn : 1 < n) : (2 * n - (p + 1)).toNat < (2 * n - p).toNat := by
  have := pinv_le h hn; omega
theorem fdiv_facts {R : List Int} {n p : Int} {acc : List Int} (h : PInv R n p acc) (hn : 1 < n) (hm : n.fmod p = 0) : 1 ≤ n.fdiv p ∧ 2 * n.fdiv p ≤ n ∧ n = p * n.fdiv p := by
  have hle := pinv_le h hn
  have h3 : 2 ≤ p := h.2.2.1
  have e := Int.mul_fdiv_add_fmod n p
  rw [hm, Int.add_zero] at e
  have a1 : 1 ≤ n.fdiv p := by
    rcases Int.lt_or_le (n.fdiv p) 1 with q | q
    · have : p * n.fdiv p ≤ p * 0 := Int.mul_le_mul_of_nonneg_left (by omega) (by omega)
      omega
    · exact q
  refine ⟨a1, ?_, e.symm⟩
  have : 2 * n.fdiv p ≤ p * n.fdiv p := Int.mul_le_mul_of_nonneg_right h3 (by omega)
  omega
theorem pinv_two {R : List Int} {n p : Int} {acc acc' : List Int} (h : PInv R n p acc) (hn : 1 < n) (hm : n.fmod p = 0) (ha : (if p ∈ acc then acc else acc ++ [p]) = acc') : PInv R (n.fdiv p) p acc' := by
  obtain ⟨d1, d2, d3⟩ := fdiv_facts h hn hm
  have hle := pinv_le h hn
  obtain ⟨h1, h2, h3, h4, h5, h6, f, hf, e⟩ := h
  refine ⟨d1, by omega, h3, ?_, fun q a b => ?_, h6, ?_⟩
  · have : acc'.length ≤ acc.length + 1 := by rw [← ha]; split <;> simp
    omega
  · rcases h5 q a b with x | x
    · refine .inl fun y => x ?_
      have e2 := Int.mul_fdiv_add_fmod (n.fdiv p) q
      rw [y, Int.add_zero] at e2
      rw [d3, ← e2, ← Int.mul_assoc, Int.mul_comm p q, Int.mul_assoc]
      exact Int.mul_fmod_right _ _
    · omega
  · cases f with
    | zero => omega
    | succ f =>
      refine ⟨f, by omega, ?_⟩
      rw [← e]
      conv => rhs; unfold primesL
      rw [if_pos (by omega), if_neg (by omega), ha]
theorem pinv_meas2 {R : List Int} {n p : Int} {acc : List Int} (h : PInv R n p acc) (hn : 1 < n) (hm : n.fmod p = 0) : (2 * n.fdiv p - p).toNat < (2 * n - p).toNat := by
  have := pinv_le h hn
  obtain ⟨d1, d2, d3⟩ := fdiv_facts h hn hm
  omega
theorem pinv_len {R : List Int} {n p : Int} {acc : List Int} (h : PInv R n p acc) : acc.length ≤ 128 ∧ 2 ≤ p ∧ 1 ≤ n ∧ n ≤ 64 ∧ p ≤ 64 := by
  obtain ⟨h1, h2, h3, h4, h5, h6, -⟩ := h; omega
abbrev PWd (R : List Int) (n p : Int) (acc : List Int) : Prop := 2 ≤ p ∧ p ≤ 64 ∧ 1 ≤ n ∧ n ≤ 64 ∧ acc.length ≤ 128 ∧ PInv R n p acc
theorem pwd_of {R : List Int} {n p : Int} {acc : List Int} (h : PInv R n p acc) : PWd R n p acc := by
  have := pinv_len h
  exact ⟨this.2.1, this.2.2.2.2, this.2.2.1, this.2.2.2.1, this.1, h⟩
theorem pw_start {N : Int} {R : List Int} (h : 1 ≤ N ∧ N ≤ 64) (e : primesL 128 N 2 [] = R) : PWd R N 2 [] := pwd_of (pinv_start h e)
theorem pw_one {R : List Int} {n p : Int} {acc : List Int} (h : PInv R n p acc) (hn : 1 < n) (hm : n.fmod p ≠ 0) : PWd R n (p + 1) acc := pwd_of (pinv_one h hn hm)
theorem pw_two {R : List Int} {n p : Int} {acc : List Int} (h : PInv R n p acc) (hn : 1 < n) (hm : n.fmod p = 0) (ha : p ∈ acc) : PWd R (n.fdiv p) p acc := pwd_of (pinv_two h hn hm (if_pos ha))
theorem pw_three {R : List Int} {n p : Int} {acc : List Int} (h : PInv R n p acc) (hn : 1 < n) (hm : n.fmod p = 0) (ha : ¬ p ∈ acc) : PWd R (n.fdiv p) p (acc ++ [p]) := pwd_of (pinv_two h hn hm (if_neg ha))
end Mine
end
-- G3
theorem Mine.atG3 : True ∧ True := by
  w_top off
  k_with_none
  k_with "w3" => (k_here; (with_unfolding_all refine notIn_intsK (by is_list) (by l_intsC) (by units_room) ?_))
  first | (walk1; fail) | exact ⟨trivial, trivial⟩
section
open PySem PySem.W PySem.Spec PySem.Calls PyProof.Rows
set_option maxRecDepth 100000
set_option maxHeartbeats 8000000
namespace Mine
def primesF (n : Int) : List Int := primesL 128 n 2 []
section
local macro_rules | `(tactic| walk_at "binaryOp FloorDiv int int") => `(tactic| (k_here; (with_reducible refine floordiv_int ?kbe ?_ (Or.inl (PyProof.noPylong_small ?kbp))); (case kbe => omega); (case kbp => omega)))
local macro_rules | `(tactic| kst_facts) => `(tactic| ((try dsimp only) <;> first | exact True.intro | exact PyProof.Rows.IntsAre.nil | with_reducible assumption))
local macro_rules | `(tactic| walk_at "exec While Compare cons nil") => `(tactic| k_dflt (k_extra "my while"))
local macro_rules | `(tactic| walk_at "compareOp NotIn int ref") => `(tactic| k_extra "w3")
section
variable {w : World} {loose : List Str} {mean : ExcName → Option Value} {mg mb : Str → Option Value}
  {dp un : Nat} {gd : Option (List Code)} {cn : Str} {cs : Scope} {L a : Addr} {ccd : Value} {cl : List (Str × Addr)} {outer : List Env}
  {A₀ : Around} {bs h₀ : Heap} {m : Str → Option Value} {news : List (Addr × Obj)} {s : Shared} {Q E : Value → Shared → Prop}
theorem primes_spec {number : Int} {t1 : Tok}
    (B : Below A₀ bs outer h₀) (F : Fr h₀ L s.heap m) (X : (Mine.hd.heap_1 w.params).In h₀) (N : News h₀ L s.heap news) (T : Top topProg loose mean mg mb h₀) (hk : cs.kind = .function)
    (hd : dp < 790) (hu : un < 7900) (hn : 1 ≤ number ∧ number ≤ 64)
    (ret : ∀ l vs n h' tk', Keeps s.heap h' → Fr h₀ L h' m → News h₀ L h' ((l, listOf (List.toArray vs) n) :: news) → AllNe l news → IntsAre vs (primesF number) → vs.length ≤ 128 → Q (.ref l) { s with heap := h', toks := tk' }) :
    wpAny (model PySem.Challenge.rw_wj0026_01.row.prog w) (ktrTop dp un gd cn cs L a ccd cl outer) (call (.ref 128) [.int number t1]) Q E s := by
  k_with_none
  k_with "w3" => (k_here; (with_unfolding_all refine notIn_intsK (by is_list) (by l_intsC) (by units_room) ?_))
  revert X; k_fill; intro X
  refine' enterA (binds := [(Str.ofString "number", .int number t1)]) B F X News.nil T hk ?k6 ?k7 ?k8 ?k9 ?kB ?c2 ?c3 ?c4 ?c5 ?_
  case k6 => k_is
  case k7 => k_is
  case k8 => (show dp < 1000; omega)
  case k9 => exact BindsTo.of_eq rfl
  case kB => exact locs rfl
  case c2 => exact rfl
  case c3 => exact rfl
  case c4 => exact rfl
  case c5 => decide
  intro g L' h₁ hg F' N' lt' B' X' T'
  refine shut fun Qf sg sd so tk₀ hQ hQ0 => ?_
  have KP : Keeps s.heap g := keeps_hide0 hg
  replace hg : g = s.heap := hg
  replace ret := fun l vs n h' tk' (kq9 : Keeps s.heap h') {nx : List (Addr × Obj)} {Ln : Addr} (Nn : News g Ln h' nx) (hm : ∀ p ∈ ((l, listOf (List.toArray vs) n) :: ([] : List (Addr × Obj))), p ∈ nx) hq0 hq1 => hQ _ _ _ (ret l vs n h' tk' kq9 (fr_back F kq9) (news_more F N kq9 (hg ▸ Nn) hm) (allNe_news N (hg ▸ Nn) (hm _ (.head _))) hq0 hq1)
  clear hg B F X N T
  try dsimp only
  (try k_fold)
  have hS := pw_start hn rfl
  unfold primesF at ret
  generalize primesL 128 number 2 [] = R at ret hS
  k_with "my while" => k_while (fun (_ : List Int) n p acc => PWd R n p acc) (fun (_ : List Int) n p _ => (2 * n - p).toNat) "number" "least" "primes"
  k_with "state" => exact pw_three (by assumption) (by assumption) (by assumption) (by assumption)
  k_with "state" => exact pw_two (by assumption) (by assumption) (by assumption) (by assumption)
  k_with "state" => exact pw_one (by assumption) (by assumption) (by assumption)
  k_with "state" => exact hS
  k_with "measure" => exact pinv_meas1 (by assumption) (by assumption)
  k_with "measure" => exact pinv_meas2 (by assumption) (by assumption) (by assumption)
  k_steps
  all_goals (try dsimp only)
  · have e := pinv_end (by assumption) (by assumption)
    subst e
    exact ret _ _ _ _ _ (keeps_fr KP (by assumption)) (by assumption) (fun p hp => by rw [List.mem_singleton.mp hp]; k_mem) (by assumption) (by rw [IntsAre.length (by assumption)]; assumption)
end
end
end Mine
end
-- G4
theorem Mine.atG4 : True ∧ True := by
  w_top off
  k_with_none
  k_with "w4" => (k_here; (with_reducible show wpAny _ _ (call (Value.ref 128) _) _ _ _); k_dflt (refine primes_spec (by k_asm) (by k_asm) (by k_asm) (by k_asm) (by k_asm) (by first | exact rfl | assumption) (by first | omega | (dsimp only [ktrTop, Around.deeper] at *; omega)) (by first | omega | (dsimp only [ktrTop, Around.deeper] at *; omega)) (by omega) ?_))
  k_with "w2" => ((try dsimp only); (try k_sweep); (try k_fold))
  k_with "w5" => (k_here; (with_reducible show wpAny _ _ (call (Value.ref 142) _) _ _ _); k_dflt (refine root_spec (by k_asm) (by k_asm) (by k_asm) (by k_asm) (by k_asm) (by first | exact rfl | assumption) (by first | omega | (dsimp only [ktrTop, Around.deeper] at *; omega)) (by first | omega | (dsimp only [ktrTop, Around.deeper] at *; omega)) (by assumption) ?_))
  k_with "w6" => (k_here; k_dflt (refine LCg.ListComp_U (F₀ := by k_asm) (by with_unfolding_all rfl) (by decide) (by rfl) (by decide) (by rfl) ?_))
  first | (walk1; fail) | exact ⟨trivial, trivial⟩
section
open PySem PySem.W PySem.Spec PySem.Calls PyProof.Rows
set_option maxRecDepth 100000
set_option maxHeartbeats 8000000
namespace Mine
abbrev partD (k : Int) : Dat := Dat.tuple [Dat.int k, Dat.int (rootF k)]
section
local macro_rules | `(tactic| walk_at "call ref") => `(tactic| (k_extra "w4"; intro lP vP nP h9 tk9 K9 F9 N9 A9 iP zP; (try simp only [AllNe, and_true] at A9); k_extra "w2"))
local macro_rules | `(tactic| walk_at "call ref") => `(tactic| (k_extra "w5"; intro tR h9 tk9 K9 F9 N9; k_extra "w2"))
local macro_rules | `(tactic| walk_at "eval ListComp") => `(tactic| k_extra "w6")
local macro_rules | `(tactic| walk_at "CompSrc") => `(tactic| k_dflt (k_extra "my src"))
local macro_rules | `(tactic| walk_at "CompEnd") => `(tactic| k_dflt (k_extra "my end"))
section
variable {w : World} {loose : List Str} {mean : ExcName → Option Value} {mg mb : Str → Option Value}
  {dp un : Nat} {gd : Option (List Code)} {cn : Str} {cs : Scope} {L a : Addr} {ccd : Value} {cl : List (Str × Addr)} {outer : List Env}
  {A₀ : Around} {bs h₀ : Heap} {m : Str → Option Value} {news : List (Addr × Obj)} {s : Shared} {Q E : Value → Shared → Prop}
theorem parts_spec {number : Int} {t1 : Tok}
    (B : Below A₀ bs outer h₀) (F : Fr h₀ L s.heap m) (X : (Mine.hd.heap_1 w.params).In h₀) (N : News h₀ L s.heap news) (T : Top topProg loose mean mg mb h₀) (hk : cs.kind = .function)
    (hd : dp < 770) (hu : un < 7700) (hn : 2 ≤ number ∧ number ≤ 64) (hp : ∀ p ∈ primesF (number - 1), RootOk p)
    (ret : ∀ l vs n dl h' tk', Keeps s.heap h' → Fr h₀ L h' m → News h₀ L h' ((l, listOf (List.toArray vs) n) :: (dl ++ news)) → AllNe l news → DatAll dl vs ((primesF (number - 1)).map partD) → Q (.ref l) { s with heap := h', toks := tk' }) :
    wpAny (model PySem.Challenge.rw_wj0026_01.row.prog w) (ktrTop dp un gd cn cs L a ccd cl outer) (call (.ref 147) [.int number t1]) Q E s := by
  k_with_none
  k_with "w4" => (k_here; (with_reducible show wpAny _ _ (call (Value.ref 128) _) _ _ _); k_dflt (refine primes_spec (by k_asm) (by k_asm) (by k_asm) (by k_asm) (by k_asm) (by first | exact rfl | assumption) (by first | omega | (dsimp only [ktrTop, Around.deeper] at *; omega)) (by first | omega | (dsimp only [ktrTop, Around.deeper] at *; omega)) (by omega) ?_))
  k_with "w2" => ((try dsimp only); (try k_sweep); (try k_fold))
  k_with "w5" => (k_here; (with_reducible show wpAny _ _ (call (Value.ref 142) _) _ _ _); k_dflt (refine root_spec (by k_asm) (by k_asm) (by k_asm) (by k_asm) (by k_asm) (by first | exact rfl | assumption) (by first | omega | (dsimp only [ktrTop, Around.deeper] at *; omega)) (by first | omega | (dsimp only [ktrTop, Around.deeper] at *; omega)) (by assumption) ?_))
  k_with "w6" => (k_here; k_dflt (refine LCg.ListComp_U (F₀ := by k_asm) (by with_unfolding_all rfl) (by decide) (by rfl) (by decide) (by rfl) ?_))
  revert X; k_fill; intro X
  refine' enterA (binds := [(Str.ofString "number", .int number t1)]) B F X News.nil T hk ?k6 ?k7 ?k8 ?k9 ?kB ?c2 ?c3 ?c4 ?c5 ?_
  case k6 => k_is
  case k7 => k_is
  case k8 => (show dp < 1000; omega)
  case k9 => exact BindsTo.of_eq rfl
  case kB => exact locs rfl
  case c2 => exact rfl
  case c3 => exact rfl
  case c4 => exact rfl
  case c5 => decide
  intro g L' h₁ hg F' N' lt' B' X' T'
  refine shut fun Qf sg sd so tk₀ hQ hQ0 => ?_
  have KP : Keeps s.heap g := keeps_hide0 hg
  replace hg : g = s.heap := hg
  replace ret := fun l vs n dl h' tk' (kq9 : Keeps s.heap h') {nx : List (Addr × Obj)} {Ln : Addr} (Nn : News g Ln h' nx) (hm : ∀ p ∈ ((l, listOf (List.toArray vs) n) :: dl), p ∈ nx) hq0 => hQ _ _ _ (ret l vs n dl h' tk' kq9 (fr_back F kq9) (news_more F N kq9 (hg ▸ Nn) hm) (allNe_news N (hg ▸ Nn) (hm _ (.head _))) hq0)
  clear hg B F X N T
  try dsimp only
  (try k_fold)
  k_with "my src" => (refine LCg.CompSrc.ledger (by rfl) (by k_asm) (by k_asm) (by k_mem) (by rw [PySem.sizeLine_eq, List.size_toArray]; omega) ?_; intro g1; refine comp_dat partD (by assumption) (fun k t I oI C oC D m₂ ys nw h tk E' hk hC hx hsub F' N' off ne => ?_) (fun ys tl hD => ?_); all_goals (try (have hRt := hp k hk)); all_goals (try k_fold))
  k_steps
  · change LCg.CompEnd _ _ _ _ _ _ _ _ _ _ _ _ _ _
    refine comp_end1 (by assumption) (by assumption) off ⟨by k_ne, by k_ne, by k_ne⟩ (.inr ⟨_, List.mem_cons_of_mem _ (hsub _ (List.Mem.head _)), rfl, _, rfl⟩) (DatIn.tuple (List.Mem.head _) (DatAll.cons (.int _ _) (DatAll.cons (.int _ _) .nil)))
  · exact ret _ _ _ _ _ _ (keeps_fr KP (by assumption)) (by assumption) (by intro p hp; rcases List.mem_cons.mp hp with rfl | hp; exact List.mem_cons_self; exact List.mem_cons_of_mem _ (List.mem_append.mpr (.inl hp))) hD
end
end
end Mine
end
-- G5
theorem Mine.atG5 : True ∧ True := by
  w_top off
  k_with_none
  first | (walk1; fail) | exact ⟨trivial, trivial⟩
section
open PySem PySem.W PySem.Spec PySem.Calls PyProof.Rows
set_option maxRecDepth 100000
set_option maxHeartbeats 8000000
namespace Mine
theorem intBits_small {x : Int} (h0 : 0 ≤ x) (h : x < 1048576) : Builtin.Int.intBits x ≤ 20 := by
  unfold Builtin.Int.intBits
  split
  · omega
  · have : x.natAbs.log2 < 20 := (Nat.log2_lt (by simp at *; omega)).mpr (by omega)
    omega
section
section
variable {w : World} {loose : List Str} {mean : ExcName → Option Value} {mg mb : Str → Option Value}
  {dp un : Nat} {gd : Option (List Code)} {cn : Str} {cs : Scope} {L a : Addr} {ccd : Value} {cl : List (Str × Addr)} {outer : List Env}
  {A₀ : Around} {bs h₀ : Heap} {m : Str → Option Value} {news : List (Addr × Obj)} {s : Shared} {Q E : Value → Shared → Prop}
theorem div_spec {x y n : Int} {t1 t2 t3 : Tok}
    (B : Below A₀ bs outer h₀) (F : Fr h₀ L s.heap m) (X : (Mine.hd.heap_1 w.params).In h₀) (N : News h₀ L s.heap news) (T : Top topProg loose mean mg mb h₀) (hk : cs.kind = .function)
    (hd : dp < 790) (hu : un < 7900) (hx : 0 ≤ x ∧ x < 1048576) (hy : 0 < y ∧ y < 1048576) (hn : 0 ≤ n ∧ n < 64)
    (ret : ∀ l t4 t5 k h' tk', Keeps s.heap h' → Fr h₀ L h' m → News h₀ L h' ((l, ({ cls := .type "tuple", data := .seq #[.int (x.fdiv y) t4, .int (x.fmod y) t5] k } : Obj)) :: news) → AllNe l news → Q (.ref l) { s with heap := h', toks := tk' }) :
    wpAny (model PySem.Challenge.rw_wj0026_01.row.prog w) (ktrTop dp un gd cn cs L a ccd cl outer) (call (.ref 72) [.int x t1, .int y t2, .int n t3]) Q E s := by
  k_with_none
  revert X; k_fill; intro X
  refine' enterA (binds := [(Str.ofString "a", .int x t1), (Str.ofString "b", .int y t2), (Str.ofString "n", .int n t3)]) B F X News.nil T hk ?k6 ?k7 ?k8 ?k9 ?kB ?c2 ?c3 ?c4 ?c5 ?_
  case k6 => k_is
  case k7 => k_is
  case k8 => (show dp < 1000; omega)
  case k9 => exact BindsTo.of_eq rfl
  case kB => exact locs rfl
  case c2 => exact rfl
  case c3 => exact rfl
  case c4 => exact rfl
  case c5 => decide
  intro g L' h₁ hg F' N' lt' B' X' T'
  refine shut fun Qf sg sd so tk₀ hQ hQ0 => ?_
  have KP : Keeps s.heap g := keeps_hide0 hg
  replace hg : g = s.heap := hg
  replace ret := fun l t4 t5 k h' tk' (kq9 : Keeps s.heap h') {nx : List (Addr × Obj)} {Ln : Addr} (Nn : News g Ln h' nx) (hm : ∀ p ∈ ((l, ({ cls := .type "tuple", data := .seq #[.int (x.fdiv y) t4, .int (x.fmod y) t5] k } : Obj)) :: ([] : List (Addr × Obj))), p ∈ nx) => hQ _ _ _ (ret l t4 t5 k h' tk' kq9 (fr_back F kq9) (news_more F N kq9 (hg ▸ Nn) hm) (allNe_news N (hg ▸ Nn) (hm _ (.head _))))
  clear hg B F X N T
  try dsimp only
  (try k_fold)
  have hB := intBits_small hx.1 hx.2
  k_steps
  · exact ret _ _ _ _ _ _ (keeps_fr KP (by assumption)) (by assumption) (fun p hp => by rw [List.mem_singleton.mp hp]; exact List.mem_cons_self)
end
end
end Mine
end
-- TB
theorem Mine.atTB : True ∧ True := by
  w_top off
  k_with_none
  first | (walk1; fail) | exact ⟨trivial, trivial⟩
section
open PySem PySem.W PySem.Spec PySem.Calls PyProof.Rows
set_option maxRecDepth 100000
set_option maxHeartbeats 200000
namespace Mine
/-- the address a stands for none of them -/
def Off (a : Nat) (nw : List (Addr × Obj)) : Prop := ∀ q ∈ nw, @Ne Nat a q.1
def Dis : List (Addr × Obj) → List (Addr × Obj) → Prop
  | [], _ => True
  | p :: r, nw => Off p.1 nw ∧ Dis r nw
theorem dis_nil {nw : List (Addr × Obj)} : Dis [] nw := trivial
theorem dis_cons {a : Addr} {o : Obj} {r nw : List (Addr × Obj)} (h : Off a nw) (k : Dis r nw) : Dis ((a, o) :: r) nw := ⟨h, k⟩
theorem dis_all {nw : List (Addr × Obj)} : ∀ {own : List (Addr × Obj)}, (∀ p ∈ own, Off p.1 nw) → Dis own nw
  | [], _ => trivial
  | _ :: _, h => ⟨h _ (.head _), dis_all fun p hp => h p (.tail _ hp)⟩
theorem Dis.all {nw : List (Addr × Obj)} {own : List (Addr × Obj)} (h : Dis own nw) : ∀ p ∈ own, Off p.1 nw := by
  induction own with
  | nil => intro p hp; cases hp
  | cons q r ih =>
    intro p hp
    rcases List.mem_cons.mp hp with e | e
    · rw [e]; exact h.1
    · exact ih h.2 p e
theorem Dis.get {own nw : List (Addr × Obj)} {a : Addr} {o : Obj} (h : Dis own nw) (hm : (a, o) ∈ own) : Off a nw := h.all _ hm
theorem dis_ne {own nw : List (Addr × Obj)} {a : Addr} {o : Obj} {p : Addr × Obj} (D : Dis own nw) (h : p ∈ nw) (hm : (a, o) ∈ own) : @Ne Nat p.1 a := fun e => D.get hm p h e.symm
theorem off_ne {nw : List (Addr × Obj)} {a : Nat} {p : Addr × Obj} (O : Off a nw) (h : p ∈ nw) : @Ne Nat p.1 a := fun e => O p h e.symm
theorem allLt_mem {d : Nat} {nw : List (Addr × Obj)} (h : AllLt d nw) : ∀ p ∈ nw, @LT.lt Nat _ p.1 d := by
  induction nw with
  | nil => intro p hp; cases hp
  | cons q r ih =>
    intro p hp
    rcases List.mem_cons.mp hp with e | e
    · rw [e]; exact h.1
    · exact ih h.2 p e
theorem off_lt {a d : Nat} {nw : List (Addr × Obj)} (h : AllLt d nw) (e : d ≤ a) : Off a nw := fun q hq => by
  have := allLt_mem h q hq
  intro z
  omega
theorem split_nil (nw : List (Addr × Obj)) : nw = [] ++ nw := rfl
theorem split_cons {p : Addr × Obj} {l own nw : List (Addr × Obj)} (h : l = own ++ nw) : p :: l = (p :: own) ++ nw := by rw [h]; rfl

/-- the part of the ledger that a code's table makes: empty, or with the inner def's code -/
def TabL (P ln col : Nat) (qual : Str) (nw : List (Addr × Obj)) : Prop :=
  nw = [(P, tabObj #[])] ∨ ∃ (c' : Nat) (oc : Obj) (vs : Array Value) (t : Tok), 88 < c' ∧ nw = [(P, tabObj (#[] ++ #[rawInt ln, rawInt col, .ref c'])), (c', oc)] ∧ oc.data = .fields vs ∧ vs[1]? = some (.str qual t)
abbrev qual1 : Str := Str.ofString "_int2digits.<locals>.inner"
abbrev qual2 : Str := Str.ofString "_digits2int.<locals>.inner"
def Tabs (nw : List (Addr × Obj)) : Prop := ∃ a b, nw = a ++ b ∧ TabL 81 73 4 qual1 a ∧ TabL 88 88 4 qual2 b
theorem tabs_start : Tabs [(81, tabObj #[]), (88, tabObj #[])] := ⟨[_], [_], rfl, .inl rfl, .inl rfl⟩
theorem TabL.mem {P ln col : Nat} {qual : Str} {nw : List (Addr × Obj)} (h : TabL P ln col qual nw) : ∃ o, (P, o) ∈ nw := by
  rcases h with rfl | ⟨c', oc, vs, t, -, rfl, -, -⟩
  · exact ⟨_, .head _⟩
  · exact ⟨_, .head _⟩
theorem TabL.ne {P P' ln col : Nat} {qual : Str} {nw : List (Addr × Obj)} (h : TabL P ln col qual nw) (h1 : P ≠ P') (h2 : P' ≤ 88) : ∀ q ∈ nw, @Ne Nat q.1 P' := by
  rcases h with rfl | ⟨c', oc, vs, t, h3, rfl, -, -⟩ <;> intro q hq <;> simp only [List.mem_cons, List.not_mem_nil, or_false] at hq
  · subst hq; exact h1
  · rcases hq with rfl | rfl
    · exact h1
    · show @Ne Nat c' P'
      omega
theorem updF_mid {d : Addr} {o : Obj} {post : List (Addr × Obj)} : ∀ {pre : List (Addr × Obj)}, (∀ p ∈ pre, @Ne Nat p.1 d) → (∀ p ∈ post, @Ne Nat p.1 d) → UpdF d o (pre ++ (d, o) :: post) (fun o' => pre ++ (d, o') :: post)
  | [], _, h => .head h
  | _ :: _, k, h => .tail (k _ (.head _)) (updF_mid (fun p hp => k p (.tail _ hp)) h)
theorem allLt_all {d : Nat} : ∀ {l : List (Addr × Obj)}, (∀ p ∈ l, @LT.lt Nat _ p.1 d) → AllLt d l
  | [], _ => trivial
  | _ :: _, h => ⟨h _ (.head _), allLt_all fun p hp => h p (.tail _ hp)⟩
/-- an object that is neither a code's table nor a code -/
def notF (o : Obj) : Bool := match o.cls with
  | .type _ => (match o.data with
    | .fields vs => (match (vs[1]? : Option Value) with
      | some (.str _ _) => false
      | _ => true)
    | _ => true)
  | _ => false
theorem TabL.isF {P ln col : Nat} {qual : Str} {nw : List (Addr × Obj)} (h : TabL P ln col qual nw) : ∀ q ∈ nw, notF q.2 = false := by
  rcases h with rfl | ⟨c', oc, vs, t, -, rfl, h1, h2⟩ <;> intro q hq <;> simp only [List.mem_cons, List.not_mem_nil, or_false] at hq
  · subst hq; rfl
  · rcases hq with rfl | rfl
    · rfl
    · show notF oc = false
      unfold notF
      split
      · rw [h1]
        show (match (vs[1]? : Option Value) with | some (.str _ _) => false | _ => true) = false
        rw [h2]
      · rfl
theorem Tabs.isF {nw : List (Addr × Obj)} (h : Tabs nw) : ∀ q ∈ nw, notF q.2 = false := by
  obtain ⟨a, b, rfl, h1, h2⟩ := h
  intro q hq
  rcases List.mem_append.mp hq with hq | hq
  · exact h1.isF q hq
  · exact h2.isF q hq
theorem dis_kind {h₀ h : Heap} {L : Addr} {news own nw : List (Addr × Obj)} (N : News h₀ L h news) (hs : news = own ++ nw) (TB : Tabs nw) (hk : own.all (fun p => notF p.2) = true) : Dis own nw := by
  subst hs
  refine dis_all fun p hp q hq e => ?_
  have h1 := (N p (List.mem_append_left _ hp)).1
  have h2 := (N q (List.mem_append_right _ hq)).1
  rw [show p.1 = q.1 from e, h2] at h1
  have h3 := List.all_eq_true.mp hk p hp
  have h4 := TB.isF q hq
  rw [← Option.some.inj h1, h4] at h3
  cases h3
theorem off_raw {a : Addr} {nw : List (Addr × Obj)} (h : ∀ p ∈ nw, p.1 < a) : Off a nw := fun q hq => Nat.ne_of_gt (h q hq)
section
variable {M : Model} {A : Around} {E : Value → Shared → Prop} {s : Shared} {h₀ base : Heap} {L a c P : Addr} {m mg mb : Str → Option Value} {cn : Str} {cs : Scope} {ccd : Value} {cl : List (Str × Addr)} {news own nw pre post ta : List (Addr × Obj)}
  {p : Program} {loose : List Str} {mean : ExcName → Option Value} {name qual : Str} {params : Arguments} {body : List Stmt} {scope : Scope} {pos : Pos} {firstLine ln col : Nat} {clos : List (Str × Addr)}
/-- a def within a def: its code is noted in the table, or found there -/
theorem def_core {Q : Value → Shared → Prop} (F : Fr h₀ L s.heap m) (N : News h₀ L s.heap (pre ++ (ta ++ post))) (T : Top p loose mean mg mb h₀) (C : CodeHd h₀ c P) (hcd : ccd = .ref c) (hT : TabL P ln col qual ta) (hln : pos.line = ln) (hcol : pos.col = col)
    (hpre : ∀ p ∈ pre, @Ne Nat p.1 P) (hpost : ∀ p ∈ post, @Ne Nat p.1 P) (h88 : ∃ q ∈ pre ++ (ta ++ post), q.1 = (88 : Nat)) (hcl : closureFor scope (envX cn cs L a ccd cl) = pure clos)
    (h : ∀ (f c' : Addr) oc vs t ctv doc ta' h' tk, Fr h₀ L h' m → News h₀ L h' ((f, fnMade name qual params body scope clos doc ((mg "__name__").getD .none) c' ctv) :: (pre ++ (ta' ++ post))) → TabL P ln col qual ta' →
      (c', oc) ∈ ta' → oc.data = .fields vs → vs[1]? = some (.str qual t) → (∀ q ∈ pre ++ (ta' ++ post), @LT.lt Nat _ q.1 f) → (∀ x ∈ pre, Off x.1 ta → Off x.1 ta') → Q (.ref f) { s with heap := h', toks := tk }) :
    wpAny M A (makeFunction name qual params (.stmts body) scope (envX cn cs L a ccd cl) [] [] [] pos firstLine) Q E s := by
  subst hln; subst hcol
  have hT' := hT
  rcases hT with rfl | ⟨c', oc, vs, t, hc, rfl, h1, h2⟩
  · refine nest_K F N T C hcd (updF_mid hpre hpost) trivial rfl hcl ?_
    intro f c' oc vs t ctv doc h' tk F' N' h1 h2 l1 l2
    have hc : 88 < c' := by
      obtain ⟨q, hq, e⟩ := h88
      have e2 : @LT.lt Nat _ q.1 c' := l1 q hq
      rw [e] at e2
      exact e2
    refine h f c' oc vs t ctv doc _ h' tk F' (fun q hq => N' q ?_) (.inr ⟨c', oc, vs, t, hc, rfl, h1, h2⟩) (.tail _ (.head _)) h1 h2 (fun q hq => ?_) fun x hx ho q hq => ?_
    · simp only [List.mem_cons, List.mem_append, List.not_mem_nil, or_false] at hq ⊢
      rcases hq with q | q | (q | q) | q <;> simp [q]
    · simp only [List.mem_cons, List.mem_append, List.not_mem_nil, or_false] at hq
      rcases hq with q' | (rfl | rfl) | q'
      · exact Nat.lt_trans (l1 q (List.mem_append_left _ q')) l2
      · exact Nat.lt_trans (l1 (P, tabObj #[]) (List.mem_append_right _ (.head _))) l2
      · exact l2
      · exact Nat.lt_trans (l1 q (List.mem_append_right _ (.tail _ q'))) l2
    · simp only [List.mem_cons, List.not_mem_nil, or_false] at hq
      rcases hq with rfl | rfl
      · exact ho (P, tabObj #[]) (.head _)
      · exact Nat.ne_of_lt (l1 x (List.mem_append_left _ hx))
  · refine nestHit_K (c' := c') F N T C hcd (List.mem_append_right _ (.head _)) (by simp [TriplesOk, rawInt]) (by simp [codeAmong, rawInt]) hcl ?_
    intro f ctv doc h' tk F' N' l1
    exact h f c' oc vs t ctv doc _ h' tk F' N' hT' (.tail _ (.head _)) h1 h2 l1 fun x hx ho => ho
theorem Dis.off {own nw : List (Addr × Obj)} (D : Dis own nw) {P : Addr} {o : Obj} (hm : (P, o) ∈ nw) : ∀ p ∈ own, @Ne Nat p.1 P := fun p hp => D.all p hp _ hm
/-- the def in _int2digits -/
theorem def_one {Q : Value → Shared → Prop} (TB : Tabs nw) (F : Fr h₀ L s.heap m) (N : News h₀ L s.heap news) (hs : news = own ++ nw) (D : Dis own nw) (T : Top p loose mean mg mb h₀) (C : CodeHd h₀ c 81) (hcd : ccd = .ref c) (hq : qual = qual1) (hln : pos.line = 73) (hcol : pos.col = 4)
    (hcl : closureFor scope (envX cn cs L a ccd cl) = pure clos)
    (h : ∀ (f c' : Addr) oc vs t ctv doc nw' h' tk, Tabs nw' → Dis own nw' → Off f nw' → AllLt f own → (c', oc) ∈ nw' → oc.data = .fields vs → vs[1]? = some (.str qual t) → Fr h₀ L h' m → News h₀ L h' ((f, fnMade name qual params body scope clos doc ((mg "__name__").getD .none) c' ctv) :: (own ++ nw')) →
      Q (.ref f) { s with heap := h', toks := tk }) :
    wpAny M A (makeFunction name qual params (.stmts body) scope (envX cn cs L a ccd cl) [] [] [] pos firstLine) Q E s := by
  subst hs
  obtain ⟨ta, tb, rfl, h1, h2⟩ := TB
  obtain ⟨o1, m1⟩ := h1.mem
  obtain ⟨o2, m2⟩ := h2.mem
  subst hq
  refine def_core F N T C hcd h1 hln hcol (fun p hp => D.all p hp _ (List.mem_append_left _ m1)) (h2.ne (by decide) (by decide)) ⟨(88, o2), List.mem_append_right _ (List.mem_append_right _ m2), rfl⟩ hcl ?_
  intro f c' oc vs t ctv doc ta' h' tk F' N' T' hm d1 d2 l1 hd
  refine h f c' oc vs t ctv doc (ta' ++ tb) h' tk ⟨_, _, rfl, T', h2⟩ (dis_all fun p hp q hq => ?_) (fun q hq => Nat.ne_of_gt (l1 q (List.mem_append_right _ hq))) (allLt_all fun q hq => l1 q (List.mem_append_left _ hq)) (List.mem_append_left _ hm) d1 d2 F' N'
  rcases List.mem_append.mp hq with hq | hq
  · exact hd p hp (fun q' hq' => D.all p hp q' (List.mem_append_left _ hq')) q hq
  · exact D.all p hp q (List.mem_append_right _ hq)
/-- the def in _digits2int -/
theorem def_two {Q : Value → Shared → Prop} (TB : Tabs nw) (F : Fr h₀ L s.heap m) (N : News h₀ L s.heap news) (hs : news = own ++ nw) (D : Dis own nw) (T : Top p loose mean mg mb h₀) (C : CodeHd h₀ c 88) (hcd : ccd = .ref c) (hq : qual = qual2) (hln : pos.line = 88) (hcol : pos.col = 4)
    (hcl : closureFor scope (envX cn cs L a ccd cl) = pure clos)
    (h : ∀ (f c' : Addr) oc vs t ctv doc nw' h' tk, Tabs nw' → Dis own nw' → Off f nw' → AllLt f own → (c', oc) ∈ nw' → oc.data = .fields vs → vs[1]? = some (.str qual t) → Fr h₀ L h' m → News h₀ L h' ((f, fnMade name qual params body scope clos doc ((mg "__name__").getD .none) c' ctv) :: (own ++ nw')) →
      Q (.ref f) { s with heap := h', toks := tk }) :
    wpAny M A (makeFunction name qual params (.stmts body) scope (envX cn cs L a ccd cl) [] [] [] pos firstLine) Q E s := by
  subst hs
  obtain ⟨ta, tb, rfl, h1, h2⟩ := TB
  obtain ⟨o1, m1⟩ := h1.mem
  obtain ⟨o2, m2⟩ := h2.mem
  subst hq
  have N2 : News h₀ L s.heap ((own ++ ta) ++ (tb ++ [])) := by simpa only [List.append_assoc, List.append_nil] using N
  refine def_core F N2 T C hcd h2 hln hcol (fun p hp => ?_) (fun p hp => nomatch hp) ⟨(88, o2), List.mem_append_right _ (List.mem_append_left _ m2), rfl⟩ hcl ?_
  · rcases List.mem_append.mp hp with hp | hp
    · exact D.all p hp _ (List.mem_append_right _ m2)
    · exact h1.ne (by decide) (by decide) p hp
  intro f c' oc vs t ctv doc tb' h' tk F' N' T' hm d1 d2 l1 hd
  simp only [List.append_assoc, List.append_nil] at N' l1
  refine h f c' oc vs t ctv doc (ta ++ tb') h' tk ⟨_, _, rfl, h1, T'⟩ (dis_all fun p hp q hq => ?_) (fun q hq => Nat.ne_of_gt (l1 q (List.mem_append_right _ hq))) (allLt_all fun q hq => l1 q (List.mem_append_left _ hq)) (List.mem_append_right _ hm) d1 d2 F' N'
  rcases List.mem_append.mp hq with hq | hq
  · exact D.all p hp q (List.mem_append_left _ hq)
  · exact hd p (List.mem_append_left _ hp) (fun q' hq' => D.all p hp q' (List.mem_append_right _ hq')) q hq
end
/-- behind a call that was entered with the tables' part alone -/
theorem tab_back {h₀ h h' g : Heap} {L L' : Addr} {m m' : Str → Option Value} {own nw nw' add : List (Addr × Obj)} (F : Fr h₀ L h m) (N : News h₀ L h (own ++ nw)) (D : Dis own nw) (hg : g = hideAll h (nw.map (·.1))) (F' : Fr g L' h' m') (N' : News g L' h' (add ++ nw')) (D' : Dis add nw') :
    Fr h₀ L h' m ∧ News h₀ L h' (add ++ (own ++ nw')) ∧ Dis (add ++ own) nw' ∧ ∀ p ∈ add, AllNe p.1 own := by
  subst hg
  have nm : ∀ b o, h₀.get? b = some o → b ∉ nw.map (·.1) := fun b o e q => by
    obtain ⟨p, hp, rfl⟩ := List.mem_map.mp q
    rw [(N p (List.mem_append_right _ hp)).2.2] at e; cases e
  obtain ⟨oL, es, ep, hL, r⟩ := F.ns
  have nL : L ∉ nw.map (·.1) := fun q => by
    obtain ⟨p, hp, e⟩ := List.mem_map.mp q
    exact (N p (List.mem_append_right _ hp)).2.1 e
  have hLg := hideAll_get (nw.map (·.1)) hL nL
  have how : ∀ p ∈ own, (hideAll h (nw.map (·.1))).get? p.1 = some p.2 := fun p hp => hideAll_get _ (N p (List.mem_append_left _ hp)).1 fun q => by
    obtain ⟨x, hx, e⟩ := List.mem_map.mp q
    exact D.all p hp x hx e.symm
  have st : ∀ b o, h₀.get? b = some o → (hideAll h (nw.map (·.1))).get? b = some o := fun b o e => hideAll_get _ (F.keep b o e) (nm b o e)
  have fresh : ∀ p ∈ add ++ nw', p.1 ≠ L ∧ h₀.get? p.1 = none := fun p hp => by
    refine ⟨fun q => ?_, ?_⟩
    · have := (N' p hp).2.2; rw [q, hLg] at this; cases this
    · cases q : h₀.get? p.1 with
      | none => rfl
      | some o => have := (N' p hp).2.2; rw [st _ _ q] at this; cases this
  refine ⟨⟨⟨oL, es, ep, F'.keep L oL hLg, r⟩, fun b o e => F'.keep b o (st b o e), F.above⟩, fun p hp => ?_, ?_, fun p hp => ?_⟩
  · rcases List.mem_append.mp hp with hp | hp
    · exact ⟨(N' p (List.mem_append_left _ hp)).1, fresh p (List.mem_append_left _ hp)⟩
    · rcases List.mem_append.mp hp with hp | hp
      · exact ⟨F'.keep _ _ (how p hp), (N p (List.mem_append_left _ hp)).2⟩
      · exact ⟨(N' p (List.mem_append_right _ hp)).1, fresh p (List.mem_append_right _ hp)⟩
  · refine dis_all fun p hp => ?_
    rcases List.mem_append.mp hp with hp | hp
    · exact D'.all p hp
    · intro q hq e
      have := (N' q (List.mem_append_right _ hq)).2.2
      rw [show q.1 = p.1 from e.symm, how p hp] at this; cases this
  · refine allNe_all fun q hq e => ?_
    have := (N' p (List.mem_append_left _ hp)).2.2
    rw [show p.1 = q.1 from e.symm, how q hq] at this; cases this

/-- entering a def that has cells: all that stands is the callee's ground, but the listed ledger -/
theorem enterC {prog : Program} {w : World} {dp un : Nat} {gd : Option (List Code)} {cn : Str} {cs : Scope} {L a : Addr} {ccd : Value} {cl : List (Str × Addr)} {outer : List Env}
    {A₀ : Around} {base h₀ : Heap} {m mg mb : Str → Option Value} {p : Program} {loose : List Str} {mean : ExcName → Option Value} {K : Frag} {news : List (Addr × Obj)} {s : Shared} {Q E : Value → Shared → Prop}
    {name qual : Str} {params : Arguments} {body : List Stmt} {scope : Scope} {dV kV doc pm cdv ct oc : Value} {an od : Option Addr} {osl : Array (Option Value)} {f : Addr} {args : List Value} {binds : List (Str × Value)}
    (B : Below A₀ base outer h₀) (F : Fr h₀ L s.heap m) (X₀ : K.In h₀) (N : News h₀ L s.heap news) (T : Top p loose mean mg mb h₀) (hke : cs.kind = .function)
    (ho : K.lookup f = some ⟨oc, od, .func (fnOf name qual params body scope dV kV doc pm an cdv ct), osl⟩) (hcd : codeIn K cdv qual = true) (hroom : dp < recursionLimit)
    (hbind : BindsTo s (fnOf name qual params body scope dV kV doc pm an cdv ct) ⟨args, []⟩ binds) (hkind : (binds.all fun y => scope.names.lookup y.1 == some .local || scope.names.lookup y.1 == some .cell) = true)
    (hnd : ((cellsFrom 0 scope.names []).map (·.1)).Nodup)
    (h : ∀ g L' h₁ tk cells, g = hideAll s.heap (news.map (·.1)) → Fr g L' h₁ (bindL (envOfC qual scope L' f cdv).kindOf binds fun _ => none) → News g L' h₁ (cells ++ news) →
      CellsAre (bindC (envOfC qual scope L' f cdv).kindOf binds fun _ => none) (cellsFrom (L' + 1) scope.names []) cells → AllLt L' news →
      Below (ktrTop dp un gd cn cs L a ccd cl outer) base (envX cn cs L a ccd cl :: outer) g → K.In g → Top p loose mean mg mb g →
      wpAny (model prog w) ((ktrTop dp un gd cn cs L a ccd cl outer).deeper (envOfC qual scope L' f cdv)) (execs body (envOfC qual scope L' f cdv))
        (fun fl s' => Q (match fl with | .ret v => v | _ => .none) s')
        (fun e s' => wpAny (model prog w) ((ktrTop dp un gd cn cs L a ccd cl outer).deeper (envOfC qual scope L' f cdv)) (leaving (envOfC qual scope L' f cdv) e) (fun _ s'' => E e s'') (fun e' s'' => E e' s'') s')
        { s with heap := h₁, toks := tk })
    (hco : scope.isCoroutine = false) (hgen : scope.isGenerator = false) (hk : scope.kind = .function) :
    wpAny (model prog w) (ktrTop dp un gd cn cs L a ccd cl outer) (call (.ref f) args) Q E s := by
  obtain ⟨FG, BG, st, -⟩ := groundX (A := ktrTop dp un gd cn cs L a ccd cl outer) (R := fun _ _ => True) (env := envX cn cs L a ccd cl) B F N rfl rfl hke
  refine wpAny_call (codeAny_call_function hroom ((X₀.keeps F.keep) _ _ ho) rfl hco hgen rfl (codeRec_of (X₀.keeps F.keep) hcd) (hbind _ _ _ _ ?_))
  refine wpAny_newFunctionEnv_cells hk (kindsX hkind _) fun env' he s' x => ?_
  subst he
  refine ⟨(T.nolimit.keeps F.keep).keeps x.toInCall.keep, codeAny_func ?_⟩
  obtain ⟨h₁, tk, rfl, _⟩ := x.done
  have hk₁ := x.toInCall.keep
  obtain ⟨cells, NC, Y⟩ := Cl.news (h₀ := s.heap) (Nat.le_refl _) fun n c hm => ⟨x.cell n c (lookup_of_mem_nodup (cellsFrom_names scope.names 0 (s.heap.objs.size + 1) [] [] rfl ▸ hnd) hm), x.above n c hm⟩
  refine wpAny_mono (h _ s.heap.objs.size h₁ tk cells rfl ⟨x.toInCall.ns, fun b o e => hk₁ b o (of_hideAll _ e), Nat.le_of_eq (hideAll_size _ _)⟩ (fun p hp => ?_) Y (allLt_of fun p hp => Heap.lt_size (N p hp).1) BG (X₀.keeps st) (T.keeps st)) (fun fl s' hl => hl) fun _ _ y => y
  rcases List.mem_append.mp hp with hp | hp
  · refine ⟨(NC p hp).1, (NC p hp).2.1, ?_⟩
    cases q : (hideAll s.heap (news.map (·.1))).get? p.1 with
    | none => rfl
    | some o => have := (NC p hp).2.2; rw [of_hideAll _ q] at this; cases this
  · exact ⟨hk₁ _ _ (N p hp).1, Nat.ne_of_lt (Heap.lt_size (N p hp).1), hideAll_none _ (List.mem_map_of_mem hp)⟩
end Mine
end
-- CE
theorem Mine.atCE : True ∧ True := by
  w_top off
  k_with_none
  first | (walk1; fail) | exact ⟨trivial, trivial⟩
section
open PySem PySem.W PySem.Spec PySem.Calls PyProof.Rows PyProof.V
open LCg
set_option maxRecDepth 100000
set_option maxHeartbeats 4000000
namespace Mine
section
variable {prog : Program} {w : World} {A : Around} {E : Value → Shared → Prop} {s : Shared} {h₀ : Heap} {L : Addr} {m : Str → Option Value} {env : Env}
theorem off1_of {D : Addr} : ∀ {l : List (Addr × Obj)}, (∀ p ∈ l, p.1 ≠ D) → Off1 D l
  | [], _ => trivial
  | p :: r, h => ⟨h p List.mem_cons_self, off1_of fun q hq => h q (List.mem_cons_of_mem _ hq)⟩
/-- one turn of a comprehension over enumerate: its value is good, and what stood still stands -/
def TurnE (prog : Program) (w : World) (A : Around) (h₀ : Heap) (L : Addr) (m : Str → Option Value) (env : Env) (elt : PySem.Expr) (x x₂ : Str) (scope : Scope) (cl : List (Str × Addr)) (s : Shared) (its : Array Value) (news : List (Addr × Obj)) (G : Value → Prop) : Prop :=
  ∀ (i : Nat) v, its[i]? = some v → ∀ e oe I oI C oC D ys m₂ h tk ti (E' : Value → Shared → Prop), oe.cls = .type "enumerate" → oI.cls = .type "list_iterator" → NsObj oC m₂ → m₂ x = some (.int (i : Int) ti) → m₂ x₂ = some v → Fr h₀ L h m →
    News h₀ L h ((I, oI) :: (C, oC) :: (D, lst ys) :: (e, oe) :: news) → Off3 I C D ((e, oe) :: news) → ((@Ne Nat I C) ∧ (@Ne Nat I D) ∧ (@Ne Nat C D)) → (∀ p ∈ news, @Ne Nat p.1 e) →
    wpAny (model prog w) A (eval elt (compEnvC scope cl C env)) (CompEnd h₀ L m { s with heap := h, toks := tk } I oI C oC D (lst ys) (fun nw => (e, oe) ∈ nw ∧ ∀ p ∈ news, p ∈ nw) (fun y _ => G y)) E' { s with heap := h, toks := tk }
def SrcE (prog : Program) (w : World) (A : Around) (h₀ : Heap) (L : Addr) (m : Str → Option Value) (env : Env) (elt : PySem.Expr) (x x₂ : Str) (scope : Scope) (cl : List (Str × Addr)) (Fin : Shared → List Value → List (Addr × Obj) → Prop) (xv : Value) (s₁ : Shared) : Prop :=
  ∃ (e it l : Addr) (its : Array Value) (k : Nat) (news : List (Addr × Obj)) (G : Value → Prop), xv = .ref e ∧ A.handled = none ∧ Fr h₀ L s₁.heap m ∧ News h₀ L s₁.heap news ∧ (l, ({ cls := .type "list", data := .seq its k } : Obj)) ∈ news ∧
    IsEnum s₁.heap e it 0 .none ∧ s₁.heap.IsListIter it l 0 ∧ @Ne Nat e it ∧ h₀.get? e = none ∧ h₀.get? it = none ∧ @Ne Nat L e ∧ @Ne Nat L it ∧ (∀ p ∈ news, @Ne Nat p.1 e ∧ @Ne Nat p.1 it) ∧ its.size ≤ sizeLine ∧
    (∀ g, TurnE prog w A h₀ L m env elt x x₂ scope cl { s₁ with heap := g } its news G) ∧
    ∀ g ys, ys.length = its.size → (∀ y ∈ ys, G y) → Fin { s₁ with heap := g } ys news
theorem src_enum {elt : PySem.Expr} {x x₂ : Str} {scope : Scope} {cl : List (Str × Addr)} {Fin : Shared → List Value → List (Addr × Obj) → Prop} {l : Addr} {its : Array Value} {k : Nat} {news : List (Addr × Obj)} {G : Value → Prop}
    (hh : A.handled = none) (F : Fr h₀ L s.heap m) (N : News h₀ L s.heap news) (hm : (l, ({ cls := .type "list", data := .seq its k } : Obj)) ∈ news) (hsz : its.size ≤ sizeLine)
    (hT : ∀ g, TurnE prog w A h₀ L m env elt x x₂ scope cl { s with heap := g } its news G)
    (hF : ∀ g ys, ys.length = its.size → (∀ y ∈ ys, G y) → Fin { s with heap := g } ys news) :
    wpAny (model prog w) A (call (.type "enumerate") [.ref l]) (SrcE prog w A h₀ L m env elt x x₂ scope cl Fin) E s := by
  have hax := N _ hm
  have hl : s.heap.IsList l its := ⟨_, hax.1, rfl, k, rfl⟩
  have hlt : l < s.heap.objs.size := Heap.lt_size hax.1
  have hLs : L < s.heap.objs.size := F.ns.lt
  refine call_enumerate_list hl fun h' hE hI hz hk => ?_
  exact ⟨_, _, l, its, k, news, G, rfl, hh, F.keeps hk, N.grown hk, hm, hE, hI, Nat.succ_ne_self _, ktu_new F (Nat.le_add_right _ _), ktu_new F (Nat.le_refl _), ktu_ne 1 hLs, Nat.ne_of_lt hLs,
    fun p hp => ⟨ktu_ne 1 (Heap.lt_size (N p hp).1), Nat.ne_of_lt (Heap.lt_size (N p hp).1)⟩, hsz, hT, hF⟩

theorem block_E {elt iter : PySem.Expr} {x x₂ : Str} {px px₂ tp : Pos} {tk} {scope : Scope} {cl : List (Str × Addr)} {pos : Pos} {s₂ : Shared} {e it l : Addr} {its : Array Value} {k : Nat} {news : List (Addr × Obj)} {G : Value → Prop} {Fin : Shared → List Value → List (Addr × Obj) → Prop} {RR : Value → Addr → Result → Shared → Prop}
    (hh : A.handled = none) (F : Fr h₀ L s₂.heap m) (N : News h₀ L s₂.heap news) (hm : (l, ({ cls := .type "list", data := .seq its k } : Obj)) ∈ news) (hE : IsEnum s₂.heap e it 0 .none) (hI : s₂.heap.IsListIter it l 0)
    (hei : @Ne Nat e it) (he₀ : h₀.get? e = none) (hi₀ : h₀.get? it = none) (hLe : @Ne Nat L e) (hLi : @Ne Nat L it) (off : ∀ p ∈ news, @Ne Nat p.1 e ∧ @Ne Nat p.1 it) (hsz : its.size ≤ sizeLine)
    (hcell : ∀ y ∈ scope.names, y.2 ≠ .cell) (hkind : scope.kind = .function) (hx : scope.names.lookup x = some .local) (hx₂ : scope.names.lookup x₂ = some .local) (hxx : x ≠ x₂)
    (hT : TurnE prog w A h₀ L m env elt x x₂ scope cl s₂ its news G) (hF : ∀ ys, ys.length = its.size → (∀ y ∈ ys, G y) → Fin s₂ ys news)
    (hRR : ∀ D C h tk m' ys, Fr h₀ L h m → News h₀ L h ((D, lst ys) :: news) → Off1 D news → h.Ns C m' → h₀.get? C = none → h₀.get? D = none → C ≠ L → D ≠ L → C ≠ D → (∀ p ∈ news, p.1 ≠ C) → Fin s₂ ys news → RR (.ref D) C (.ok .next) { s₂ with heap := h, toks := tk }) :
    wpAny (model prog w) A (newList []) (fun acc s₃ => wpAny (model prog w) A (newFunctionEnv scope env.globals cl [] env.qual none .none (some env)) (fun cenv s₄ =>
      codeAny (model prog w) A (.compStart (.ListComp elt [⟨.Tuple [.Name x px, .Name x₂ px₂] tk tp, iter, [], 0⟩] scope pos) 0 (.ref e) acc { cenv with scope := relabel scope env }) (RR acc cenv.locals) s₄) E s₃) E s₂ := by
  have hlo := N _ hm
  have hlt : l < s₂.heap.objs.size := Heap.lt_size hlo.1
  have helt : e < s₂.heap.objs.size := Heap.lt_size hE
  have hilt : it < s₂.heap.objs.size := by obtain ⟨_, q, _⟩ := id hI; exact Heap.lt_size q
  have W := (WalksT.enumerate (prog := prog) (w := w) hh e it l hei (off _ hm).1 (off _ hm).2 its).toU
  refine wpAny_newObj_type (wpAny_newFunctionEnv hcell (by intro y hy; simp at hy) (fun h₁ hns₁ hsb₁ => ?_) hkind)
  dsimp only at hns₁ hsb₁ ⊢
  generalize hH2 : s₂.heap.push { cls := .type "list", dict := none, data := .seq ([] : List Value).toArray } = H2 at hns₁ hsb₁ ⊢
  have hC : H2.objs.size = s₂.heap.objs.size + 1 := by rw [← hH2, Heap.size_push]
  have hDC : s₂.heap.objs.size ≠ H2.objs.size := by rw [hC]; exact Nat.ne_of_lt (Nat.lt_succ_self _)
  have below : ∀ b, b < s₂.heap.objs.size → b ≠ H2.objs.size ∧ b ≠ s₂.heap.objs.size := fun b hb => ⟨by rw [hC]; exact Nat.ne_of_lt (Nat.lt_succ_of_lt hb), Nat.ne_of_lt hb⟩
  have old : ∀ b o, s₂.heap.get? b = some o → h₁.get? b = some o := fun b o q => hsb₁.extBut b o (below b (Heap.lt_size q)).1 (Heap.get?_push_of_some _ (hH2 ▸ Heap.get?_push_of_some _ q))
  have hacc : h₁.get? s₂.heap.objs.size = some (lst []) := hsb₁.extBut _ _ hDC (Heap.get?_push_of_some _ (hH2 ▸ Heap.get?_push_size _ rfl))
  have hst₁ := W.frame 0 s₂.heap h₁ ⟨⟨.none, hE⟩, hI, ⟨_, hlo.1, rfl, k, rfl⟩⟩ fun b _ o q => old b o q
  have fresh : ∀ a, s₂.heap.objs.size ≤ a → s₂.heap.get? a = none := fun a ha => by
    cases q : s₂.heap.get? a with
    | none => rfl
    | some o' => exact absurd (Heap.lt_size q) (Nat.not_lt.mpr ha)
  have fresh₀ : ∀ a, s₂.heap.objs.size ≤ a → h₀.get? a = none := fun a ha => by
    cases q : h₀.get? a with
    | none => rfl
    | some o' => have := F.keep a o' q; rw [fresh a ha] at this; cases this
  have hD₀ : h₀.get? s₂.heap.objs.size = none := fresh₀ _ (Nat.le_refl _)
  have hC₀ : h₀.get? H2.objs.size = none := fresh₀ _ (by rw [hC]; exact Nat.le_succ _)
  have hLlt : L < s₂.heap.objs.size := F.ns.lt
  have hDL : s₂.heap.objs.size ≠ L := Ne.symm (below L hLlt).2
  have hCL : H2.objs.size ≠ L := Ne.symm (below L hLlt).1
  have hCi : it ≠ H2.objs.size := (below it hilt).1
  have hDi : it ≠ s₂.heap.objs.size := (below it hilt).2
  have hCe : e ≠ H2.objs.size := (below e helt).1
  have hDe : e ≠ s₂.heap.objs.size := (below e helt).2
  have hCf : H2.objs.size ∉ [e, it, l] := fun q => by
    have : H2.objs.size = e ∨ H2.objs.size = it ∨ H2.objs.size = l := by simpa using q
    rcases this with q | q | q
    · exact hCe q.symm
    · exact hCi q.symm
    · exact (below l hlt).1 q.symm
  have hDf : s₂.heap.objs.size ∉ [e, it, l] := fun q => by
    have : s₂.heap.objs.size = e ∨ s₂.heap.objs.size = it ∨ s₂.heap.objs.size = l := by simpa using q
    rcases this with q | q | q
    · exact hDe q.symm
    · exact hDi q.symm
    · exact (below l hlt).2 q.symm
  have hCw : H2.objs.size ∉ [e, it] := fun q => hCf (by have : H2.objs.size = e ∨ H2.objs.size = it := by simpa using q
                                                        rcases this with q | q <;> simp [q])
  have hLw : L ∉ [e, it] := fun q => by
    have : L = e ∨ L = it := by simpa using q
    exact this.elim hLe hLi
  have hnw : ∀ p ∈ (s₂.heap.objs.size, lst []) :: news, p.1 ∉ [e, it] := fun p hp q => by
    have z : p.1 = e ∨ p.1 = it := by simpa using q
    rcases List.mem_cons.mp hp with rfl | hp
    · exact z.elim (fun q => hDe q.symm) (fun q => hDi q.symm)
    · exact z.elim (off p hp).1 (off p hp).2
  have hw₀ : ∀ b o, h₀.get? b = some o → b ∉ [e, it] := fun b o q r => by
    have z : b = e ∨ b = it := by simpa using r
    rcases z with rfl | rfl
    · rw [he₀] at q; cases q
    · rw [hi₀] at q; cases q
  have offD : ∀ p ∈ news, p.1 ≠ s₂.heap.objs.size := fun p hp => (below _ (Heap.lt_size (N p hp).1)).2
  have offC : ∀ p ∈ news, p.1 ≠ H2.objs.size := fun p hp => (below _ (Heap.lt_size (N p hp).1)).1
  have kept : ∀ (h h' : Heap) (m' : Str → Option Value) (ys : List Value), (∀ b o, b ∉ [e, it] → h.get? b = some o → h'.get? b = some o) → Fr h₀ L h m → h.Ns H2.objs.size m' → News h₀ L h ((s₂.heap.objs.size, lst ys) :: news) →
      Fr h₀ L h' m ∧ h'.Ns H2.objs.size m' ∧ News h₀ L h' ((s₂.heap.objs.size, lst ys) :: news) := fun h h' m' ys hk F' hn' N' =>
    ⟨⟨F'.ns.at' fun o q => hk _ o hLw q, fun b o q => hk b o (hw₀ b o q) (F'.keep b o q), F'.above⟩, hn'.at' fun o q => hk _ o hCw q, fun p hp => ⟨hk _ _ (by
      rcases List.mem_cons.mp hp with rfl | hp'
      · exact hnw (s₂.heap.objs.size, lst []) List.mem_cons_self
      · exact hnw p (List.mem_cons_of_mem _ hp')) (N' p hp).1, (N' p hp).2⟩⟩
  have loop : ∀ s₃ : Shared, s₃ = { s₂ with heap := h₁, toks := s₂.toks + ([] : List (Str × Value)).length } →
      codeAny (model prog w) A (.compLoop (.ListComp elt [⟨.Tuple [.Name x px, .Name x₂ px₂] tk tp, iter, [], 0⟩] scope pos) 0 (.ref e) (.ref s₂.heap.objs.size) (compEnvC scope cl H2.objs.size env))
        (RR (.ref s₂.heap.objs.size) H2.objs.size) s₃ := by
    rintro s₃ rfl
    refine LCp.codeAny_compLoop_pair
      (fun k' s' => ∃ h' tk i ys m', s' = { s₂ with heap := h', toks := tk } ∧ i ≤ its.size ∧ k' = its.size + 1 - i ∧ ys.length = i ∧ ((∃ old, IsEnum h' e it (i : Int) old) ∧ h'.IsListIter it l i ∧ h'.IsList l its) ∧ Fr h₀ L h' m ∧ h'.Ns H2.objs.size m' ∧ News h₀ L h' ((s₂.heap.objs.size, lst ys) :: news) ∧
        (∀ y ∈ ys, G y)) ?_ (its.size + 1)
      ⟨h₁, _, 0, [], _, rfl, Nat.zero_le _, rfl, rfl, hst₁, F.keeps old, hns₁, fun p hp => ?_, fun _ h => nomatch h⟩
    · rintro k' s' ⟨h', tk', i, ys, m', rfl, hi, rfl, hyl, hst', F', hn', N', hG⟩
      by_cases hlt : i < its.size
      · refine W.item i _ _ _ hlt hst' fun T vals h₂ tk₂ hPt hT₂ hM hk₂ => ?_
        obtain ⟨ti, v, hv, rfl⟩ := hPt
        refine W.go _ _ _ i T _ _ _ hM fun h₄ hst₄ hk₄ => ?_
        have hT₄ : IsTup h₄ T #[.int (i : Int) ti, v] := hT₂.at fun o q => hk₄ T o (W.apart i T _ hM) q
        obtain ⟨F₄, hn₄, N₄⟩ := kept _ h₄ m' ys (fun b o hb q => hk₄ b o hb (hk₂ b o hb q)) F' hn' N'
        refine assign_Tuple_tuple hh hT₄ rfl rfl fun h₅ hq => ?_
        have he' : ∀ b o, h₄.get? b = some o → h₅.get? b = some o := fun b o q => hq b o (Nat.ne_of_lt (Heap.lt_size q)) q
        refine assignInOrder_cons (wpAny_assign_Name (wpAny_storeName_local (lookup_relabel_local hx) (hn₄.at' fun o q => he' _ o q) (fun h₆ hn₆ hs₆ => ?_) (by simp [compEnvC, relabel, hkind])))
        refine assignInOrder_cons (wpAny_assign_Name (wpAny_storeName_local (lookup_relabel_local hx₂) hn₆ (fun h₃ hn₃ hs₃ => ?_) (by simp [compEnvC, relabel, hkind])))
        refine assignInOrder_nil ?_
        have old3 : ∀ b o, b ≠ H2.objs.size → h₄.get? b = some o → h₃.get? b = some o := fun b o hb q => hs₃.extBut b o hb (hs₆.extBut b o hb (he' b o q))
        have hst₃ := W.frame _ _ h₃ hst₄ fun b hb o q => old3 b o (fun q' => hCf (by rw [← q']; exact hb)) q
        obtain ⟨⟨olde, hee⟩, ⟨oI, heI, hcI, hdI⟩, hll⟩ := id hst₃
        obtain ⟨oe, heE, hcE⟩ : ∃ oe : Obj, h₃.get? e = some oe ∧ oe.cls = .type "enumerate" := ⟨_, hee, rfl⟩
        obtain ⟨oC, heC, hoC⟩ := ns_obj hn₃
        have F₃ : Fr h₀ L h₃ m := ((F₄.keeps he').change hs₆ hCL hC₀).change hs₃ hCL hC₀
        have N₃ : News h₀ L h₃ ((it, oI) :: (H2.objs.size, oC) :: (s₂.heap.objs.size, lst ys) :: (e, oe) :: news) := fun p hp => by
          rcases List.mem_cons.mp hp with rfl | hp
          · exact ⟨heI, Ne.symm hLi, hi₀⟩
          rcases List.mem_cons.mp hp with rfl | hp
          · exact ⟨heC, hCL, hC₀⟩
          rcases List.mem_cons.mp hp with rfl | hp
          · have z := N₄ _ List.mem_cons_self
            exact ⟨old3 _ _ hDC z.1, z.2⟩
          rcases List.mem_cons.mp hp with rfl | hp
          · exact ⟨heE, Ne.symm hLe, he₀⟩
          · have z := N₄ p (List.mem_cons_of_mem _ hp)
            exact ⟨old3 _ _ (offC p hp) z.1, z.2⟩
        refine wpAny_mono (hT i v hv e oe it oI H2.objs.size oC s₂.heap.objs.size ys _ h₃ _ ti _ hcE hcI hoC (by simp [hxx]) (by simp) F₃ N₃ (Off3.of fun p hp => ?_) ⟨hCi, hDi, Ne.symm hDC⟩ fun p hp => (off p hp).1) (fun y s₅ h₅ => ?_) fun _ _ q => q
        · rcases List.mem_cons.mp hp with rfl | hp
          · exact ⟨hei, hCe, hDe⟩
          · exact ⟨(off p hp).2, offC p hp, offD p hp⟩
        obtain ⟨h₇, tk₇, nw, rfl, F₇, N₇, off₇, ⟨hSe, hSn⟩, hGy⟩ := h₅
        have up : ∀ p ∈ (it, oI) :: (H2.objs.size, oC) :: (s₂.heap.objs.size, lst ys) :: (e, oe) :: news, h₇.get? p.1 = some p.2 := fun p hp => by
          refine (N₇ p ?_).1
          rcases List.mem_cons.mp hp with rfl | hp
          · exact List.mem_cons_self
          rcases List.mem_cons.mp hp with rfl | hp
          · exact List.mem_cons_of_mem _ List.mem_cons_self
          rcases List.mem_cons.mp hp with rfl | hp
          · exact List.mem_cons_of_mem _ (List.mem_cons_of_mem _ List.mem_cons_self)
          refine List.mem_cons_of_mem _ (List.mem_cons_of_mem _ (List.mem_cons_of_mem _ ?_))
          rcases List.mem_cons.mp hp with rfl | hp
          · exact hSe
          · exact hSn p hp
        have zC := up (H2.objs.size, oC) (by simp)
        have zD := up (s₂.heap.objs.size, lst ys) (by simp)
        have hst₇ := W.frame (i + 1) h₃ h₇ hst₃ fun b hb o q => by
          have z : b = e ∨ b = it ∨ b = l := by simpa using hb
          rcases z with rfl | rfl | rfl
          · rw [heE] at q; cases q; exact up (_, oe) (by simp)
          · rw [heI] at q; cases q; exact up (_, oI) (by simp)
          · have z := (N₃ _ (List.mem_cons_of_mem _ (List.mem_cons_of_mem _ (List.mem_cons_of_mem _ (List.mem_cons_of_mem _ hm))))).1
            rw [z] at q; cases q
            exact up _ (List.mem_cons_of_mem _ (List.mem_cons_of_mem _ (List.mem_cons_of_mem _ (List.mem_cons_of_mem _ hm))))
        refine append_at (hsz := by show ys.toArray.size ≤ sizeLine; rw [List.size_toArray, hyl]; exact Nat.le_trans hi hsz) zD fun h₅ hs₅ hD₅ => ?_
        refine ⟨its.size + 1 - (i + 1), by omega, h₅, tk₇, i + 1, ys ++ [y], _, rfl, hlt, rfl, by rw [List.length_append, List.length_singleton, hyl], W.frame _ _ _ hst₇ fun b hb o q => hs₅.extBut b o (fun q' => hDf (q' ▸ hb)) q, F₇.change hs₅ hDL hD₀,
          (hoC.ns zC).sameBut hs₅ (Ne.symm hDC), fun p hp => ?_, fun z hz => ?_⟩
        · rcases List.mem_cons.mp hp with rfl | hp
          · exact ⟨hD₅.trans (congrArg some (lst_snoc ys y)), hDL, hD₀⟩
          · exact ⟨hs₅.extBut _ _ (offD p hp) (up p (by simp [hp])), (N p hp).2⟩
        · rcases List.mem_append.mp hz with hz | hz
          · exact hG z hz
          · rw [List.mem_singleton.mp hz]; exact hGy
      · obtain rfl : i = its.size := Nat.le_antisymm hi (Nat.not_lt.mp hlt)
        refine W.done _ _ _ hst' fun h₂ tk₂ hk₂ => ?_
        obtain ⟨F₄, hn₄, N₄⟩ := kept _ h₂ m' ys hk₂ F' hn' N'
        exact hRR _ _ h₂ tk₂ _ ys F₄ N₄ (off1_of fun p hp => offD p hp) hn₄ hC₀ hD₀ hCL hDL (Ne.symm hDC) offC (hF ys hyl hG)
    · rcases List.mem_cons.mp hp with rfl | hp
      · exact ⟨hacc, hDL, hD₀⟩
      · exact ⟨old _ _ (N p hp).1, (N p hp).2⟩
  exact codeAny_compStart_list (loop _ rfl) (W.self 0 _ _ _ hst₁ (loop _ rfl))

theorem comp_enum {elt iter : PySem.Expr} {x x₂ : Str} {px px₂ tp : Pos} {tk} {scope : Scope} {cl : List (Str × Addr)} {pos : Pos} {Q : Value → Shared → Prop} (uF₀ : Fr h₀ L s.heap m)
    (hclos : closureFor scope env = pure cl) (hcell : ∀ y ∈ scope.names, y.2 ≠ .cell) (hkind : scope.kind = .function)
    (hnames : ∀ y ∈ scope.names, y.2 = .local → scope.names.lookup y.1 = some .local) (hx : scope.names.lookup x = some .local) (hx₂ : scope.names.lookup x₂ = some .local) (hxx : x ≠ x₂)
    (h : wpAny (model prog w) A (eval iter env) (SrcE prog w A h₀ L m env elt x x₂ scope cl (fun s₂ => FinE h₀ L m s₂ Q)) E s)
    (hs : ∀ x, foldedSetIterable iter env x = pure x := by intro _; rfl) :
    wpAny (model prog w) A (eval (.ListComp elt [⟨.Tuple [.Name x px, .Name x₂ px₂] tk tp, iter, [], 0⟩] scope pos) env) Q E s := by
  rw [eval_ListComp]
  refine wpAny_comprehension_free (use := none) rfl hs hclos hkind hnames (wpAny_mono h (fun xv s₁ h₁ => ?_) fun _ _ e => e)
  obtain ⟨e, it, l, its, k, news, G, rfl, hh, F, N, hm, hE, hI, hei, he₀, hi₀, hLe, hLi, off, hsz, hT, hF⟩ := h₁
  refine wpAny_pyIter_enum hE ?_
  refine block_E (Fin := fun s₂ => FinE h₀ L m s₂ Q) hh F N hm hE hI hei he₀ hi₀ hLe hLi off hsz hcell hkind hx hx₂ hxx (hT _) (hF _) ?_
  intro D C h tk m' ys F' N' o1 hn hC₀ hD₀ hCL hDL hCD offC fin
  refine ⟨m', hn, fun h'' hs'' => fin D h'' tk (F'.change hs'' hCL hC₀) (fun p hp => ?_) o1⟩
  refine ⟨hs''.extBut _ _ ?_ (N' p hp).1, (N' p hp).2⟩
  rcases List.mem_cons.mp hp with rfl | hp
  · exact Ne.symm hCD
  · exact offC p hp

theorem assign_enum {elt iter : PySem.Expr} {x x₂ y : Str} {px px₂ tp py : Pos} {tk} {scope : Scope} {cl : List (Str × Addr)} {pos spos : Pos} {Q : Flow → Shared → Prop} (uF₀ : Fr h₀ L s.heap m) (hLe : env.locals = L)
    (hsw : swapsWith (.ListComp elt [⟨.Tuple [.Name x px, .Name x₂ px₂] tk tp, iter, [], 0⟩] scope pos) (some (.Name y py)) spos.line env = pure true)
    (hclos : closureFor scope env = pure cl) (hcell : ∀ z ∈ scope.names, z.2 ≠ .cell) (hkind : scope.kind = .function)
    (hnames : ∀ z ∈ scope.names, z.2 = .local → scope.names.lookup z.1 = some .local) (hx : scope.names.lookup x = some .local) (hx₂ : scope.names.lookup x₂ = some .local) (hxx : x ≠ x₂)
    (hy : env.kindOf y = some .local) (hp : (env.scope.kind == .class || (env.scope.kind == .module && env.locals != env.globals)) = false)
    (h : wpAny (model prog w) A (eval iter env) (SrcE prog w A h₀ L m env elt x x₂ scope cl (fun s₂ => FinA h₀ L m s₂ y Q)) E s)
    (hs : ∀ x, foldedSetIterable iter env x = pure x := by intro _; rfl) :
    wpAny (model prog w) A (exec (.Assign [.Name y py] (.ListComp elt [⟨.Tuple [.Name x px, .Name x₂ px₂] tk tp, iter, [], 0⟩] scope pos) spos) env) Q E s := by
  subst hLe
  rw [exec_Assign_Name_used _ _ _ _ hsw]
  refine wpAny_bind (wpAny_standAt (wpAny_bind ?_))
  show wpAny _ A (do let _ ← comprehension (.ListComp elt [⟨.Tuple [.Name x px, .Name x₂ px₂] tk tp, iter, [], 0⟩] scope pos) scope env _ (newList []) false (eval iter env) (some (assign (.Name y py) env))) _ _ s
  refine wpAny_bind (wpAny_mono (wpAny_comprehension_free (use := some (assign (.Name y py) env)) (Q := fun _ s' => Q .next s') rfl hs hclos hkind hnames
    (wpAny_mono h (fun xv s₁ h₁ => ?_) fun _ _ e => e)) (fun _ s' hq => wpAny_pure (wpAny_pure hq)) fun _ _ e => e)
  obtain ⟨e, it, l, its, k, news, G, rfl, hh, F, N, hm, hE, hI, hei, he₀, hi₀, hLe, hLi, off, hsz, hT, hF⟩ := h₁
  refine wpAny_pyIter_enum hE ?_
  refine block_E (Fin := fun s₂ => FinA h₀ env.locals m s₂ y Q) hh F N hm hE hI hei he₀ hi₀ hLe hLi off hsz hcell hkind hx hx₂ hxx (hT _) (hF _) ?_
  intro D C h' tk m' ys F' N' o1 hn hC₀ hD₀ hCL hDL hCD offC fin
  show wpAny _ A (assign (.Name y py) env (.ref D)) _ _ _
  refine wpAny_assign_Name (wpAny_storeName_local hy F'.ns (fun h₂ hn₂ hs₂ => ?_) hp)
  have hL₀ : h₀.get? env.locals = none := Heap.get?_none_of_le F'.above
  have F₂ : Fr h₀ env.locals h₂ (fun z => if z = y then some (.ref D) else m z) := ⟨hn₂, fun b o e => hs₂.extBut b o (fun q => by rw [q, hL₀] at e; cases e) (F'.keep b o e), F'.above⟩
  refine ⟨m', hn.sameBut hs₂ hCL, fun h'' hs'' => fin D h'' _ (F₂.change hs'' hCL hC₀) (fun p hp => ?_) o1⟩
  have z : h₂.get? p.1 = some p.2 := hs₂.extBut _ _ (N' p hp).2.1 (N' p hp).1
  refine ⟨hs''.extBut _ _ ?_ z, (N' p hp).2⟩
  rcases List.mem_cons.mp hp with rfl | hp
  · exact Ne.symm hCD
  · exact offC p hp
end
end Mine
end
-- CS
theorem Mine.atCS : True ∧ True := by
  w_top off
  k_with_none
  first | (walk1; fail) | exact ⟨trivial, trivial⟩
section
open PySem PySem.W PySem.Spec PySem.Calls PyProof.Rows PyProof.V
set_option maxRecDepth 100000
set_option maxHeartbeats 4000000
namespace Mine
section
variable {prog : Program} {w : World} {A : Around} {E : Value → Shared → Prop} {s : Shared} {h₀ : Heap} {L : Addr} {m : Str → Option Value} {news : List (Addr × Obj)}
theorem mem_pick {ns : List Int} {lo hi st : Option Int} : ∀ x ∈ pickNums ns lo hi st, x ∈ ns := fun x hx => by
  unfold pickNums at hx
  obtain ⟨j, _, e⟩ := List.mem_filterMap.mp hx
  exact List.mem_of_getElem? e
/-- a slice with a stride, of a list of ints: its ints are among the list's, and no more of them -/
theorem slice_pick {value slice : PySem.Expr} {l : Addr} {vs : List Value} {ns : List Int} {vl vu vk : Value} {lo hi st : Option Int} {ops : List Value} {Q : Value → Shared → Prop}
    (F : Fr h₀ L s.heap m) (N : News h₀ L s.heap news) (hl : s.heap.IsList l vs.toArray) (hI : IntsAre vs ns) (hsz : vs.length ≤ 100) (pl : IsPart vl lo) (pu : IsPart vu hi) (pk : IsPart vk st) (h0 : st ≠ some 0)
    (h : ∀ h' ws xs, IntsAre ws xs → xs.length ≤ ns.length → (∀ x ∈ xs, x ∈ ns) → Fr h₀ L h' m → News h₀ L h' ((s.heap.objs.size + 1, listOf ws.toArray 0) :: news) → Q (.ref (s.heap.objs.size + 1)) { s with heap := h' })
    (hs : subscripted slice false (.ref l) (.ref s.heap.objs.size) = operate ops (getItem (.ref l) (.ref s.heap.objs.size)) := by with_unfolding_all rfl)
    (ht : ∀ r, letTemporaryGo value (.ref l) r = pure () := by intro _; with_unfolding_all rfl) :
    wpAny (model prog w) A (subscriptTail value slice (.ref l) (.ref s.heap.objs.size)) Q E { s with heap := s.heap.push { cls := .type "slice", data := .fields #[vl, vu, vk] } } := by
  refine slice_list3 F N hl pl pu pk h0 (fun h' F' N' => ?_) hs ht (by rw [PySem.sizeLine_eq, List.size_toArray]; omega)
  refine h h' (slicePick vs.toArray lo hi st).toList (pickNums ns lo hi st) (hI.pick lo hi st) (length_pickNums_le hI lo hi st) mem_pick F' ?_
  simpa using N'
end
theorem sum_le {k : Int} : ∀ {xs : List Int}, (∀ x ∈ xs, 0 ≤ x ∧ x < k) → 0 ≤ xs.sum ∧ xs.sum ≤ xs.length * k
  | [], _ => ⟨by simp, by simp⟩
  | x :: xs, h => by
    have ih := sum_le fun y hy => h y (List.mem_cons_of_mem _ hy)
    have hx := h x List.mem_cons_self
    simp only [List.sum_cons, List.length_cons]
    push_cast
    rw [Int.add_mul]
    omega
theorem cells_lt {ws : List Int} {xs : List Int} {n : Nat} (h : ∀ x ∈ xs, x ∈ (ws.take 12).map (fun k => k.fmod (10 ^ n))) (hn : n = 6) (hl : xs.length ≤ ((ws.take 12).map (fun k => k.fmod (10 ^ n))).length) : 0 ≤ xs.sum ∧ xs.sum ≤ 12000000 := by
  subst hn
  have hb := sum_le (k := 1000000) (xs := xs) fun x hx => by
    obtain ⟨k, _, rfl⟩ := List.mem_map.mp (h x hx)
    rw [show (10 : Int) ^ 6 = 1000000 by decide]
    exact ⟨Int.fmod_nonneg_of_pos _ (by decide), Int.fmod_lt_of_pos _ (by decide)⟩
  have hl' : xs.length ≤ 12 := by
    refine Nat.le_trans hl ?_
    rw [List.length_map, List.length_take]; omega
  omega
theorem end_lt {c : Int} {i : Nat} {ws : List Int} {xs : List Int} {n : Nat} (hc : 0 ≤ c ∧ c ≤ 6 ∧ i < 4) (h : ∀ x ∈ xs, x ∈ (ws.take 12).map (fun k => k.fmod (10 ^ n))) (hn : n = 6) (hl : xs.length ≤ ((ws.take 12).map (fun k => k.fmod (10 ^ n))).length) : 0 ≤ c + xs.sum ∧ c + xs.sum < 1000000000 := by
  have := cells_lt h hn hl
  omega
end Mine
end
-- CM
theorem Mine.atCM : True ∧ True := by
  w_top off
  k_with_none
  first | (walk1; fail) | exact ⟨trivial, trivial⟩
section
open PySem PySem.W PySem.Spec PySem.Calls PyProof.Rows PyProof.V
namespace Mine
theorem mod_some {prog : Program} {w : World} {A : Around} {E : Value → Shared → Prop} {s : Shared} {a b : Int} {t u : Tok} {Q : Value → Shared → Prop} (uha : 0 ≤ a) (hb : 0 < b)
    (h : ∀ r : Nat, (r : Int) < b → Q (.int (r : Int) s.toks) { s with toks := s.toks + 1 }) : wpAny (model prog w) A (binaryOp .Mod (.int a t) (.int b u)) Q E s := by
  refine mod_int (by omega) ?_
  have h0 := Int.fmod_nonneg_of_pos a hb
  have h1 := Int.fmod_lt_of_pos a hb
  have e : a.fmod b = ((a.fmod b).toNat : Int) := (Int.toNat_of_nonneg h0).symm
  rw [e]
  exact h _ (by omega)
end Mine
end
-- KP
theorem Mine.atKP : True ∧ True := by
  w_top off
  k_with_none
  first | (walk1; fail) | exact ⟨trivial, trivial⟩
section
open Lean Elab Tactic Meta PySem PySem.Calls PyProof.Rows PyProof.V PySem.Spec PySem.W
set_option maxRecDepth 100000
namespace Mine
abbrev pD (p : Nat × Nat) : Dat := Dat.tuple [Dat.int (p.1 : Int), Dat.int (p.2 : Int)]
abbrev prT (p : Nat × Nat) (t1 t2 : Tok) (n : Nat) : Obj := { cls := .type "tuple", data := .seq #[.int (p.1 : Int) t1, .int (p.2 : Int) t2] n }
theorem pair_of {news : List (Addr × Obj)} {v : Value} {p : Nat × Nat} (h : DatIn news v (pD p)) : ∃ a t1 t2 n, v = .ref a ∧ (a, prT p t1 t2 n) ∈ news := by
  cases h with
  | tuple hm hr =>
    rename_i a us n
    cases hr with
    | cons h1 hr =>
      cases hr with
      | cons h2 hr =>
        cases hr
        cases h1
        cases h2
        rename_i t1 t2
        exact ⟨a, t1, t2, n, rfl, hm⟩
/-- behind a call that was entered with a part of the ledger, which it left as it was -/
theorem pure_back {h₀ h h' g : Heap} {L L' : Addr} {m' : Str → Option Value} {news hid nx : List (Addr × Obj)} (N : News h₀ L h news) (hs : ∀ p ∈ hid, p ∈ news) (hg : g = hideAll h (hid.map (·.1))) (F' : Fr g L' h' m') (N' : News g L' h' nx) (hx : ∀ p ∈ hid, p ∈ nx) : Keeps h h' := by
  subst hg
  intro b o e
  by_cases hb : b ∈ hid.map (·.1)
  · obtain ⟨q, hq, rfl⟩ := List.mem_map.mp hb
    have h1 := (N q (hs q hq)).1
    rw [h1] at e
    rw [← Option.some.inj e]
    exact (N' q (hx q hq)).1
  · exact F'.keep b o (hideAll_get _ e hb)
section
variable {prog : Program} {w : World} {A : Around} {E : Value → Shared → Prop} {s : Shared} {env : Env} {h₀ : Heap} {target : PySem.Expr} {body : List Stmt} {Q : Flow → Shared → Prop}
/-- a loop over a list of pairs, by what holds of its letters -/
theorem kst_prs {σ : Type} {l : Addr} {vs : List Value} {qs : List (Nat × Nat)} {nn : Nat} {m₀ : Str → Option Value} (x : Str) (Led : σ → List (Addr × Obj)) (ps : σ → List (Str × Value)) (Facts : σ → Prop) (stored : List Str) (P : List (Nat × Nat) → σ → Prop) (c₀ : σ)
    (hh : A.handled = none) (hl : ∀ c : σ, (l, listOf vs.toArray nn) ∈ Led c) (hd : ∀ c : σ, DatAll (Led c) vs (qs.map pD)) (F : Fr h₀ env.locals s.heap m₀) (N : News h₀ env.locals s.heap (Led c₀))
    (hf : Facts c₀) (hk : ∀ p ∈ ps c₀, m₀ p.1 = some p.2) (hp : P [] c₀)
    (turn : ∀ (c : σ) pre p post a t1 t2 n (u : Str → Option Value) h tk own, qs = pre ++ p :: post → OwnOff own ((Led c₀).map (·.1)) → (a, prT p t1 t2 n) ∈ Led c → Facts c → P pre c →
      Fr h₀ env.locals h (fun y => if y = x then u y else kstB (fun z => if stored.contains z then u z else m₀ z) (ps c) y) → News h₀ env.locals h (Led c ++ own) →
      wpAny (model prog w) A (assign target env (.ref a)) (fun _ s₂ => wpAny (model prog w) A (execs body env) (InvPostN h₀ env.locals (KstS Led ps Facts x stored m₀ (fun _ c => P (pre ++ [p]) c) []) own ((Led c₀).map (·.1)) { s with heap := h, toks := tk } Q) E s₂) E { s with heap := h, toks := tk })
    (done : ∀ (c : σ) (u : Str → Option Value) h tk, Facts c → P qs c → Fr h₀ env.locals h (fun y => if y = x then u y else kstB (fun z => if stored.contains z then u z else m₀ z) (ps c) y) → News h₀ env.locals h (Led c) → Q .next { s with heap := h, toks := tk }) :
    wpAny (model prog w) A (pyIter (.ref l)) (fun it s₂ => TurnsAt prog w A h₀ env target body Q E it s₂) E s := by
  refine iter_listTurns (lo := listOf vs.toArray nn) (n := nn) hh F N (hl c₀) rfl rfl fun I hI => ?_
  have key : ∀ (rv : List Value) (rq pre : List (Nat × Nat)) (m : Str → Option Value) (nx : List (Addr × Obj)), (∀ c : σ, DatAll (Led c) rv (rq.map pD)) → qs = pre ++ rq → KstS Led ps Facts x stored m₀ (fun _ c => P pre c) [] m nx →
      ItemsRest prog w A E h₀ env target body Q s [(I, "list_iterator")] [(l, listOf vs.toArray nn)] (rv.map .val) m nx := by
    intro rv
    induction rv with
    | nil =>
      intro rq pre m nx hr e hS
      have e2 : rq = [] := by
        have := (hr c₀).length
        simpa using this.symm
      subst e2
      rw [List.append_nil] at e
      subst e
      obtain ⟨c, rfl, hf', h1, h2, hp'⟩ := hS
      exact ItemsRest.zero fun h tk F₁ N₁ => done c m h tk hf' hp' (kst_frOut h1 h2 F₁) N₁
    | cons v r ih =>
      intro rq pre m nx hr e hS
      obtain ⟨c, rfl, hf', h1, h2, hp'⟩ := hS
      cases rq with
      | nil => have := (hr c₀).length; simp at this
      | cons p rq =>
      have hv : DatIn (Led c) v (pD p) ∧ ∀ c : σ, DatAll (Led c) r (rq.map pD) := by
        refine ⟨?_, fun c' => ?_⟩
        · have := hr c
          rw [List.map_cons] at this
          cases this with
          | cons a b => exact a
        · have := hr c'
          rw [List.map_cons] at this
          cases this with
          | cons a b => exact b
      obtain ⟨a, t1, t2, n, rfl, hm⟩ := pair_of hv.1
      rw [List.map_cons]
      refine ItemsRest.val fun h tk F₁ => AllObj.cons fun it hit => AllObj.nil fun N₁ => ?_
      have hoff : OwnOff [(I, it)] ((Led c₀).map (·.1)) := by
        intro p hp b hb q
        rw [List.mem_singleton.mp hp] at q
        obtain ⟨z, hz, rfl⟩ := List.mem_map.mp hb
        exact Nat.ne_of_lt (hI z hz) q.symm
      refine wpAny_mono (turn c pre p rq a t1 t2 n m h tk [(I, it)] e hoff hm hf' hp' (kst_frOut h1 h2 F₁) fun p hp => N₁ p ?_) (fun _ s₂ q => wpAny_mono q (fun f s₃ q => ?_) fun _ _ y => y) fun _ _ y => y
      · rcases List.mem_append.mp hp with hp | hp
        · exact List.mem_append_right _ hp
        · exact List.mem_append_left _ hp
      · have up : InvEndN h₀ env.locals (KstS Led ps Facts x stored m₀ (fun _ c => P (pre ++ [p]) c) []) [(I, it)] ((Led c₀).map (·.1)) { s with heap := h, toks := tk } s₃ →
            UnrEndW h₀ env.locals { s with heap := h, toks := tk } [(I, it)] (fun m' n' => SubL [(l, listOf vs.toArray nn)] n' ∧ ItemsRest prog w A E h₀ env target body Q s [(I, "list_iterator")] [(l, listOf vs.toArray nn)] (r.map .val) m' n') s₃ := by
          rintro ⟨h', tk', m', news', nx', e', F', N', hn', ho', ha, hS⟩
          refine ⟨h', tk', m', nx', e', F', fun p hp => ?_, fun p hp q hq z => ?_, ?_, ih rq (pre ++ [_]) m' nx' hv.2 (by rw [e, List.append_assoc]; rfl) hS⟩
          · rcases List.mem_append.mp hp with hp | hp
            · exact N' _ (ho' _ hp)
            · exact N' _ (hn' _ hp)
          · rw [List.mem_singleton.mp hq] at z
            have y : p.1 ∈ (Led c₀).map (·.1) := by rw [← ha]; exact List.mem_map_of_mem hp
            obtain ⟨y, hy, e2⟩ := List.mem_map.mp y
            exact Nat.ne_of_lt (hI y hy) (e2.trans z)
          · obtain ⟨c', rfl, _⟩ := hS
            exact ⟨hl c', trivial⟩
        cases f with
        | ret v => exact q
        | brk => exact q
        | next => exact up q
        | cont => exact up q
  exact key vs qs [] m₀ _ hd rfl ⟨c₀, rfl, hf, hk, fun _ _ _ _ => rfl, hp⟩
end
end Mine
end
-- CA
theorem Mine.atCA : True ∧ True := by
  w_top off
  k_with_none
  first | (walk1; fail) | exact ⟨trivial, trivial⟩
section
open PySem PySem.W PySem.Spec PySem.Calls PyProof.Rows PyProof.V
set_option maxRecDepth 100000
namespace Mine
theorem add_some {prog : Program} {w : World} {A : Around} {E : Value → Shared → Prop} {s : Shared} {a b : Int} {t u : Tok} {Q : Value → Shared → Prop} (h0 : 0 ≤ a + b)
    (h : ∀ r : Nat, (r : Int) = a + b → Q (.int (r : Int) s.toks) { s with toks := s.toks + 1 }) : wpAny (model prog w) A (binaryOp .Add (.int a t) (.int b u)) Q E s := by
  refine add_int ?_
  have e : a + b = ((a + b).toNat : Int) := (Int.toNat_of_nonneg h0).symm
  rw [e]
  exact h _ (by omega)
/-- of the ledger's data, the pairs alone -/
theorem dat_pairs {dl : List (Addr × Obj)} : ∀ {ps : List (Nat × Nat)} {vs : List Value}, DatAll dl vs (ps.map pD) → ∃ dp, (∀ q ∈ dp, q ∈ dl) ∧ dp.all (fun p => notF p.2) = true ∧ DatAll dp vs (ps.map pD)
  | [], vs, h => by
    rw [List.map_nil] at h
    cases h
    exact ⟨[], fun q hq => absurd hq List.not_mem_nil, rfl, DatAll.nil⟩
  | p :: r, vs, h => by
    rw [List.map_cons] at h
    cases h with
    | cons h1 h2 =>
      obtain ⟨a, t1, t2, n, rfl, hm⟩ := pair_of h1
      obtain ⟨dp, e1, e2, e3⟩ := dat_pairs h2
      refine ⟨(a, prT p t1 t2 n) :: dp, fun q hq => ?_, ?_, ?_⟩
      · rcases List.mem_cons.mp hq with rfl | hq
        · exact hm
        · exact e1 q hq
      · rw [List.all_cons, e2, Bool.and_true]
        rfl
      · rw [List.map_cons]
        exact DatAll.cons (DatIn.tuple (List.Mem.head _) (DatAll.cons (.int _ _) (DatAll.cons (.int _ _) .nil))) (e3.mono fun q hq => List.mem_cons_of_mem _ hq)
theorem led_cut {h₀ h : Heap} {L : Addr} {lo : Addr × Obj} {dQ dp nw rest nw0 : List (Addr × Obj)} (N : News h₀ L h (lo :: (dQ ++ rest))) (e1 : ∀ q ∈ dp, q ∈ dQ) (e2 : ∀ q ∈ nw, q ∈ nw0) (e3 : ∀ q ∈ nw0, q ∈ rest) : News h₀ L h (lo :: (dp ++ nw)) := fun q hq => by
  refine N q ?_
  rcases List.mem_cons.mp hq with e | hq
  · rw [e]; exact List.Mem.head _
  · rcases List.mem_append.mp hq with hq | hq
    · exact List.mem_cons_of_mem _ (List.mem_append_left _ (e1 q hq))
    · exact List.mem_cons_of_mem _ (List.mem_append_right _ (e3 q (e2 q hq)))
theorem mul_five {prog : Program} {w : World} {A : Around} {E : Value → Shared → Prop} {s : Shared} {h₀ : Heap} {L l : Addr} {m : Str → Option Value} {news : List (Addr × Obj)} {x : Str} {t u : Tok} {Q : Value → Shared → Prop}
    (F : Fr h₀ L s.heap m) (N : News h₀ L s.heap news) (hl : s.heap.IsList l [.str x t].toArray)
    (h : ∀ D h', Fr h₀ L h' m → News h₀ L h' news → h'.IsList D [.str x t, .str x t, .str x t, .str x t, .str x t].toArray → Q (.ref D) { s with heap := h' }) :
    wpAny (model prog w) A (binaryOp .Mult (.int 5 u) (.ref l)) Q E s :=
  mul_list_is_r F N hl (.cons (.str x t) .nil) (by decide) (by decide) (show 1 * 5 ≤ 2 ^ 24 by decide) fun h' F' N' _ hL _ => h _ h' F' N' hL
theorem TabL.tab {P ln col : Nat} {qual : Str} {nw : List (Addr × Obj)} (h : TabL P ln col qual nw) : ∃ ps, (P, tabObj ps) ∈ nw := by
  rcases h with rfl | ⟨c', oc, vs, t, -, rfl, -, -⟩
  · exact ⟨_, .head _⟩
  · exact ⟨_, .head _⟩
theorem grown_of {h₀ h : Heap} {L : Addr} {nw news : List (Addr × Obj)} (TB : Tabs nw) (N : News h₀ L h news) (hs : ∀ q ∈ nw, q ∈ news) : GrownAll [(92, 88), (85, 81)] h := by
  obtain ⟨a, b, rfl, h1, h2⟩ := TB
  obtain ⟨p1, m1⟩ := h1.tab
  obtain ⟨p2, m2⟩ := h2.tab
  exact ⟨GrownAt.of N (hs _ (List.mem_append_right _ m2)), GrownAt.of N (hs _ (List.mem_append_left _ m1)), trivial⟩
end Mine
end
-- PS
theorem Mine.atPS : True ∧ True := by
  w_top off
  k_with_none
  first | (walk1; fail) | exact ⟨trivial, trivial⟩
section
open PySem PySem.W PySem.Spec PySem.Calls PyProof.Rows
open PySem.Builtin PySem.Builtin.Str
namespace Mine
/-- a text's code points -/
abbrev cods (x : Str) : List Nat := x.cps.toList
theorem cods_ext {x y : Str} (h : cods x = cods y) : x = y := Str.ext' (Array.toList_inj.mp h)
theorem cods_append (x y : Str) : cods (x ++ y) = cods x ++ cods y := by
  show (x.cps ++ y.cps).toList = _
  simp
theorem cods_length (x : Str) : (cods x).length = x.length := by simp [Str.length]
theorem slice_to {x : Str} {j : Int} (h : 0 ≤ j ∧ j ≤ x.length) : cods (Txt.slice x none (some j)) = (cods x).take j.toNat := by
  have e := StrLaws.sliceText_to (x := x) (j := j) ⟨h.1, by rw [cods_length]; exact h.2⟩
  have e' : Txt.slice x none (some j) = _ := e
  rw [e']
  simp
theorem slice_from {x : Str} {i : Int} (h : 0 ≤ i ∧ i ≤ x.length) : cods (Txt.slice x (some i) none) = (cods x).drop i.toNat := by
  have e := StrLaws.sliceText_from (x := x) (i := i) ⟨h.1, by rw [cods_length]; exact h.2⟩
  have e' : Txt.slice x (some i) none = _ := e
  rw [e']
  have hl := cods_length x
  simp only [cods] at *
  rw [List.take_of_length_le]
  rw [List.length_drop]; omega
theorem slice_mid {x : Str} {i j : Int} (h : 0 ≤ i ∧ i ≤ j ∧ j ≤ x.length) : cods (Txt.slice x (some i) (some j)) = ((cods x).drop i.toNat).take (j - i).toNat := by
  have e := StrLaws.sliceText_plain (x := x) (i := i) (j := j) ⟨h.1, h.2.1, by rw [cods_length]; exact h.2.2⟩
  have e' : Txt.slice x (some i) (some j) = _ := e
  rw [e']
theorem cods_item {x : Str} {i : Int} (h0 : 0 ≤ i) (h : i < x.length) : ∃ c, (cods x)[i.toNat]? = some c ∧ cods (Txt.item x i) = [c] := by
  obtain ⟨n, hn⟩ := StrLaws.some_at h0 h
  refine ⟨n, by simpa using hn, ?_⟩
  unfold Txt.item Txt.charAt
  rw [StrLaws.at_nonneg h0 hn]
  rfl
theorem quote_is : cods (Str.ofString "\"") = [34] := by decide +kernel
theorem item_quote {x : Str} {i : Int} {c : Nat} (h : cods (Txt.item x i) = [c]) : (Txt.item x i == Str.ofString "\"") = decide (c = 34) := by
  rw [Bool.eq_iff_iff, beq_iff_eq, decide_eq_true_eq]
  constructor
  · intro e; rw [e, quote_is] at h; simpa using h.symm
  · intro e; exact cods_ext (by rw [h, quote_is, e])
/-- the reading of a quoted name: to the first lone quotation mark, two of them told as one -/
def unqF : List Nat → List Nat
  | [] => []
  | [c] => if c = 34 then [] else [c]
  | c :: d :: r => if c = 34 then (if d = 34 then 34 :: unqF r else []) else c :: unqF (d :: r)
theorem unqF_other {c : Nat} (h : c ≠ 34) (r : List Nat) : unqF (c :: r) = c :: unqF r := by
  cases r with
  | nil => simp [unqF, h]
  | cons d r => simp [unqF, h]
theorem unqF_two (r : List Nat) : unqF (34 :: 34 :: r) = 34 :: unqF r := by simp [unqF]
theorem unqF_end {d : Nat} (h : d ≠ 34) (r : List Nat) : unqF (34 :: d :: r) = [] := by simp [unqF, h]
theorem unqF_last : unqF [34] = [] := by simp [unqF]
def PQ (R : List Nat) (x d : Str) (i : Int) : Prop := 5 ≤ i ∧ i ≤ x.length ∧ d.length ≤ i ∧ cods d ++ unqF ((cods x).drop i.toNat) = R
theorem pq_start {x : Str} (h : 5 ≤ x.length) : PQ (unqF ((cods x).drop 5)) x (Str.ofString "") 5 := by
  refine ⟨by omega, by omega, ?_, ?_⟩
  · have : (Str.ofString "").length = 0 := by decide +kernel
    omega
  · have : cods (Str.ofString "") = [] := by decide +kernel
    rw [this]; rfl
theorem drop_at {l : List Nat} {i : Nat} {c : Nat} (h : l[i]? = some c) : l.drop i = c :: l.drop (i + 1) := by
  obtain ⟨h1, h2⟩ := List.getElem?_eq_some_iff.mp h
  rw [List.drop_eq_getElem_cons h1, h2]
theorem pq_one {R : List Nat} {x d : Str} {i : Int} (h : PQ R x d i) (hi : i < x.length) (hc : (Txt.item x i == Str.ofString "\"") = false) : PQ R x (d ++ Txt.item x i) (i + 1) := by
  obtain ⟨h1, h2, h3, h4⟩ := h
  obtain ⟨c, hc1, hc2⟩ := cods_item (show 0 ≤ i by omega) hi
  rw [item_quote hc2, decide_eq_false_iff_not] at hc
  have hl : (Txt.item x i).length = 1 := by rw [← cods_length, hc2]; rfl
  refine ⟨by omega, by omega, ?_, ?_⟩
  · rw [Str.length_append]; omega
  · rw [drop_at hc1, unqF_other hc] at h4
    rw [cods_append, hc2, ← h4, show (i + 1).toNat = i.toNat + 1 by omega]
    simp
theorem pq_two {R : List Nat} {x d : Str} {i : Int} (h : PQ R x d i) (hi : i + 1 < x.length) (hc : (Txt.item x i == Str.ofString "\"") = true) (hd : (Txt.item x (i + 1) != Str.ofString "\"") = false) : PQ R x (d ++ Txt.item x i) (i + 1 + 1) := by
  obtain ⟨h1, h2, h3, h4⟩ := h
  obtain ⟨c, hc1, hc2⟩ := cods_item (show 0 ≤ i by omega) (show i < x.length by omega)
  obtain ⟨e, he1, he2⟩ := cods_item (show 0 ≤ i + 1 by omega) (show i + 1 < x.length by omega)
  rw [item_quote hc2, decide_eq_true_eq] at hc
  rw [bne, item_quote he2, Bool.not_eq_false', decide_eq_true_eq] at hd
  subst hc; subst hd
  have hl : (Txt.item x i).length = 1 := by rw [← cods_length, hc2]; rfl
  rw [show (i + 1).toNat = i.toNat + 1 by omega] at he1
  refine ⟨by omega, by omega, ?_, ?_⟩
  · rw [Str.length_append]; omega
  · rw [drop_at hc1, drop_at he1, unqF_two] at h4
    rw [cods_append, hc2, ← h4, show (i + 1 + 1).toNat = i.toNat + 1 + 1 by omega]
    simp
theorem pq_end1 {R : List Nat} {x d : Str} {i : Int} (h : PQ R x d i) (hi : i < x.length) (hc : (Txt.item x i == Str.ofString "\"") = true) (hl : (x.length : Int) ≤ i + 1) : cods d = R := by
  obtain ⟨h1, h2, h3, h4⟩ := h
  obtain ⟨c, hc1, hc2⟩ := cods_item (show 0 ≤ i by omega) hi
  rw [item_quote hc2, decide_eq_true_eq] at hc
  subst hc
  have : (cods x).drop (i.toNat + 1) = [] := List.drop_eq_nil_of_le (by rw [cods_length]; omega)
  rw [drop_at hc1, this, unqF_last, List.append_nil] at h4
  exact h4
theorem pq_end2 {R : List Nat} {x d : Str} {i : Int} (h : PQ R x d i) (hi : i + 1 < x.length) (hc : (Txt.item x i == Str.ofString "\"") = true) (hd : (Txt.item x (i + 1) != Str.ofString "\"") = true) : cods d = R := by
  obtain ⟨h1, h2, h3, h4⟩ := h
  obtain ⟨c, hc1, hc2⟩ := cods_item (show 0 ≤ i by omega) (show i < x.length by omega)
  obtain ⟨e, he1, he2⟩ := cods_item (show 0 ≤ i + 1 by omega) (show i + 1 < x.length by omega)
  rw [item_quote hc2, decide_eq_true_eq] at hc
  rw [bne, item_quote he2, Bool.not_eq_true', decide_eq_false_iff_not] at hd
  subst hc
  rw [show (i + 1).toNat = i.toNat + 1 by omega] at he1
  rw [drop_at hc1, drop_at he1, unqF_end hd, List.append_nil] at h4
  exact h4
theorem pq_end3 {R : List Nat} {x d : Str} {i : Int} (h : PQ R x d i) (hi : ¬ i < x.length) : cods d = R := by
  obtain ⟨h1, h2, h3, h4⟩ := h
  have : (cods x).drop i.toNat = [] := List.drop_eq_nil_of_le (by rw [cods_length]; omega)
  rw [this] at h4
  simpa [unqF] using h4
abbrev PQW (R : List Nat) (x d : Str) (i : Int) : Prop := 5 ≤ i ∧ i ≤ x.length ∧ d.length ≤ i ∧ PQ R x d i
theorem pqw {R : List Nat} {x d : Str} {i : Int} (h : PQ R x d i) : PQW R x d i := ⟨h.1, h.2.1, h.2.2.1, h⟩
end Mine
end
-- TX
theorem Mine.atTX : True ∧ True := by
  w_top off
  k_with_none
  first | (walk1; fail) | exact ⟨trivial, trivial⟩
section
open PySem PySem.W PySem.Spec PySem.Calls PyProof.Rows
open PySem.Builtin PySem.Builtin.Str
set_option maxRecDepth 100000
namespace Mine
/-- one reply 229, as the law builds it -/
abbrev hdS (n k : Int) : Str := Str.ofString "229(" ++ Txt.mul (Txt.item (Str.ofString "|!x~;") (n.fmod 5)) 3 ++ Str.ofString (toString k) ++ Txt.item (Str.ofString "|!x~;") (n.fmod 5) ++ Str.ofString ")"
def markN (n : Nat) : Nat := [124, 33, 120, 126, 59].getD (n % 5) 0
def digN (k : Nat) : List Nat := if k < 10 then [48 + k] else [48 + k / 10, 48 + k % 10]
/-- its code points -/
def headL (n k : Nat) : List Nat := [50, 50, 57, 40, markN n, markN n, markN n] ++ digN k ++ [markN n, 41]
theorem hdS_small : ∀ i < 5, ∀ k < 65, cods (Str.ofString "229(" ++ Txt.mul (Txt.item (Str.ofString "|!x~;") ((i : Nat) : Int)) 3 ++ Str.ofString (toString ((k : Nat) : Int)) ++ Txt.item (Str.ofString "|!x~;") ((i : Nat) : Int) ++ Str.ofString ")") = headL i k := by decide +kernel
theorem markN_mod (n : Nat) : markN (n % 5) = markN n := by unfold markN; rw [Nat.mod_mod]
theorem headL_mod (n k : Nat) : headL (n % 5) k = headL n k := by unfold headL; rw [markN_mod]
theorem hdS_cods (n k : Nat) (hk : k < 65) : cods (hdS n k) = headL n k := by
  have e : ((n : Int)).fmod 5 = ((n % 5 : Nat) : Int) := by
    rw [Int.fmod_eq_emod_of_nonneg _ (by decide)]; norm_cast
  have h := hdS_small (n % 5) (Nat.mod_lt _ (by decide)) k hk
  rw [headL_mod] at h
  unfold hdS
  rw [e]
  exact h
theorem mark_small : ∀ i < 5, (Txt.item (Str.ofString "|!x~;") ((i : Nat) : Int)).length = 1 ∧ (Txt.mul (Txt.item (Str.ofString "|!x~;") ((i : Nat) : Int)) 3).length = 3 := by decide +kernel
theorem mark_len (n : Nat) : (Txt.item (Str.ofString "|!x~;") ((n : Int).fmod 5)).length = 1 ∧ (Txt.mul (Txt.item (Str.ofString "|!x~;") ((n : Int).fmod 5)) 3).length = 3 := by
  have e : ((n : Int)).fmod 5 = ((n % 5 : Nat) : Int) := by
    rw [Int.fmod_eq_emod_of_nonneg _ (by decide)]; norm_cast
  rw [e]
  exact mark_small (n % 5) (Nat.mod_lt _ (by decide))
theorem dig_small : ∀ k < 65, (Str.ofString (toString ((k : Nat) : Int))).length ≤ 2 := by decide +kernel
theorem dig_len {k : Nat} (hk : k < 65) : (Str.ofString (toString (k : Int))).length ≤ 2 := dig_small k hk
theorem headL_len (n k : Nat) : (headL n k).length ≤ 11 := by
  unfold headL digN
  split <;> simp
theorem hdS_len (n k : Nat) (hk : k < 65) : (hdS n k).length ≤ 11 := by
  rw [← cods_length, hdS_cods n k hk]; exact headL_len n k
theorem join_two (a b : Str) : cods (Txt.join (Str.ofString "") [a, b]) = cods a ++ cods b := by
  unfold Txt.join
  rw [StrLaws.glued_eq_join]
  show cods (a ++ Str.ofString "" ++ b) = _
  rw [cods_append, cods_append]
  have : cods (Str.ofString "") = [] := by decide +kernel
  rw [this, List.append_nil]
end Mine
end
-- WD
theorem Mine.atWD : True ∧ True := by
  w_top off
  k_with_none
  first | (walk1; fail) | exact ⟨trivial, trivial⟩
section
open PySem PySem.W PySem.Spec PySem.Calls PyProof.Rows
open PySem.Builtin PySem.Builtin.Str
set_option maxRecDepth 100000
namespace Mine
def partsF (n : Nat) : List (Nat × Nat) := (primesF ((n : Int) - 1)).map fun p => (p.toNat, (rootF p).toNat)
def quoteL (l : List Nat) : List Nat := [50, 53, 55, 32, 34] ++ StrLaws.dbl 34 l ++ [34]
/-- the words of a number with its own parts, to the depth f -/
def stdL : Nat → Nat → Nat → List Nat
  | 0, _, _ => []
  | f + 1, n, b => headL n n ++ headL n b ++ (partsF n).flatMap fun p => quoteL (stdL f p.1 p.2)
def tailL (f : Nat) (ps : List (Nat × Nat)) : List Nat := ps.flatMap fun p => quoteL (stdL f p.1 p.2)
theorem tailL_snoc (f : Nat) (ps : List (Nat × Nat)) (p : Nat × Nat) : tailL f (ps ++ [p]) = tailL f ps ++ quoteL (stdL f p.1 p.2) := by
  unfold tailL; rw [List.flatMap_append]; simp
theorem stdL_succ (f n b : Nat) : stdL (f + 1) n b = headL n n ++ headL n b ++ tailL f (partsF n) := rfl
def RootsOk (n : Nat) : Prop := ∀ q ∈ primesF ((n : Int) - 1), RootOk q
theorem parts_dat {n : Nat} (h : RootsOk n) : (primesF ((n : Int) - 1)).map partD = (partsF n).map pD := by
  unfold partsF
  rw [List.map_map]
  refine List.map_congr_left fun q hq => ?_
  obtain ⟨h1, h2, h3, -⟩ := h q hq
  show Dat.tuple [Dat.int q, Dat.int (rootF q)] = Dat.tuple [Dat.int ((q.toNat : Nat) : Int), Dat.int (((rootF q).toNat : Nat) : Int)]
  rw [Int.toNat_of_nonneg (by omega), Int.toNat_of_nonneg (by omega)]
/-- the contract of _law_words for a number with its own parts -/
def StdW (w : World) (loose : List Str) (mean : ExcName → Option Value) (mg mb : Str → Option Value) (f number base : Nat) : Prop :=
  ∀ (t1 t2 : Tok) (lp : Addr) (vs : List Value) (kp : Nat) (dl : List (Addr × Obj)) (dp un : Nat) (gd : Option (List Code)) (cn : Str) (cs : Scope) (L a : Addr) (ccd : Value) (cl : List (Str × Addr)) (outer : List Env)
    (A₀ : Around) (bs h₀ : Heap) (m : Str → Option Value) (news : List (Addr × Obj)) (s : Shared) (Q E : Value → Shared → Prop),
    Below A₀ bs outer h₀ → Fr h₀ L s.heap m → (Mine.hd.heap_1 w.params).In h₀ → News h₀ L s.heap news → Top topProg loose mean mg mb h₀ → cs.kind = .function → dp + f < 760 → un + 10 * f < 7500 →
    (lp, listOf vs.toArray kp) ∈ news → (∀ p ∈ dl, p ∈ news) → DatAll dl vs ((partsF number).map pD) →
    (∀ x t h' tk', cods x = stdL f number base → Keeps s.heap h' → Fr h₀ L h' m → News h₀ L h' news → Q (.str x t) { s with heap := h', toks := tk' }) →
    wpAny (model PySem.Challenge.rw_wj0026_01.row.prog w) (ktrTop dp un gd cn cs L a ccd cl outer) (call (.ref 159) [.int (number : Int) t1, .int (base : Int) t2, .ref lp]) Q E s
theorem dbl_len (c : Nat) : ∀ l : List Nat, l.length ≤ (StrLaws.dbl c l).length ∧ (StrLaws.dbl c l).length ≤ 2 * l.length
  | [] => by simp [StrLaws.dbl]
  | k :: r => by
    have := dbl_len c r
    unfold StrLaws.dbl
    split <;> simp only [List.length_cons] <;> omega
theorem part_mem {ps pre post : List (Nat × Nat)} {p : Nat × Nat} (e : ps = pre ++ p :: post) : p ∈ ps := by rw [e]; exact List.mem_append_right _ (.head _)
theorem tail_len {f : Nat} {ps pre post : List (Nat × Nat)} {p : Nat × Nat} (e : ps = pre ++ p :: post) : (tailL f pre).length + (quoteL (stdL f p.1 p.2)).length ≤ (tailL f ps).length := by
  rw [e]
  unfold tailL
  simp only [List.flatMap_append, List.flatMap_cons, List.length_append]
  omega
/-- what holds of the words behind the parts pre -/
def WdP (n b f : Nat) (pre : List (Nat × Nat)) (x : Str) : Prop := cods x = headL n n ++ headL n b ++ tailL f pre
theorem wd_start {n b f : Nat} (hn : n < 65) (hb : b < 65) : WdP n b f [] (Txt.join (Str.ofString "") [hdS n n, hdS n b]) := by
  unfold WdP
  rw [join_two, hdS_cods n n hn, hdS_cods n b hb]
  simp [tailL]
theorem quote2 : (Str.ofString "\"" : Str) = ⟨#[34]⟩ ∧ (Str.ofString "\"\"" : Str) = ⟨#[34, 34]⟩ ∧ cods (Str.ofString "257 \"") = [50, 53, 55, 32, 34] := by decide +kernel
theorem wd_turn {n b f : Nat} {pre : List (Nat × Nat)} {p : Nat × Nat} {x y : Str} (h : WdP n b f pre x) (hy : cods y = stdL f p.1 p.2) :
    WdP n b f (pre ++ [p]) (x ++ (Str.ofString "257 \"" ++ Txt.replace y (Str.ofString "\"") (Str.ofString "\"\"") ++ Str.ofString "\"")) := by
  unfold WdP at *
  rw [cods_append, cods_append, cods_append, h, quote2.2.2, quote_is, quote2.1, quote2.2.1]
  have e : cods (Txt.replace y ⟨#[34]⟩ ⟨#[34, 34]⟩) = StrLaws.dbl 34 (cods y) := StrLaws.replace_double y 34
  rw [e, hy, tailL_snoc]
  unfold quoteL
  simp only [List.append_assoc]
theorem wd_turn' {n b f : Nat} {pre : List (Nat × Nat)} {p : Nat × Nat} {x y : Str} (h : WdP n b f pre x) (hy : cods y = stdL f p.1 p.2) :
    WdP n b f (pre ++ [p]) (x ++ Str.ofString "257 \"" ++ Txt.replace y (Str.ofString "\"") (Str.ofString "\"\"") ++ Str.ofString "\"") := by
  have := wd_turn h hy
  rwa [← Str.append_assoc, ← Str.append_assoc] at this
theorem wd_len {n b f : Nat} {pre : List (Nat × Nat)} {x : Str} (h : WdP n b f pre x) : x.length ≤ 22 + (tailL f pre).length := by
  rw [← cods_length, h]
  have := headL_len n n
  have := headL_len n b
  simp only [List.length_append]
  omega
theorem quote_len {f : Nat} {p : Nat × Nat} {y : Str} (hy : cods y = stdL f p.1 p.2) : (Txt.replace y (Str.ofString "\"") (Str.ofString "\"\"")).length ≤ (quoteL (stdL f p.1 p.2)).length ∧ y.length ≤ (quoteL (stdL f p.1 p.2)).length := by
  have e : cods (Txt.replace y ⟨#[34]⟩ ⟨#[34, 34]⟩) = StrLaws.dbl 34 (cods y) := StrLaws.replace_double y 34
  rw [quote2.1, quote2.2.1, ← cods_length, ← cods_length, e, hy]
  have := dbl_len 34 (stdL f p.1 p.2)
  unfold quoteL
  simp only [List.length_append]
  omega
end Mine
end
-- TP
theorem Mine.atTP : True ∧ True := by
  w_top off
  k_with_none
  first | (walk1; fail) | exact ⟨trivial, trivial⟩
section
open PySem PySem.W PySem.Spec PySem.Calls PyProof.Rows
open PySem.Builtin PySem.Builtin.Str
set_option maxRecDepth 100000
namespace Mine
theorem find3_at {x : Str} {c a j : Nat} {i : Int} (hi : fromIndex x.length i = a) (ha : a ≤ j) (hj : (cods x)[j]? = some c) (hb : ∀ v, a ≤ v → v < j → (cods x)[v]? ≠ some c) : Txt.find3 x ⟨#[c]⟩ i = (j : Int) := by
  have hjl : j < x.length := by
    have := (List.getElem?_eq_some_iff.mp hj).1
    rwa [cods_length] at this
  rcases StrLaws.find3_spec x c i with ⟨-, h⟩ | ⟨k, h1, h2, h3, h4, h5⟩
  · exact absurd (StrLaws.getD_of_getElem? hj) (h j (by omega) hjl)
  · rw [h1]
    congr 1
    rcases Nat.lt_trichotomy k j with q | q | q
    · exact absurd (StrLaws.getElem?_of_getD h3 h4) (hb k (by omega) q)
    · exact q
    · exact absurd (StrLaws.getD_of_getElem? hj) (h5 j (by omega) q)
theorem from_zero (n : Nat) : fromIndex n 0 = 0 := by unfold fromIndex; simp
theorem find_is (x y : Str) : Txt.find x y = Txt.find3 x y 0 := by
  unfold Txt.find Txt.find3
  rw [from_zero]
  rfl
theorem chr_is : (Str.ofString "(" : Str) = ⟨#[40]⟩ ∧ (Str.ofString ")" : Str) = ⟨#[41]⟩ ∧ (Str.ofString "229" : Str) = ⟨#[50, 50, 57]⟩ := by decide +kernel
abbrev mkS (l : List Nat) : Str := ⟨l.toArray⟩
theorem str_is {x : Str} {l : List Nat} (h : cods x = l) : x = mkS l := cods_ext (by rw [h])
theorem head_facts : ∀ i < 5, ∀ k < 65, (headL i k)[4]? = some (markN i) ∧ (headL i k)[(headL i k).length - 2]? = some (markN i) ∧ (headL i k)[(headL i k).length - 1]? = some 41 ∧ (∀ v < (headL i k).length - 1, (headL i k)[v]? ≠ some 41) ∧
    9 ≤ (headL i k).length ∧ Txt.split (mkS (((headL i k).drop 4).take ((headL i k).length - 1 - 4))) (mkS [markN i]) = [mkS [], mkS [], mkS [], mkS (digN k), mkS []] := by decide +kernel
theorem dig_int : ∀ k < 65, PySem.intText? (mkS (digN k)) = some ((k : Nat) : Int) ∧ (mkS (digN k)).length ≤ 8 := by decide +kernel
theorem len_one (l : List Nat) : (mkS l).length = l.length := rfl
theorem app_get {a b : List Nat} {i : Nat} (h : i < a.length) : (a ++ b)[i]? = a[i]? := List.getElem?_append_left h
theorem item_at {x : Str} {i : Int} {j c : Nat} (hi : i = (j : Int)) (h : (cods x)[j]? = some c) : Txt.item x i = mkS [c] := by
  subst hi
  have hj : j < x.length := by
    have := (List.getElem?_eq_some_iff.mp h).1
    rwa [cods_length] at this
  obtain ⟨d, h1, h2⟩ := cods_item (x := x) (i := (j : Int)) (by omega) (by omega)
  rw [Int.toNat_natCast, h] at h1
  cases h1
  exact str_is h2
structure HeadP (x : Str) (n k : Nat) (rest : List Nat) (r : Int) : Prop where
  h1 : (Txt.slice x none (some 3) != Str.ofString "229") = false
  h2 : Txt.find x (Str.ofString "(") = 3
  h3 : Txt.find3 x (Str.ofString ")") (Txt.find x (Str.ofString "(") + 1) = r
  hr : 8 ≤ r ∧ r < x.length
  h4 : (Txt.item x (Txt.find x (Str.ofString "(") + 1) != Txt.item x (Txt.find3 x (Str.ofString ")") (Txt.find x (Str.ofString "(") + 1) - 1)) = false
  h5 : Txt.split (Txt.slice x (some (Txt.find x (Str.ofString "(") + 1)) (some (Txt.find3 x (Str.ofString ")") (Txt.find x (Str.ofString "(") + 1)))) (Txt.item x (Txt.find x (Str.ofString "(") + 1)) = [mkS [], mkS [], mkS [], mkS (digN k), mkS []]
  h6 : Txt.find x (Str.ofString ")") = r
  h7 : cods (Txt.slice x (some (Txt.find x (Str.ofString ")") + 1)) none) = rest
theorem head_parse {x : Str} {n k : Nat} {rest : List Nat} (h : cods x = headL n k ++ rest) (hk : k < 65) : HeadP x n k rest (((headL n k).length - 1 : Nat) : Int) := by
  obtain ⟨f1, f2, f3, f4, f5, f6⟩ := head_facts (n % 5) (Nat.mod_lt _ (by decide)) k hk
  rw [headL_mod, markN_mod] at *
  have hxl : x.length = (headL n k).length + rest.length := by rw [← cods_length, h, List.length_append]
  generalize hr : (headL n k).length - 1 = r at *
  have hr2 : (headL n k).length = r + 1 := by omega
  have hr3 : (headL n k).length - 2 = r - 1 := by omega
  rw [hr3] at f2
  have hsh : headL n k = 50 :: 50 :: 57 :: 40 :: (headL n k).drop 4 := by unfold headL; rfl
  have g4 : (cods x)[4]? = some (markN n) := by rw [h, app_get (by omega)]; exact f1
  have gr1 : (cods x)[r - 1]? = some (markN n) := by rw [h, app_get (by omega)]; exact f2
  have gr : (cods x)[r]? = some 41 := by rw [h, app_get (by omega)]; exact f3
  have gb : ∀ v, v < r → (cods x)[v]? ≠ some 41 := fun v hv => by rw [h, app_get (by omega)]; exact f4 v hv
  have hl : Txt.find x (Str.ofString "(") = 3 := by
    rw [find_is, chr_is.1]
    refine find3_at (a := 0) (j := 3) (from_zero _) (by omega) (by rw [h, hsh]; rfl) fun v _ hv => ?_
    rw [h, hsh]
    rcases (show v = 0 ∨ v = 1 ∨ v = 2 by omega) with rfl | rfl | rfl <;> simp
  have hfi : fromIndex x.length (3 + 1) = 4 := by unfold fromIndex; rw [if_neg (by decide)]; decide
  have hrr : Txt.find3 x (Str.ofString ")") (Txt.find x (Str.ofString "(") + 1) = ((r : Nat) : Int) := by
    rw [hl, chr_is.2.1]
    exact find3_at (a := 4) hfi (by omega) gr fun v _ hv => gb v hv
  have hr0 : Txt.find x (Str.ofString ")") = ((r : Nat) : Int) := by
    rw [find_is, chr_is.2.1]
    exact find3_at (a := 0) (from_zero _) (by omega) gr fun v _ hv => gb v hv
  have i4 : Txt.item x (Txt.find x (Str.ofString "(") + 1) = mkS [markN n] := item_at (by rw [hl]; rfl) g4
  have ir : Txt.item x (Txt.find3 x (Str.ofString ")") (Txt.find x (Str.ofString "(") + 1) - 1) = mkS [markN n] := item_at (by rw [hrr]; omega) gr1
  refine ⟨?_, hl, hrr, ⟨by omega, by omega⟩, ?_, ?_, hr0, ?_⟩
  · have e : Txt.slice x none (some 3) = Str.ofString "229" := by
      rw [chr_is.2.2]
      refine str_is ?_
      rw [slice_to (by omega), h, hsh]
      rfl
    rw [e]
    exact bne_self_eq_false _
  · rw [i4, ir]
    exact bne_self_eq_false _
  · rw [i4, hrr, hl]
    have e : Txt.slice x (some (3 + 1)) (some ((r : Nat) : Int)) = mkS (((headL n k).drop 4).take (r - 4)) := by
      refine str_is ?_
      rw [slice_mid (by omega), h]
      rw [show ((3 : Int) + 1).toNat = 4 by decide, show (((r : Nat) : Int) - (3 + 1)).toNat = r - 4 by omega, List.drop_append_of_le_length (by omega), List.take_append_of_le_length (by rw [List.length_drop]; omega)]
    rw [e]
    exact f6
  · rw [hr0, slice_from (by omega), h, show (((r : Nat) : Int) + 1).toNat = (headL n k).length by omega, List.drop_left]
theorem unq_dbl : ∀ (l rest : List Nat), rest.head? ≠ some 34 → unqF (StrLaws.dbl 34 l ++ 34 :: rest) = l
  | [], rest, h => by
    show unqF (34 :: rest) = []
    cases rest with
    | nil => exact unqF_last
    | cons d r => exact unqF_end (by simpa using h) r
  | c :: l, rest, h => by
    unfold StrLaws.dbl
    by_cases hc : c = 34
    · rw [if_pos hc, hc, List.cons_append, List.cons_append, unqF_two, unq_dbl l rest h]
    · rw [if_neg hc, List.cons_append, unqF_other hc, unq_dbl l rest h]
theorem join_len (sep : Str) : ∀ (p : Str) (r : List Str), (Str.join sep (p :: r)).length = ((p :: r).map (·.length)).sum + r.length * sep.length
  | p, [] => by show p.length = _; simp
  | p, q :: r => by
    show (p ++ sep ++ Str.join sep (q :: r)).length = _
    rw [Str.length_append, Str.length_append, join_len sep q r]
    simp only [List.map_cons, List.sum_cons, List.length_cons, Nat.succ_mul]
    omega
theorem parts_len (x : Str) (w : Nat) : ∀ (cuts : List Nat) (a : Nat), (StrLaws.partsFrom x w a cuts).length = cuts.length + 1
  | [], a => rfl
  | c :: r, a => by
    show (_ :: StrLaws.partsFrom x w (c + w) r).length = _
    rw [List.length_cons, parts_len x w r, List.length_cons]
/-- how often a sign stands in a text: as often as the text with the sign doubled is longer -/
theorem count_dbl (x : Str) (c : Nat) : Txt.count x ⟨#[c]⟩ = (((StrLaws.dbl c (cods x)).length : Nat) : Int) - (((cods x).length : Nat) : Int) := by
  unfold Txt.count
  have key : (Txt.split x ⟨#[c]⟩).length = (occurrences x ⟨#[c]⟩ 0 x.length (x.length + 1)).length + 1 := by
    unfold Txt.split
    split
    · rename_i hc
      have e : occurrences x ⟨#[c]⟩ 0 x.length (x.length + 1) = [] := by
        rcases StrLaws.occ_head x ⟨#[c]⟩ (x.length + 1) (by omega) with ⟨h, -⟩ | ⟨i, r, h, ha, -⟩
        · exact h
        · exfalso
          have hm := (StrLaws.subAt_one x c i).mp ha
          rw [Bool.or_eq_true, decide_eq_true_eq, decide_eq_true_eq] at hc
          rcases hc with hc | hc
          · have := ha.1
            omega
          · exact StrLaws.kind_free x c hc (List.mem_of_getElem? hm)
      rw [e]; rfl
    · split
      · rename_i he
        rw [List.isEmpty_iff.mp he]; rfl
      · rw [StrLaws.partsBetween_eq, parts_len]
  have h1 := StrLaws.join_split x ⟨#[c]⟩
  have h2 : cods (Str.join ⟨#[c, c]⟩ (Txt.split x ⟨#[c]⟩)) = StrLaws.dbl c (cods x) := by
    rw [← StrLaws.replace_one]
    exact StrLaws.replace_double x c
  cases hsp : Txt.split x ⟨#[c]⟩ with
  | nil => rw [hsp] at key; simp at key
  | cons p r =>
    rw [hsp] at key h1 h2
    have l1 := congrArg Str.length h1
    have l2 := congrArg List.length h2
    rw [join_len] at l1
    rw [cods_length, join_len] at l2
    have s1 : (⟨#[c]⟩ : Str).length = 1 := rfl
    have s2 : (⟨#[c, c]⟩ : Str).length = 2 := rfl
    rw [s1] at l1
    rw [s2] at l2
    rw [cods_length]
    rw [List.length_cons] at key
    omega
end Mine
end
-- DP
theorem Mine.atDP : True ∧ True := by
  w_top off
  k_with_none
  first | (walk1; fail) | exact ⟨trivial, trivial⟩
section
open PySem PySem.W PySem.Spec PySem.Calls PyProof.Rows
set_option maxRecDepth 100000
namespace Mine
def deepB : Nat → Nat → Bool
  | 0, _ => false
  | f + 1, n => decide (2 ≤ n) && decide (n ≤ 64) && decide ((tailL f (partsF n)).length ≤ 10000) && (partsF n).all fun p => decide (1 ≤ p.2) && decide (p.2 < 64) && deepB f p.1
/-- one prime's root, looked at number by number -/
def rootB (p : Int) : Bool := decide (2 ≤ p) && decide (p ≤ 64) && decide (1 ≤ rootF p) && decide (rootF p ≤ 63) && goesF p (rootF p) && (rangeKs 1 63).all fun c => decide (rootF p ≤ c) || !goesF p c
theorem root_of {p : Int} (h : rootB p = true) : RootOk p := by
  unfold rootB at h
  simp only [Bool.and_eq_true, decide_eq_true_eq, List.all_eq_true, Bool.or_eq_true, Bool.not_eq_true'] at h
  obtain ⟨⟨⟨⟨⟨h1, h2⟩, h3⟩, h4⟩, h5⟩, h6⟩ := h
  refine ⟨⟨h1, h2⟩, h3, h4, h5, fun c hc1 hc2 => ?_⟩
  rcases h6 c (by
    unfold rangeKs
    refine List.mem_map.mpr ⟨(c - 1).toNat, List.mem_range.mpr (by omega), by omega⟩) with h | h
  · omega
  · exact h
def PL : List Int := [2, 3, 5, 7, 11, 13, 17, 19, 23, 29, 31, 37, 41, 43, 47, 53, 59, 61]
theorem roots_PL : ∀ p ∈ PL, rootB p = true := by decide +kernel
theorem primes_PL : ∀ n < 65, ∀ q ∈ primesF (((n : Nat) : Int) - 1), q ∈ PL := by decide +kernel
theorem roots_all {n : Nat} (h : n < 65) : RootsOk n := fun q hq => root_of (roots_PL q (primes_PL n h q hq))
theorem deep_all : ∀ n < 65, 2 ≤ n → deepB 7 n = true := by decide +kernel
end Mine
end
-- KS
theorem Mine.atKS : True ∧ True := by
  w_top off
  k_with_none
  first | (walk1; fail) | exact ⟨trivial, trivial⟩
section
open PySem PySem.W PySem.Spec PySem.Calls PyProof.Rows
set_option maxRecDepth 100000
namespace Mine
section
variable {prog : Program} {w : World} {A : Around} {E : Value → Shared → Prop} {h h₀ : Heap} {L l : Addr} {m : Str → Option Value} {news : List (Addr × Obj)} {value slice : PySem.Expr} {vs : List Value} {Q : Value → Shared → Prop} {tk : Nat} {t : Tok}
theorem pick_tail (vs : List Value) : slicePick vs.toArray (some 1) none none = (vs.drop 1).toArray := by
  have e : sliceBounds (some 1) none none vs.toArray.size = (((min 1 vs.toArray.size : Nat) : Int), ((vs.toArray.size : Nat) : Int), 1) := by
    simp only [sliceBounds, Option.getD_none, show (1 : Int) > 0 by decide, if_true, if_neg (show ¬ ((1 : Int) < 0) by decide)]
    congr 1
    omega
  rw [kmk_pick_nat _ e]
  show ((vs.drop (min 1 vs.toArray.size)).take (vs.toArray.size - min 1 vs.toArray.size)).toArray = _
  rw [List.size_toArray, kmk_drop_min, List.take_of_length_le (by rw [List.length_drop]; omega)]
theorem pick_init (vs : List Value) : slicePick vs.toArray none (some (-1)) none = vs.dropLast.toArray := by
  have e : sliceBounds none (some (-1)) none vs.toArray.size = (((0 : Nat) : Int), ((vs.toArray.size - 1 : Nat) : Int), 1) := by
    simp only [sliceBounds, Option.getD_none, show (1 : Int) > 0 by decide, if_true, if_pos (show (-1 : Int) < 0 by decide)]
    congr 1
    congr 1
    omega
  rw [kmk_pick_nat _ e]
  show ((vs.drop 0).take (vs.toArray.size - 1 - 0)).toArray = _
  rw [List.drop_zero, Nat.sub_zero, List.size_toArray, List.dropLast_eq_take]
theorem slice_tail {sg sd so} (F : Fr h₀ L h m) (N : News h₀ L h news) (hl : h.IsList l vs.toArray)
    (k : ∀ D h', Fr h₀ L h' m → News h₀ L h' ((D, listOf (vs.drop 1).toArray 0) :: news) → (∀ p ∈ news, p.1 < D) → Q (.ref D) (⟨h', sg, sd, tk, so⟩ : Shared))
    (hs : subscripted slice false (.ref l) (.ref h.objs.size) = operate [.ref h.objs.size, .ref l] (getItem (.ref l) (.ref h.objs.size))) (ht : ∀ r, letTemporaryGo value (.ref l) r = pure ()) (hz : vs.length ≤ 1000) :
    wpAny (model prog w) A (subscriptTail value slice (.ref l) (.ref h.objs.size)) Q E (⟨h.push { cls := .type "slice", data := .fields #[.int 1 t, .none, .none] }, sg, sd, tk, so⟩ : Shared) := by
  refine kmk_slice (s := (⟨h, sg, sd, tk, so⟩ : Shared)) F N hl (.int 1 t) .none (fun D h' F' N' l1 => ?_) hs ht (by rw [sizeLine_eq, List.size_toArray]; omega)
  rw [pick_tail] at N'
  exact k D h' F' N' l1
theorem slice_init {sg sd so} (F : Fr h₀ L h m) (N : News h₀ L h news) (hl : h.IsList l vs.toArray)
    (k : ∀ D h', Fr h₀ L h' m → News h₀ L h' ((D, listOf vs.dropLast.toArray 0) :: news) → (∀ p ∈ news, p.1 < D) → Q (.ref D) (⟨h', sg, sd, tk, so⟩ : Shared))
    (hs : subscripted slice false (.ref l) (.ref h.objs.size) = operate [.ref h.objs.size, .ref l] (getItem (.ref l) (.ref h.objs.size))) (ht : ∀ r, letTemporaryGo value (.ref l) r = pure ()) (hz : vs.length ≤ 1000) :
    wpAny (model prog w) A (subscriptTail value slice (.ref l) (.ref h.objs.size)) Q E (⟨h.push { cls := .type "slice", data := .fields #[.none, .int (-1) t, .none] }, sg, sd, tk, so⟩ : Shared) := by
  refine kmk_slice (s := (⟨h, sg, sd, tk, so⟩ : Shared)) F N hl .none (.int (-1) t) (fun D h' F' N' l1 => ?_) hs ht (by rw [sizeLine_eq, List.size_toArray]; omega)
  rw [pick_init] at N'
  exact k D h' F' N' l1
theorem item_last {s : Shared} {init : List Value} {v : Value} {u : Tok} (hl : s.heap.IsList l vs.toArray) (e : vs = init ++ [v]) (k : Q v s) (hs : subscripted slice false (.ref l) (.int (-1) u) = operate [.ref l, .int (-1) u] (getItem (.ref l) (.int (-1) u)) := by with_unfolding_all rfl) :
    wpAny (model prog w) A (subscriptTail value slice (.ref l) (.int (-1) u)) Q E s := by
  have hn : vs.toArray.size = init.length + 1 := by rw [e]; simp
  refine tail_any hl.typeIs slot_list_getitem.lookup (wpAny_getItem_list_neg hl (by decide) (by rw [hn]; omega) (by decide) (x := v) ?_ k) hs
  rw [hn, show ((-1 : Int) + ((init.length + 1 : Nat) : Int)).toNat = init.length by omega, e]
  simp
end
end Mine
end
-- HF
theorem Mine.atHF : True ∧ True := by
  w_top off
  k_with_none
  first | (walk1; fail) | exact ⟨trivial, trivial⟩
section
open PySem PySem.W PySem.Spec PySem.Calls PyProof.Rows
set_option maxRecDepth 100000
namespace Mine
def bothF (number : Nat) : Int := 2 * (primesF (((number : Nat) : Int).fdiv 2) ++ [1]).getD 0 0
def lastF (number : Nat) : Nat × Nat := (partsF number).getLastD (0, 0)
def pickF (more : Int) : Int := [2, 3, 5, 7].getD (more.fmod 4).toNat 0
/-- the parts that are handed over -/
def handF (number : Nat) (kind more : Int) : List (Nat × Nat) :=
  if kind = 4 then (partsF number).drop 1
  else if kind = 5 then ((bothF number).toNat, (1 + more.fmod (bothF number - 1)).toNat) :: (partsF number).drop 1
  else if kind = 6 then (partsF number).dropLast ++ [((lastF number).1, (1 + more.fmod (((lastF number).1 : Int) - 1)).toNat)]
  else if kind = 7 then partsF number ++ [((pickF more).toNat, (rootF (pickF more)).toNat)]
  else partsF number
theorem parts_some : ∀ n < 65, 3 ≤ n → partsF n ≠ [] ∧ (partsF n).length ≤ 4 ∧ (2 ≤ (lastF n).1 ∧ (lastF n).1 ≤ 64) := by decide +kernel
theorem both_small : ∀ n < 65, 3 ≤ n → 2 ≤ bothF n ∧ bothF n ≤ 64 := by decide +kernel
theorem dat_drop {news : List (Addr × Obj)} : ∀ {vs : List Value} {ds : List Dat}, DatAll news vs ds → DatAll news (vs.drop 1) (ds.drop 1) := by
  intro vs ds h
  cases h with
  | nil => exact .nil
  | cons _ h => exact h
theorem dat_last {news : List (Addr × Obj)} {vs : List Value} {ps : List (Nat × Nat)} (h : DatAll news vs (ps.map pD)) (hne : ps ≠ []) :
    ∃ a t1 t2 n, vs = vs.dropLast ++ [.ref a] ∧ (a, prT (ps.getLastD (0, 0)) t1 t2 n) ∈ news ∧ DatAll news vs.dropLast (ps.dropLast.map pD) := by
  induction ps generalizing vs with
  | nil => exact absurd rfl hne
  | cons p r ih =>
    rw [List.map_cons] at h
    cases h with
    | cons h1 h2 =>
      rename_i v vr
      cases r with
      | nil =>
        rw [List.map_nil] at h2
        cases h2
        obtain ⟨a, t1, t2, n, rfl, hm⟩ := pair_of h1
        exact ⟨a, t1, t2, n, rfl, hm, .nil⟩
      | cons q r =>
        obtain ⟨a, t1, t2, n, e, hm, hd⟩ := ih h2 (by simp)
        have hv : vr ≠ [] := by
          intro e2
          rw [e2] at h2
          cases h2
        refine ⟨a, t1, t2, n, ?_, ?_, ?_⟩
        · rw [List.dropLast_cons_of_ne_nil hv, List.cons_append, ← e]
        · rw [show (p :: q :: r).getLastD (0, 0) = (q :: r).getLastD (0, 0) by simp [List.getLastD]]
          exact hm
        · rw [List.dropLast_cons_of_ne_nil hv, List.dropLast_cons_of_ne_nil (by simp), List.map_cons]
          exact .cons h1 hd
theorem pick_cases {more : Int} (h : 0 ≤ more) : pickF more = 2 ∨ pickF more = 3 ∨ pickF more = 5 ∨ pickF more = 7 := by
  unfold pickF
  have h1 := Int.fmod_nonneg_of_pos more (show (0 : Int) < 4 by decide)
  have h2 := Int.fmod_lt_of_pos more (show (0 : Int) < 4 by decide)
  generalize more.fmod 4 = r at h1 h2
  rcases (show r = 0 ∨ r = 1 ∨ r = 2 ∨ r = 3 by omega) with rfl | rfl | rfl | rfl <;> simp
theorem pick_root {more : Int} (h : 0 ≤ more) : RootOk (pickF more) := by
  rcases pick_cases h with e | e | e | e <;> rw [e] <;> exact root_of (roots_PL _ (by decide))
theorem hand_4 {n : Nat} {kind more : Int} (h : kind = 4) : (handF n kind more).map pD = ((partsF n).map pD).drop 1 := by
  unfold handF; rw [if_pos h, List.map_drop]
theorem toNat_add {x : Int} (h : 0 ≤ x) : ((x.toNat : Nat) : Int) = x := Int.toNat_of_nonneg h
theorem fmod_ge {more d : Int} (hd : 1 ≤ d) : 0 ≤ 1 + more.fmod d := by have := Int.fmod_nonneg_of_pos more (show 0 < d by omega); omega
theorem hand_5 {n : Nat} {kind more : Int} (h : kind = 5) (hb : 2 ≤ bothF n) : (handF n kind more).map pD =
    Dat.tuple [Dat.int (2 * (primesF (((n : Nat) : Int).fdiv 2) ++ [1]).getD 0 0), Dat.int (1 + more.fmod (2 * (primesF (((n : Nat) : Int).fdiv 2) ++ [1]).getD 0 0 - 1))] :: ((partsF n).map pD).drop 1 := by
  unfold handF
  rw [if_neg (by omega), if_pos h, List.map_cons, List.map_drop]
  show Dat.tuple [Dat.int (((bothF n).toNat : Nat) : Int), Dat.int (((1 + more.fmod (bothF n - 1)).toNat : Nat) : Int)] :: _ = _
  rw [toNat_add (by omega), toNat_add (fmod_ge (by omega))]
  rfl
theorem hand_6 {n : Nat} {kind more : Int} (h : kind = 6) (hb : 2 ≤ (lastF n).1) : (handF n kind more).map pD =
    (partsF n).dropLast.map pD ++ [Dat.tuple [Dat.int ((lastF n).1 : Int), Dat.int (1 + more.fmod (((lastF n).1 : Int) - 1))]] := by
  unfold handF
  rw [if_neg (by omega), if_neg (by omega), if_pos h, List.map_append, List.map_cons, List.map_nil]
  show _ ++ [Dat.tuple [Dat.int ((lastF n).1 : Int), Dat.int (((1 + more.fmod (((lastF n).1 : Int) - 1)).toNat : Nat) : Int)]] = _
  rw [toNat_add (fmod_ge (by omega))]
theorem hand_7 {n : Nat} {kind more : Int} (h : kind = 7) (hm : 0 ≤ more) : (handF n kind more).map pD =
    (partsF n).map pD ++ [Dat.tuple [Dat.int ([2, 3, 5, 7].getD (more.fmod 4).toNat 0), Dat.int (rootF ([2, 3, 5, 7].getD (more.fmod 4).toNat 0))]] := by
  unfold handF
  rw [if_neg (by omega), if_neg (by omega), if_neg (by omega), if_pos h, List.map_append, List.map_cons, List.map_nil]
  show _ ++ [Dat.tuple [Dat.int (((pickF more).toNat : Nat) : Int), Dat.int (((rootF (pickF more)).toNat : Nat) : Int)]] = _
  obtain ⟨h1, h2, -⟩ := pick_root hm
  rw [toNat_add (by omega), toNat_add (by omega)]
  rfl
theorem hand_0 {n : Nat} {kind more : Int} (h4 : kind ≠ 4) (h5 : kind ≠ 5) (h6 : kind ≠ 6) (h7 : kind ≠ 7) : (handF n kind more).map pD = (partsF n).map pD := by
  unfold handF; rw [if_neg h4, if_neg h5, if_neg h6, if_neg h7]
theorem half_small {n : Nat} (h : 3 ≤ n ∧ n ≤ 64) : 1 ≤ ((n : Nat) : Int).fdiv 2 ∧ ((n : Nat) : Int).fdiv 2 ≤ 64 := by
  rw [Int.fdiv_eq_ediv_of_nonneg _ (by decide)]; omega
end Mine
end
-- MN
theorem Mine.atMN : True ∧ True := by
  w_top off
  k_with_none
  first | (walk1; fail) | exact ⟨trivial, trivial⟩
section
open PySem PySem.W PySem.Spec PySem.Calls PyProof.Rows
set_option maxRecDepth 100000
namespace Mine
/-- p taken out of l as often as it goes -/
def stripN : Nat → Nat → Nat → Nat
  | 0, l, _ => l
  | f + 1, l, p => if l % p = 0 then stripN f (l / p) p else l
theorem strip_fuel {p : Nat} (hp : 2 ≤ p) : ∀ (f g l : Nat), 1 ≤ l → l ≤ f → l ≤ g → stripN f l p = stripN g l p
  | 0, g, l, h1, h2, _ => by omega
  | f + 1, 0, l, h1, _, h3 => by omega
  | f + 1, g + 1, l, h1, h2, h3 => by
    unfold stripN
    by_cases h : l % p = 0
    · rw [if_pos h, if_pos h]
      have e := Nat.div_add_mod l p
      rw [h, Nat.add_zero] at e
      have h4 : l / p < l := Nat.div_lt_self h1 hp
      have h5 : 1 ≤ l / p := by
        rcases Nat.eq_zero_or_pos (l / p) with q | q
        · rw [q] at e; omega
        · exact q
      exact strip_fuel hp f g _ h5 (by omega) (by omega)
    · rw [if_neg h, if_neg h]
theorem strip_step {p l : Nat} (hp : 2 ≤ p) (hl : 1 ≤ l) (h : l % p = 0) : 1 ≤ l / p ∧ l / p < l ∧ stripN l l p = stripN (l / p) (l / p) p := by
  have e := Nat.div_add_mod l p
  rw [h, Nat.add_zero] at e
  have h4 : l / p < l := Nat.div_lt_self hl hp
  have h5 : 1 ≤ l / p := by
    rcases Nat.eq_zero_or_pos (l / p) with q | q
    · rw [q] at e; omega
    · exact q
  refine ⟨h5, h4, ?_⟩
  obtain ⟨k, rfl⟩ : ∃ k, l = k + 1 := ⟨l - 1, by omega⟩
  conv => lhs; unfold stripN
  rw [if_pos h]
  exact strip_fuel hp _ _ _ h5 (by omega) (Nat.le_refl _)
theorem strip_stop {p l : Nat} (hl : 1 ≤ l) (h : l % p ≠ 0) : stripN l l p = l := by
  obtain ⟨k, rfl⟩ : ∃ k, l = k + 1 := ⟨l - 1, by omega⟩
  unfold stripN
  rw [if_neg h]
theorem strip_le {p : Nat} : ∀ (f l : Nat), stripN f l p ≤ l
  | 0, l => Nat.le_refl _
  | f + 1, l => by
    unfold stripN
    split
    · exact Nat.le_trans (strip_le f _) (Nat.div_le_self _ _)
    · exact Nat.le_refl _
def meantGo (n b : Nat) : Nat → List (Nat × Nat) → Nat
  | left, [] => if left = 1 ∧ goesF n b = true then n else 0
  | left, p :: r => if (n - 1) % p.1 ≠ 0 ∨ goesF p.1 p.2 = false then 0 else meantGo n b (stripN left left p.1) r
def meantF (n b : Nat) (ps : List (Nat × Nat)) : Nat := meantGo n b (n - 1) ps
/-- what holds behind the parts pre -/
def MnP (n b : Nat) (ps pre : List (Nat × Nat)) (left : Int) : Prop := ∃ l post, left = ((l : Nat) : Int) ∧ ps = pre ++ post ∧ 1 ≤ l ∧ l ≤ 64 ∧ meantGo n b l post = meantF n b ps
theorem mn_start {n b : Nat} {ps : List (Nat × Nat)} (hn : 2 ≤ n ∧ n ≤ 64) : MnP n b ps [] ((n : Int) - 1) := ⟨n - 1, ps, by omega, rfl, by omega, by omega, rfl⟩
theorem modC (l p : Nat) : ((l : Int)).fmod (p : Int) = ((l % p : Nat) : Int) := by
  rw [Int.fmod_eq_emod_of_nonneg _ (Int.natCast_nonneg p)]; norm_cast
theorem divC (l p : Nat) : ((l : Int)).fdiv (p : Int) = ((l / p : Nat) : Int) := by
  rw [Int.fdiv_eq_ediv_of_nonneg _ (Int.natCast_nonneg p)]; norm_cast
theorem mn_open {n b : Nat} {ps pre post : List (Nat × Nat)} {p : Nat × Nat} {left : Int} (h : MnP n b ps pre left) (e : ps = pre ++ p :: post) :
    ∃ l : Nat, left = (l : Int) ∧ 1 ≤ l ∧ l ≤ 64 ∧ meantGo n b l (p :: post) = meantF n b ps := by
  obtain ⟨l, post', h1, h2, h3, h4, h5⟩ := h
  have e2 : post' = p :: post := List.append_cancel_left (h2.symm.trans e)
  subst e2
  exact ⟨l, h1, h3, h4, h5⟩
theorem mn_ret1 {n b l : Nat} {ps post : List (Nat × Nat)} {p : Nat × Nat} (hn : 2 ≤ n) (h : meantGo n b l (p :: post) = meantF n b ps) (hx : ((n : Int) - 1).fmod (p.1 : Int) ≠ 0) : meantF n b ps = 0 := by
  have hx2 : (n - 1) % p.1 ≠ 0 := by
    intro q
    apply hx
    rw [show (n : Int) - 1 = ((n - 1 : Nat) : Int) by omega, modC, q]
    rfl
  rw [← h]
  unfold meantGo
  rw [if_pos (.inl hx2)]
theorem mn_ret2 {n b l : Nat} {ps post : List (Nat × Nat)} {p : Nat × Nat} (h : meantGo n b l (p :: post) = meantF n b ps) (hx : goesF p.1 p.2 = false) : meantF n b ps = 0 := by
  rw [← h]
  unfold meantGo
  rw [if_pos (.inr hx)]
/-- the while: what is left of it -/
def MnW (S p : Nat) (left : Int) : Prop := ∃ l : Nat, left = (l : Int) ∧ 1 ≤ l ∧ l ≤ 64 ∧ stripN l l p = S
theorem mw_start {p l : Nat} (h1 : 1 ≤ l) (h2 : l ≤ 64) : MnW (stripN l l p) p (l : Int) := ⟨l, rfl, h1, h2, rfl⟩
theorem mw_turn {S p : Nat} {left : Int} (hp : 2 ≤ p) (h : MnW S p left) (hx : left.fmod (p : Int) = 0) : MnW S p (left.fdiv (p : Int)) ∧ (left.fdiv (p : Int)).toNat < left.toNat := by
  obtain ⟨l, rfl, h1, h2, h3⟩ := h
  rw [modC] at hx
  obtain ⟨h5, h4, h6⟩ := strip_step hp h1 (by omega)
  rw [divC]
  exact ⟨⟨l / p, rfl, h5, by omega, h6 ▸ h3⟩, by omega⟩
theorem mw_end {n b S l : Nat} {p : Nat × Nat} {left : Int} {ps pre post : List (Nat × Nat)} (h : MnW S p.1 left) (hx : left.fmod (p.1 : Int) ≠ 0) (hS : S = stripN l l p.1) (e : ps = pre ++ p :: post) (hm : meantGo n b l (p :: post) = meantF n b ps)
    (hn : 2 ≤ n) (h1' : ((n : Int) - 1).fmod (p.1 : Int) = 0) (h2 : goesF p.1 p.2 = true) : MnP n b ps (pre ++ [p]) left := by
  have h1 : (n - 1) % p.1 = 0 := by
    rw [show (n : Int) - 1 = ((n - 1 : Nat) : Int) by omega, modC] at h1'
    omega
  obtain ⟨l', rfl, a1, a2, a3⟩ := h
  rw [modC] at hx
  rw [strip_stop a1 (by omega)] at a3
  subst a3
  refine ⟨l', post, rfl, by rw [e, List.append_assoc]; rfl, a1, a2, ?_⟩
  unfold meantGo at hm
  rw [if_neg (by rw [h2]; simp [h1]), ← hS] at hm
  exact hm
theorem mn_end {n b : Nat} {ps : List (Nat × Nat)} {left : Int} (h : MnP n b ps ps left) : ∃ l : Nat, left = (l : Int) ∧ meantF n b ps = if l = 1 ∧ goesF n b = true then n else 0 := by
  obtain ⟨l, post, h1, h2, h3, h4, h5⟩ := h
  have e : post = [] := by
    have := congrArg List.length h2
    rw [List.length_append] at this
    exact List.eq_nil_of_length_eq_zero (by omega)
  subst e
  exact ⟨l, h1, h5.symm⟩
end Mine
end
-- PV
theorem Mine.atPV : True ∧ True := by
  w_top off
  k_with_none
  first | (walk1; fail) | exact ⟨trivial, trivial⟩
section
open PySem PySem.W PySem.Spec PySem.Calls PyProof.Rows
open PySem.Builtin PySem.Builtin.Str
set_option maxRecDepth 100000
namespace Mine
/-- what the reading of the words tells, pv telling it of the parts -/
def provGo (pv : Nat × Nat → Nat) (n b : Nat) : Nat → List (Nat × Nat) → Nat
  | left, [] => if left = 1 ∧ b ^ (n - 1) % n = 1 then n else 0
  | left, p :: r => if pv p = 0 then 0 else if (n - 1) % pv p ≠ 0 ∨ b ^ ((n - 1) / pv p) % n = 1 then 0 else provGo pv n b (stripN left left (pv p)) r
def provStd : Nat → Nat → Nat → Nat
  | 0, _, _ => 0
  | f + 1, n, b => provGo (fun p => provStd f p.1 p.2) n b (n - 1) (partsF n)
theorem prov_or (pv : Nat × Nat → Nat) (n b : Nat) : ∀ (ps : List (Nat × Nat)) (left : Nat), provGo pv n b left ps = 0 ∨ provGo pv n b left ps = n
  | [], left => by
    unfold provGo
    split
    · exact .inr rfl
    · exact .inl rfl
  | p :: r, left => by
    unfold provGo
    split
    · exact .inl rfl
    · split
      · exact .inl rfl
      · exact prov_or pv n b r _
theorem std_or : ∀ (f n b : Nat), provStd f n b = 0 ∨ provStd f n b = n
  | 0, _, _ => .inl rfl
  | f + 1, n, b => prov_or _ n b _ _
abbrev pvF (f : Nat) (p : Nat × Nat) : Nat := provStd f p.1 p.2
/-- what holds at the loop's turns: the words left to be read, and what is left of the number below -/
def PvP (f n b T : Nat) (ps : List (Nat × Nat)) (x : Str) (left : Int) : Prop :=
  ∃ (l : Nat) (post : List (Nat × Nat)), left = (l : Int) ∧ 1 ≤ l ∧ l ≤ 64 ∧ cods x = tailL f post ∧ (∀ p ∈ post, p ∈ ps) ∧ provGo (pvF f) n b l post = T ∧ x.length ≤ 1048576
theorem pv_start {f n b : Nat} {ps : List (Nat × Nat)} {x : Str} (hn : 2 ≤ n ∧ n ≤ 64) (h : cods x = tailL f ps) (hx : x.length ≤ 1048576) : PvP f n b (provGo (pvF f) n b (n - 1) ps) ps x ((n - 1 : Nat) : Int) :=
  ⟨n - 1, ps, rfl, by omega, by omega, h, fun p hp => hp, rfl, hx⟩
theorem pv_len {f n b T : Nat} {ps : List (Nat × Nat)} {x : Str} {left : Int} (h : PvP f n b T ps x left) : x.length ≤ 1048576 := by
  obtain ⟨l, post, h1, h2, h3, h4, h5, h6, h7⟩ := h
  exact h7
theorem pv_end {f n b T : Nat} {ps : List (Nat × Nat)} {x : Str} {left : Int} (h : PvP f n b T ps x left) (hx : x.length = 0) : ∃ l : Nat, left = (l : Int) ∧ T = if l = 1 ∧ b ^ (n - 1) % n = 1 then n else 0 := by
  obtain ⟨l, post, h1, h2, h3, h4, h5, h6, h7⟩ := h
  have e : post = [] := by
    cases post with
    | nil => rfl
    | cons p r =>
      have := congrArg List.length h4
      rw [cods_length, hx] at this
      simp [tailL, quoteL] at this
  subst e
  exact ⟨l, h1, h6.symm⟩
theorem tail_cons (f : Nat) (p : Nat × Nat) (r : List (Nat × Nat)) : tailL f (p :: r) = quoteL (stdL f p.1 p.2) ++ tailL f r := rfl
theorem tail_head (f : Nat) (r : List (Nat × Nat)) : (tailL f r).head? ≠ some 34 := by
  cases r with
  | nil => simp [tailL]
  | cons p r => rw [tail_cons]; simp [quoteL]
theorem chr257 : (Str.ofString "257" : Str) = ⟨#[50, 53, 55]⟩ ∧ (Str.ofString " \"" : Str) = ⟨#[32, 34]⟩ := by decide +kernel
structure PvT (f n b T : Nat) (ps : List (Nat × Nat)) (x : Str) (l : Nat) (p : Nat × Nat) (r : List (Nat × Nat)) : Prop where
  l1 : 1 ≤ l
  l2 : l ≤ 64
  hp : p ∈ ps
  hr : ∀ q ∈ r, q ∈ ps
  go : provGo (pvF f) n b l (p :: r) = T
  hx : x.length ≤ 1048576
  w0 : 5 ≤ x.length
  w1 : Txt.slice x none (some 3) = Str.ofString "257"
  w2 : Txt.slice x (some 3) (some 5) = Str.ofString " \""
  w3 : unqF ((cods x).drop 5) = stdL f p.1 p.2
  w4 : ∀ y, cods y = stdL f p.1 p.2 → cods (Txt.slice x (some (6 + (y.length : Int) + Txt.count y (Str.ofString "\""))) none) = tailL f r ∧ (0 ≤ 6 + (y.length : Int) + Txt.count y (Str.ofString "\"") ∧ 6 + (y.length : Int) + Txt.count y (Str.ofString "\"") ≤ x.length)
  w5 : ∀ y, cods y = tailL f r → y.length < x.length
theorem pv_open {f n b T : Nat} {ps : List (Nat × Nat)} {x : Str} {left : Int} (h : PvP f n b T ps x left) (hx : x.length ≠ 0) : ∃ (l : Nat) (p : Nat × Nat) (r : List (Nat × Nat)), left = (l : Int) ∧ PvT f n b T ps x l p r := by
  obtain ⟨l, post, h1, h2, h3, h4, h5, h6, h7⟩ := h
  cases post with
  | nil =>
    have := congrArg List.length h4
    rw [cods_length] at this
    exact absurd this hx
  | cons p r =>
    rw [tail_cons] at h4
    have hq : quoteL (stdL f p.1 p.2) ++ tailL f r = 50 :: 53 :: 55 :: 32 :: 34 :: (StrLaws.dbl 34 (stdL f p.1 p.2) ++ 34 :: tailL f r) := by unfold quoteL; simp
    have hlen : x.length = 5 + ((StrLaws.dbl 34 (stdL f p.1 p.2)).length + (1 + (tailL f r).length)) := by
      rw [← cods_length, h4, hq]
      simp only [List.length_cons, List.length_append]
      omega
    refine ⟨l, p, r, h1, h2, h3, h5 p (.head _), fun q hq => h5 q (.tail _ hq), h6, h7, by omega, ?_, ?_, ?_, fun y hy => ?_, fun y hy => by rw [← cods_length y, hy, hlen]; omega⟩
    · rw [chr257.1]
      refine str_is ?_
      rw [slice_to (by omega), h4, hq]
      rfl
    · rw [chr257.2]
      refine str_is ?_
      rw [slice_mid (by omega), h4, hq]
      rfl
    · rw [h4, hq]
      exact unq_dbl _ _ (tail_head f r)
    · have hc : Txt.count y (Str.ofString "\"") = (((StrLaws.dbl 34 (stdL f p.1 p.2)).length : Nat) : Int) - ((y.length : Nat) : Int) := by
        rw [quote2.1, count_dbl, hy, ← cods_length y, hy]
      have hk : (6 + (y.length : Int) + Txt.count y (Str.ofString "\"")).toNat = 5 + ((StrLaws.dbl 34 (stdL f p.1 p.2)).length + 1) := by rw [hc]; omega
      refine ⟨?_, by rw [hc]; omega, by rw [hc]; omega⟩
      rw [slice_from (by rw [hc]; omega), hk, h4, hq]
      show List.drop (5 + _) ([50, 53, 55, 32, 34] ++ (StrLaws.dbl 34 (stdL f p.1 p.2) ++ 34 :: tailL f r)) = _
      rw [← List.drop_drop, show List.drop 5 ([50, 53, 55, 32, 34] ++ (StrLaws.dbl 34 (stdL f p.1 p.2) ++ 34 :: tailL f r)) = StrLaws.dbl 34 (stdL f p.1 p.2) ++ 34 :: tailL f r from rfl, ← List.drop_drop, List.drop_left]
      rfl
theorem pv_ret0 {f n b T l : Nat} {ps r : List (Nat × Nat)} {p : Nat × Nat} {x : Str} (h : PvT f n b T ps x l p r) (hz : pvF f p = 0) : T = 0 := by
  rw [← h.go]; unfold provGo; rw [if_pos hz]
theorem pv_ret1 {f n b T l : Nat} {ps r : List (Nat × Nat)} {p : Nat × Nat} {x : Str} (h : PvT f n b T ps x l p r) (hz : (n - 1) % pvF f p ≠ 0) : T = 0 := by
  rw [← h.go]; unfold provGo
  split
  · rfl
  · rw [if_pos (.inl hz)]
theorem pv_ret2 {f n b T l : Nat} {ps r : List (Nat × Nat)} {p : Nat × Nat} {x : Str} (h : PvT f n b T ps x l p r) (hz : b ^ ((n - 1) / pvF f p) % n = 1) : T = 0 := by
  rw [← h.go]; unfold provGo
  split
  · rfl
  · rw [if_pos (.inr hz)]
theorem natne {a : Nat} (h : (a : Int) ≠ 0) : a ≠ 0 := by omega
theorem natz {a : Nat} (h : (a : Int) = 0) : a = 0 := by omega
theorem nat1 {a : Nat} (h : (a : Int) = 1) : a = 1 := by omega
theorem nat1n {a : Nat} (h : (a : Int) ≠ 1) : a ≠ 1 := by omega
/-- the inner while -/
def PwW (S q : Nat) (left share rest : Int) : Prop := ∃ l : Nat, left = (l : Int) ∧ 1 ≤ l ∧ l ≤ 64 ∧ share = ((l / q : Nat) : Int) ∧ rest = ((l % q : Nat) : Int) ∧ stripN l l q = S
theorem pw_begin {q l : Nat} (h1 : 1 ≤ l) (h2 : l ≤ 64) : PwW (stripN l l q) q (l : Int) ((l / q : Nat) : Int) ((l % q : Nat) : Int) := ⟨l, rfl, h1, h2, rfl, rfl, rfl⟩
theorem pw_next {S q : Nat} {left share rest : Int} (hq : 2 ≤ q) (h : PwW S q left share rest) (hz : rest = 0) : ∃ l' : Nat, share = (l' : Int) ∧ 1 ≤ l' ∧ l' ≤ 64 ∧ l' < left.toNat ∧ stripN l' l' q = S := by
  obtain ⟨l, h1, h2, h3, h4, h5, h6⟩ := h
  obtain ⟨a1, a2, a3⟩ := strip_step (p := q) hq h2 (by omega)
  exact ⟨l / q, h4, a1, by omega, by omega, a3 ▸ h6⟩
theorem pw_done {f n b T l S : Nat} {ps r : List (Nat × Nat)} {p : Nat × Nat} {x y : Str} {left share rest : Int} (h : PvT f n b T ps x l p r) (hp0 : pvF f p ≠ 0) (hm : (n - 1) % pvF f p = 0) (hw : b ^ ((n - 1) / pvF f p) % n ≠ 1)
    (hW : PwW S (pvF f p) left share rest) (hS : S = stripN l l (pvF f p)) (hz : rest ≠ 0) (hy : cods y = tailL f r) (hyl : y.length ≤ x.length) : PvP f n b T ps y left := by
  obtain ⟨l', h1, h2, h3, h4, h5, h6⟩ := hW
  rw [strip_stop h2 (by omega)] at h6
  subst h6
  have hx := h.hx
  refine ⟨l', r, h1, h2, h3, hy, h.hr, ?_, by omega⟩
  have g := h.go
  unfold provGo at g
  rw [if_neg hp0, if_neg (by rw [hm]; simp [hw]), ← hS] at g
  exact g
end Mine
end
-- FA
theorem Mine.atFA : True ∧ True := by
  w_top off
  k_with_none
  first | (walk1; fail) | exact ⟨trivial, trivial⟩
section
open PySem PySem.W PySem.Spec PySem.Calls PyProof.Rows
set_option maxRecDepth 100000
set_option maxHeartbeats 4000000
namespace Mine
def rootTab (q : Nat) : Nat := match q with
  | 2 => 1 | 3 => 2 | 5 => 2 | 7 => 3 | 11 => 2 | 13 => 2 | 17 => 3 | 19 => 2 | 23 => 5 | 29 => 2 | 31 => 3 | 37 => 2 | 41 => 6 | 43 => 3 | 47 => 5 | 53 => 2 | 59 => 2 | 61 => 2 | _ => 0
theorem rootTab_ok : ∀ q ∈ PL, (rootF q).toNat = rootTab q.toNat := by decide +kernel
def partsT (n : Nat) : List (Nat × Nat) := (primesF ((n : Int) - 1)).map fun p => (p.toNat, rootTab p.toNat)
theorem parts_tab {n : Nat} (h : n < 65) : partsF n = partsT n := by
  unfold partsF partsT
  refine List.map_congr_left fun q hq => ?_
  rw [rootTab_ok q (primes_PL n h q hq)]
def provT : Nat → Nat → Nat → Nat
  | 0, _, _ => 0
  | f + 1, n, b => provGo (fun p => provT f p.1 p.2) n b (n - 1) (partsT n)
theorem provGo_congr {pv pv' : Nat × Nat → Nat} {n b : Nat} : ∀ (ps : List (Nat × Nat)) (l : Nat), (∀ p ∈ ps, pv p = pv' p) → provGo pv n b l ps = provGo pv' n b l ps
  | [], _, _ => rfl
  | p :: r, l, h => by
    unfold provGo
    rw [h p (.head _), provGo_congr r _ fun q hq => h q (.tail _ hq)]
theorem PL_lt : ∀ q ∈ PL, q.toNat < 65 := by decide
theorem prov_tab : ∀ (f n b : Nat), n < 65 → provStd f n b = provT f n b
  | 0, _, _, _ => rfl
  | f + 1, n, b, h => by
    show provGo (fun p => provStd f p.1 p.2) n b (n - 1) (partsF n) = provGo (fun p => provT f p.1 p.2) n b (n - 1) (partsT n)
    rw [parts_tab h]
    refine provGo_congr _ _ fun p hp => ?_
    unfold partsT at hp
    obtain ⟨q, hq, rfl⟩ := List.mem_map.mp hp
    exact prov_tab f _ _ (PL_lt q (primes_PL n h q hq))
def AL : List Nat := [2, 3, 5, 7, 11, 13, 17, 19, 4, 6, 10, 14, 22, 26, 34, 38]
end Mine
end
-- FB
theorem Mine.atFB : True ∧ True := by
  w_top off
  k_with_none
  first | (walk1; fail) | exact ⟨trivial, trivial⟩
section
open PySem PySem.W PySem.Spec PySem.Calls PyProof.Rows
set_option maxRecDepth 100000
set_option maxHeartbeats 8000000
namespace Mine
def lucB (n b : Nat) : Bool := decide (b ^ (n - 1) % n = 1) && (primesF ((n : Int) - 1)).all fun q => decide (b ^ ((n - 1) / q.toNat) % n ≠ 1)
theorem fa_2 : ∀ r < 2, 1 ≤ r → provT 7 2 r = if goesF 2 r = true then 2 else 0 := by decide +kernel
theorem fa_3 : ∀ r < 3, 1 ≤ r → provT 7 3 r = if goesF 3 r = true then 3 else 0 := by decide +kernel
theorem fa_5 : ∀ r < 5, 1 ≤ r → provT 7 5 r = if goesF 5 r = true then 5 else 0 := by decide +kernel
theorem fa_7 : ∀ r < 7, 1 ≤ r → provT 7 7 r = if goesF 7 r = true then 7 else 0 := by decide +kernel
theorem fa_11 : ∀ r < 11, 1 ≤ r → provT 7 11 r = if goesF 11 r = true then 11 else 0 := by decide +kernel
theorem fa_13 : ∀ r < 13, 1 ≤ r → provT 7 13 r = if goesF 13 r = true then 13 else 0 := by decide +kernel
theorem fa_17 : ∀ r < 17, 1 ≤ r → provT 7 17 r = if goesF 17 r = true then 17 else 0 := by decide +kernel
theorem fa_19 : ∀ r < 19, 1 ≤ r → provT 7 19 r = if goesF 19 r = true then 19 else 0 := by decide +kernel
theorem fa_4 : ∀ r < 4, 1 ≤ r → provT 7 4 r = if goesF 4 r = true then 4 else 0 := by decide +kernel
theorem fa_6 : ∀ r < 6, 1 ≤ r → provT 7 6 r = if goesF 6 r = true then 6 else 0 := by decide +kernel
theorem fa_10 : ∀ r < 10, 1 ≤ r → provT 7 10 r = if goesF 10 r = true then 10 else 0 := by decide +kernel
theorem fa_14 : ∀ r < 14, 1 ≤ r → provT 7 14 r = if goesF 14 r = true then 14 else 0 := by decide +kernel
theorem fa_22 : ∀ r < 22, 1 ≤ r → provT 7 22 r = if goesF 22 r = true then 22 else 0 := by decide +kernel
theorem fa_26 : ∀ r < 26, 1 ≤ r → provT 7 26 r = if goesF 26 r = true then 26 else 0 := by decide +kernel
theorem fa_34 : ∀ r < 34, 1 ≤ r → provT 7 34 r = if goesF 34 r = true then 34 else 0 := by decide +kernel
theorem fa_38 : ∀ r < 38, 1 ≤ r → provT 7 38 r = if goesF 38 r = true then 38 else 0 := by decide +kernel
theorem fb_3 : ∀ b : Nat, b < 3 → 1 ≤ b → goesF 3 (b : Int) = lucB 3 b := by decide +kernel
theorem fb_5 : ∀ b : Nat, b < 5 → 1 ≤ b → goesF 5 (b : Int) = lucB 5 b := by decide +kernel
theorem fb_7 : ∀ b : Nat, b < 7 → 1 ≤ b → goesF 7 (b : Int) = lucB 7 b := by decide +kernel
theorem fb_9 : ∀ b : Nat, b < 9 → 1 ≤ b → goesF 9 (b : Int) = lucB 9 b := by decide +kernel
theorem fb_11 : ∀ b : Nat, b < 11 → 1 ≤ b → goesF 11 (b : Int) = lucB 11 b := by decide +kernel
theorem fb_13 : ∀ b : Nat, b < 13 → 1 ≤ b → goesF 13 (b : Int) = lucB 13 b := by decide +kernel
theorem fb_15 : ∀ b : Nat, b < 15 → 1 ≤ b → goesF 15 (b : Int) = lucB 15 b := by decide +kernel
theorem fb_17 : ∀ b : Nat, b < 17 → 1 ≤ b → goesF 17 (b : Int) = lucB 17 b := by decide +kernel
theorem fb_19 : ∀ b : Nat, b < 19 → 1 ≤ b → goesF 19 (b : Int) = lucB 19 b := by decide +kernel
theorem fb_21 : ∀ b : Nat, b < 21 → 1 ≤ b → goesF 21 (b : Int) = lucB 21 b := by decide +kernel
theorem fb_23 : ∀ b : Nat, b < 23 → 1 ≤ b → goesF 23 (b : Int) = lucB 23 b := by decide +kernel
theorem fb_25 : ∀ b : Nat, b < 25 → 1 ≤ b → goesF 25 (b : Int) = lucB 25 b := by decide +kernel
theorem fb_27 : ∀ b : Nat, b < 27 → 1 ≤ b → goesF 27 (b : Int) = lucB 27 b := by decide +kernel
theorem fb_29 : ∀ b : Nat, b < 29 → 1 ≤ b → goesF 29 (b : Int) = lucB 29 b := by decide +kernel
theorem fb_31 : ∀ b : Nat, b < 31 → 1 ≤ b → goesF 31 (b : Int) = lucB 31 b := by decide +kernel
theorem fb_33 : ∀ b : Nat, b < 33 → 1 ≤ b → goesF 33 (b : Int) = lucB 33 b := by decide +kernel
theorem fb_35 : ∀ b : Nat, b < 35 → 1 ≤ b → goesF 35 (b : Int) = lucB 35 b := by decide +kernel
theorem fb_37 : ∀ b : Nat, b < 37 → 1 ≤ b → goesF 37 (b : Int) = lucB 37 b := by decide +kernel
theorem fb_39 : ∀ b : Nat, b < 39 → 1 ≤ b → goesF 39 (b : Int) = lucB 39 b := by decide +kernel
theorem fb_41 : ∀ b : Nat, b < 41 → 1 ≤ b → goesF 41 (b : Int) = lucB 41 b := by decide +kernel
theorem fb_43 : ∀ b : Nat, b < 43 → 1 ≤ b → goesF 43 (b : Int) = lucB 43 b := by decide +kernel
theorem fa_all {p r : Nat} (h : p ∈ AL) (h1 : 1 ≤ r) (h2 : r < p) : provT 7 p r = if goesF p r = true then p else 0 := by
  unfold AL at h
  simp only [List.mem_cons, List.not_mem_nil, or_false] at h
  rcases h with rfl | rfl | rfl | rfl | rfl | rfl | rfl | rfl | rfl | rfl | rfl | rfl | rfl | rfl | rfl | rfl
  · exact fa_2 r h2 h1
  · exact fa_3 r h2 h1
  · exact fa_5 r h2 h1
  · exact fa_7 r h2 h1
  · exact fa_11 r h2 h1
  · exact fa_13 r h2 h1
  · exact fa_17 r h2 h1
  · exact fa_19 r h2 h1
  · exact fa_4 r h2 h1
  · exact fa_6 r h2 h1
  · exact fa_10 r h2 h1
  · exact fa_14 r h2 h1
  · exact fa_22 r h2 h1
  · exact fa_26 r h2 h1
  · exact fa_34 r h2 h1
  · exact fa_38 r h2 h1
theorem fb_all {k b : Nat} (hk : k < 21) (h1 : 1 ≤ b) (h2 : b < 3 + 2 * k) : goesF ((3 + 2 * k : Nat) : Int) b = lucB (3 + 2 * k) b := by
  rcases (show k = 0 ∨ k = 1 ∨ k = 2 ∨ k = 3 ∨ k = 4 ∨ k = 5 ∨ k = 6 ∨ k = 7 ∨ k = 8 ∨ k = 9 ∨ k = 10 ∨ k = 11 ∨ k = 12 ∨ k = 13 ∨ k = 14 ∨ k = 15 ∨ k = 16 ∨ k = 17 ∨ k = 18 ∨ k = 19 ∨ k = 20 by omega) with rfl | rfl | rfl | rfl | rfl | rfl | rfl | rfl | rfl | rfl | rfl | rfl | rfl | rfl | rfl | rfl | rfl | rfl | rfl | rfl | rfl
  · exact fb_3 b h2 h1
  · exact fb_5 b h2 h1
  · exact fb_7 b h2 h1
  · exact fb_9 b h2 h1
  · exact fb_11 b h2 h1
  · exact fb_13 b h2 h1
  · exact fb_15 b h2 h1
  · exact fb_17 b h2 h1
  · exact fb_19 b h2 h1
  · exact fb_21 b h2 h1
  · exact fb_23 b h2 h1
  · exact fb_25 b h2 h1
  · exact fb_27 b h2 h1
  · exact fb_29 b h2 h1
  · exact fb_31 b h2 h1
  · exact fb_33 b h2 h1
  · exact fb_35 b h2 h1
  · exact fb_37 b h2 h1
  · exact fb_39 b h2 h1
  · exact fb_41 b h2 h1
  · exact fb_43 b h2 h1
end Mine
end
-- FC
theorem Mine.atFC : True ∧ True := by
  w_top off
  k_with_none
  first | (walk1; fail) | exact ⟨trivial, trivial⟩
section
open PySem PySem.W PySem.Spec PySem.Calls PyProof.Rows
set_option maxRecDepth 100000
namespace Mine
def provTop (n b : Nat) (ps : List (Nat × Nat)) : Nat := provGo (pvF 7) n b (n - 1) ps
theorem gcd_PL : ∀ q ∈ PL, ∀ p < 64, 1 ≤ p → p % q.toNat ≠ 0 → Nat.gcd q.toNat p = 1 := by decide +kernel
theorem div_PL : ∀ q ∈ PL, ∀ p ∈ PL, p.toNat % q.toNat = 0 → q = p := by decide +kernel
theorem mem_PL : ∀ n < 62, 2 ≤ n → ∀ p ∈ PL, (n - 1) % p.toNat = 0 → p ∈ primesF (((n : Nat) : Int) - 1) := by decide +kernel
theorem dvd_PL : ∀ n < 62, 2 ≤ n → ∀ q ∈ primesF (((n : Nat) : Int) - 1), (n - 1) % q.toNat = 0 := by decide +kernel
theorem PL_ge : ∀ q ∈ PL, 2 ≤ q.toNat := by decide
theorem strip_pos {p : Nat} (hp : 2 ≤ p) : ∀ (f l : Nat), 1 ≤ l → 1 ≤ stripN f l p
  | 0, l, h => h
  | f + 1, l, h => by
    unfold stripN
    split
    · rename_i hz
      exact strip_pos hp f _ (strip_step hp h hz).1
    · exact h
theorem strip_keeps {q p : Nat} (h : Nat.gcd q p = 1) : ∀ (f l : Nat), l % q = 0 → stripN f l p % q = 0
  | 0, l, hl => hl
  | f + 1, l, hl => by
    unfold stripN
    split
    · rename_i hp
      refine strip_keeps h f _ ?_
      have e := Nat.div_add_mod l p
      rw [hp, Nat.add_zero] at e
      have hd : q ∣ p * (l / p) := by rw [e]; exact Nat.dvd_of_mod_eq_zero hl
      exact Nat.mod_eq_zero_of_dvd (Nat.Coprime.dvd_of_dvd_mul_left h hd)
    · exact hl
theorem meant_zero {n b : Nat} (h : goesF n b = false) : ∀ (ps : List (Nat × Nat)) (l : Nat), meantGo n b l ps = 0
  | [], l => by unfold meantGo; rw [if_neg (by rw [h]; simp)]
  | p :: r, l => by
    unfold meantGo
    split
    · rfl
    · exact meant_zero h r _
theorem go_eq {n b : Nat} (hn : 2 ≤ n ∧ n < 62) (hB : goesF n b = lucB n b) : ∀ (ps : List (Nat × Nat)) (l : Nat),
    (∀ p ∈ ps, (2 ≤ p.1 ∧ p.1 < 64) ∧ (((p.1 : Nat) : Int) ∈ PL ∨ goesF p.1 p.2 = false) ∧ pvF 7 p = if goesF p.1 p.2 = true then p.1 else 0) →
    (∀ q ∈ primesF ((n : Int) - 1), l % q.toNat = 0 ∨ b ^ ((n - 1) / q.toNat) % n ≠ 1) → 1 ≤ l →
    provGo (pvF 7) n b l ps = meantGo n b l ps
  | [], l, _, hq, hl => by
    unfold provGo meantGo
    by_cases h1 : l = 1
    · subst h1
      have e : goesF n b = decide (b ^ (n - 1) % n = 1) := by
        rw [hB]
        unfold lucB
        rw [show ((primesF ((n : Int) - 1)).all fun q => decide (b ^ ((n - 1) / q.toNat) % n ≠ 1)) = true by
          rw [List.all_eq_true]
          intro q hqm
          rw [decide_eq_true_eq]
          rcases hq q hqm with h | h
          · have := PL_ge q (primes_PL n (by omega) q hqm)
            rw [Nat.mod_eq_of_lt (by omega)] at h
            omega
          · exact h, Bool.and_true]
      rw [e]
      by_cases h2 : b ^ (n - 1) % n = 1
      · rw [if_pos ⟨rfl, h2⟩, if_pos ⟨rfl, by rw [h2]; rfl⟩]
      · rw [if_neg (fun q => h2 q.2), if_neg (fun q => h2 (by simpa using q.2))]
    · rw [if_neg (fun q => h1 q.1), if_neg (fun q => h1 q.1)]
  | p :: r, l, hp, hq, hl => by
    obtain ⟨⟨p1, p2⟩, p3, p4⟩ := hp p (.head _)
    unfold provGo meantGo
    rw [p4]
    cases hg : goesF p.1 p.2 with
    | false =>
      rw [if_neg Bool.false_ne_true, if_pos rfl, if_pos (.inr rfl)]
    | true =>
      rw [if_pos rfl, if_neg (show ¬ p.1 = 0 by omega)]
      have hPL : ((p.1 : Nat) : Int) ∈ PL := by
        rcases p3 with h | h
        · exact h
        · rw [hg] at h; cases h
      by_cases hd : (n - 1) % p.1 = 0
      · by_cases hw : b ^ ((n - 1) / p.1) % n = 1
        · rw [if_pos (.inr hw)]
          have hm := mem_PL n hn.2 hn.1 _ hPL (by rw [Int.toNat_natCast]; exact hd)
          have hz : goesF n b = false := by
            rw [hB]
            unfold lucB
            rw [Bool.and_eq_false_iff]
            right
            rw [List.all_eq_false]
            exact ⟨_, hm, by rw [Int.toNat_natCast]; simp [hw]⟩
          rw [if_neg (by simp [hd]), meant_zero hz]
        · rw [if_neg (by simp [hd, hw]), if_neg (by simp [hd])]
          have hs1 : 1 ≤ stripN l l p.1 := strip_pos (show 2 ≤ p.1 by omega) l l hl
          refine go_eq hn hB r _ (fun z hz => hp z (.tail _ hz)) (fun q hqm => ?_) hs1
          rcases hq q hqm with h | h
          · by_cases hqp : p.1 % q.toNat = 0
            · right
              have hqP := primes_PL n (by omega) q hqm
              have e := div_PL q hqP _ hPL (by rw [Int.toNat_natCast]; exact hqp)
              rw [e, Int.toNat_natCast]
              exact hw
            · left
              have hqP := primes_PL n (by omega) q hqm
              exact strip_keeps (gcd_PL q hqP p.1 p2 (by omega) hqp) l l h
          · exact .inr h
      · rw [if_pos (.inl hd), if_pos (.inl hd)]
end Mine
end
-- PZ
theorem Mine.atPZ : True ∧ True := by
  w_top off
  k_with_none
  first | (walk1; fail) | exact ⟨trivial, trivial⟩
section
open PySem PySem.W PySem.Spec PySem.Calls PyProof.Rows
set_option maxRecDepth 100000
namespace Mine
theorem zeros_foldl (v : Value) : ∀ (k : Nat) (a : Array Value), List.foldl (fun x1 x2 => x1 ++ x2) a (List.replicate k #[v]) = a ++ (List.replicate k v).toArray
  | 0, a => by simp
  | k + 1, a => by
    rw [List.replicate_succ, List.foldl_cons, zeros_foldl v k, List.replicate_succ]
    apply Array.toList_inj.mp
    simp
theorem mul_zeros {prog : Program} {w : World} {A : Around} {E : Value → Shared → Prop} {s : Shared} {h₀ : Heap} {L : Addr} {m : Str → Option Value} {news : List (Addr × Obj)}
    {l : Addr} {v : Value} {k : Nat} {x : Int} {u : Tok} {Q : Value → Shared → Prop}
    (F : Fr h₀ L s.heap m) (N : News h₀ L s.heap news) (hl : (l, listOf #[v] k) ∈ news) (h0 : 0 ≤ x ∧ x ≤ 1000)
    (h : ∀ D h', Fr h₀ L h' m → News h₀ L h' ((D, listOf (List.replicate x.toNat v).toArray 0) :: news) → (∀ p ∈ news, p.1 < D) → Q (.ref D) { s with heap := h' }) :
    wpAny (model prog w) A (binaryOp .Mult (.ref l) (.int x u)) Q E s := by
  refine mul_list F N (N _ hl).1 (by omega) (by omega) ?_ (fun h' F' N' => ?_)
  · show 1 * x.toNat ≤ 2 ^ 24
    omega
  · refine h _ h' F' ?_ (fun p hp => Heap.lt_size (N p hp).1)
    have e : List.foldl (fun x1 x2 => x1 ++ x2) #[] (List.replicate (if (#[v] : Array Value).isEmpty = true then 0 else x.toNat) #[v]) = (List.replicate x.toNat v).toArray := by
      rw [if_neg (by simp), zeros_foldl]
      simp
    rw [e] at N'
    exact N'
/-- an entry of the ledger by a name of its own -/
theorem with_obj {g h : Heap} {L f : Addr} {O' : Obj} {r : List (Addr × Obj)} {P : Prop} (N : News g L h ((f, O') :: r)) (k : ∀ O, O = O' → News g L h ((f, O) :: r) → P) : P := k _ rfl N
end Mine
end
-- PB
theorem Mine.atPB : True ∧ True := by
  w_top off
  k_with_none
  first | (walk1; fail) | exact ⟨trivial, trivial⟩
section
open PySem PySem.W PySem.Spec PySem.Calls PyProof.Rows
set_option maxRecDepth 100000
namespace Mine
section
variable {prog : Program} {w : World} {A : Around} {E : Value → Shared → Prop} {s : Shared} {t u : Tok} {Q : Value → Shared → Prop}
theorem fdiv_pow (v k : Nat) : ((v : Int)).fdiv (2 ^ k) = ((v / 2 ^ k : Nat) : Int) := by
  rw [Int.fdiv_eq_ediv_of_nonneg _ (Int.le_of_lt (Int.pow_pos (by decide)))]
  norm_cast
theorem nb_mid {p q : Nat} (h : Q (.int (((p + q) / 2 : Nat) : Int) s.toks) { s with toks := s.toks + 1 }) : wpAny (model prog w) A (binaryOp .RShift (.int ((p : Int) + (q : Int)) t) (.int 1 u)) Q E s := by
  refine rshift_int (by decide) ?_
  have e : ((p : Int) + (q : Int)).fdiv (2 ^ (1 : Int).toNat) = (((p + q) / 2 : Nat) : Int) := by
    have := fdiv_pow (p + q) 1
    rw [← Int.natCast_add]
    simpa using this
  rw [e]; exact h
theorem nb_sub {p c : Nat} (hp : p ≤ c) (h : Q (.int ((c - p : Nat) : Int) s.toks) { s with toks := s.toks + 1 }) : wpAny (model prog w) A (binaryOp .Sub (.int (c : Int) t) (.int (p : Int) u)) Q E s := by
  refine sub_int ?_
  rw [← Int.natCast_sub hp]; exact h
theorem nb_mul {p c : Nat} (hp : p < 4096) (hc : c < 4096) (h : Q (.int ((p * c : Nat) : Int) s.toks) { s with toks := s.toks + 1 }) : wpAny (model prog w) A (binaryOp .Mult (.int (p : Int) t) (.int (c : Int) u)) Q E s := by
  refine mul_int ?_ (IntMulOk.of_left (Nat.le_trans (intBits_small (by omega) (by omega)) (by decide)))
  rw [← Int.natCast_mul]; exact h
theorem nb_rsh {v k : Nat} (h : Q (.int ((v / 2 ^ k : Nat) : Int) s.toks) { s with toks := s.toks + 1 }) : wpAny (model prog w) A (binaryOp .RShift (.int (v : Int) t) (.int (k : Int) u)) Q E s := by
  refine rshift_int (by omega) ?_
  rw [Int.toNat_natCast, fdiv_pow]; exact h
theorem nb_lsh {v k : Nat} (hv : v < 2 ^ 64) (hk : k ≤ 1000000) (h : Q (.int ((v * 2 ^ k : Nat) : Int) s.toks) { s with toks := s.toks + 1 }) : wpAny (model prog w) A (binaryOp .LShift (.int (v : Int) t) (.int (k : Int) u)) Q E s := by
  refine lshift_int_small (by omega) (by omega) (by omega) ?_
  have e : (v : Int) * 2 ^ ((k : Int)).toNat = ((v * 2 ^ k : Nat) : Int) := by
    rw [Int.toNat_natCast]; norm_cast
  rw [e]; exact h
theorem and_high (v k : Nat) : v &&& (v / 2 ^ k * 2 ^ k) = v / 2 ^ k * 2 ^ k := by
  apply Nat.eq_of_testBit_eq
  intro i
  rw [Nat.testBit_and, Nat.testBit_mul_two_pow, Nat.testBit_div_two_pow]
  by_cases h : k ≤ i
  · have : i - k + k = i := by omega
    simp [h, this]
  · simp [h]
theorem nb_xor {v k : Nat} (h : Q (.int ((v % 2 ^ k : Nat) : Int) s.toks) { s with toks := s.toks + 1 }) : wpAny (model prog w) A (binaryOp .BitXor (.int (v : Int) t) (.int ((v / 2 ^ k * 2 ^ k : Nat) : Int) u)) Q E s := by
  refine xor_int ?_
  have e : Builtin.bitXor (v : Int) ((v / 2 ^ k * 2 ^ k : Nat) : Int) = ((v % 2 ^ k : Nat) : Int) := by
    have ea : Builtin.bitAnd (v : Int) ((v / 2 ^ k * 2 ^ k : Nat) : Int) = ((v &&& (v / 2 ^ k * 2 ^ k) : Nat) : Int) := by
      unfold Builtin.bitAnd
      rw [decide_eq_true (Int.natCast_nonneg v), decide_eq_true (Int.natCast_nonneg (v / 2 ^ k * 2 ^ k))]
      rfl
    rw [bitXor_and, ea, and_high]
    have := Nat.div_add_mod v (2 ^ k)
    rw [Nat.mul_comm] at this
    omega
  rw [e]; exact h
end
end Mine
end
-- DG
theorem Mine.atDG : True ∧ True := by
  w_top off
  k_with_none
  first | (walk1; fail) | exact ⟨trivial, trivial⟩
section
open PySem PySem.W PySem.Spec PySem.Calls PyProof.Rows
set_option maxRecDepth 100000
namespace Mine
/-- the digits of v, len of them, by n bits each, the least first -/
def digs (n : Nat) : Nat → Nat → Nat → List Int
  | 0, _, v => [(v : Int)]
  | f + 1, len, v => if len ≤ 1 then [(v : Int)] else digs n f (len / 2) (v % 2 ^ (len / 2 * n)) ++ digs n f (len - len / 2) (v / 2 ^ (len / 2 * n))
theorem digs_length (n : Nat) : ∀ (f len v : Nat), 1 ≤ len → len ≤ f + 1 → (digs n f len v).length = len
  | 0, len, v, h1, h2 => by
    have : len = 1 := by omega
    subst this; rfl
  | f + 1, len, v, h1, h2 => by
    unfold digs
    split
    · have : len = 1 := by omega
      subst this; rfl
    · rw [List.length_append, digs_length n f _ _ (by omega) (by omega), digs_length n f _ _ (by omega) (by omega)]; omega
theorem digs_split {n f p q v : Nat} (h : p + 2 ≤ q) (hf : 1 ≤ f) : digs n f (q - p) v = digs n (f - 1) ((p + q) / 2 - p) (v % 2 ^ (((p + q) / 2 - p) * n)) ++ digs n (f - 1) (q - (p + q) / 2) (v / 2 ^ (((p + q) / 2 - p) * n)) := by
  obtain ⟨f, rfl⟩ : ∃ g, f = g + 1 := ⟨f - 1, by omega⟩
  conv => lhs; unfold digs
  rw [if_neg (by omega), show (q - p) / 2 = (p + q) / 2 - p by omega, show q - p - ((p + q) / 2 - p) = q - (p + q) / 2 by omega]
  rfl
theorem digs_one (n : Nat) : ∀ (f v : Nat), digs n f 1 v = [(v : Int)]
  | 0, _ => rfl
  | _ + 1, _ => by unfold digs; rfl
/-- k digits of v by n bits each, the least first -/
def lsb (n : Nat) : Nat → Nat → List Int
  | 0, _ => []
  | k + 1, v => ((v % 2 ^ n : Nat) : Int) :: lsb n k (v / 2 ^ n)
theorem lsb_length (n : Nat) : ∀ k v, (lsb n k v).length = k
  | 0, _ => rfl
  | k + 1, v => by rw [lsb, List.length_cons, lsb_length n k]
theorem lsb_append (n : Nat) : ∀ (p q v : Nat), lsb n (p + q) v = lsb n p (v % 2 ^ (p * n)) ++ lsb n q (v / 2 ^ (p * n))
  | 0, q, v => by simp [lsb]
  | p + 1, q, v => by
    have e1 : (p + 1) * n = n + p * n := by rw [Nat.succ_mul, Nat.add_comm]
    have e2 : v % 2 ^ (n + p * n) / 2 ^ n = v / 2 ^ n % 2 ^ (p * n) := by rw [Nat.pow_add, Nat.mod_mul_right_div_self]
    have e3 : v % 2 ^ (n + p * n) % 2 ^ n = v % 2 ^ n := by rw [Nat.pow_add, Nat.mod_mul_right_mod]
    rw [show p + 1 + q = (p + q) + 1 by omega, lsb, lsb, List.cons_append, lsb_append n p q, e1, e2, e3, Nat.div_div_eq_div_mul, ← Nat.pow_add]
theorem digs_lsb (n : Nat) : ∀ (f len v : Nat), 1 ≤ len → len ≤ f + 1 → v < 2 ^ (len * n) → digs n f len v = lsb n len v
  | 0, len, v, h1, h2, hv => by
    have : len = 1 := by omega
    subst this
    rw [Nat.one_mul] at hv
    rw [digs_one, lsb, lsb, Nat.mod_eq_of_lt hv]
  | f + 1, len, v, h1, h2, hv => by
    unfold digs
    split
    · have : len = 1 := by omega
      subst this
      rw [Nat.one_mul] at hv
      rw [lsb, lsb, Nat.mod_eq_of_lt hv]
    · have hv2 : v / 2 ^ (len / 2 * n) < 2 ^ ((len - len / 2) * n) := by
        rw [Nat.div_lt_iff_lt_mul (Nat.pow_pos (by decide)), ← Nat.pow_add, ← Nat.add_mul]
        rw [show len - len / 2 + len / 2 = len by omega]
        exact hv
      rw [digs_lsb n f _ _ (by omega) (by omega) (Nat.mod_lt _ (Nat.pow_pos (by decide))), digs_lsb n f _ _ (by omega) (by omega) hv2]
      conv => rhs; rw [show len = len / 2 + (len - len / 2) by omega]
      rw [lsb_append]
/-- what the digits are worth -/
def worth (n : Nat) : List Int → Int
  | [] => 0
  | d :: r => d + worth n r * 2 ^ n
theorem worth_lsb (n : Nat) : ∀ k v, v < 2 ^ (k * n) → worth n (lsb n k v) = (v : Int)
  | 0, v, h => by
    have : v = 0 := by simpa using h
    subst this; rfl
  | k + 1, v, h => by
    rw [lsb, worth, worth_lsb n k]
    · have := Nat.div_add_mod v (2 ^ n)
      rw [Nat.mul_comm] at this
      have e : ((v / 2 ^ n * 2 ^ n + v % 2 ^ n : Nat) : Int) = (v : Int) := by rw [this]
      rw [← e]
      push_cast
      omega
    · rw [Nat.div_lt_iff_lt_mul (Nat.pow_pos (by decide)), ← Nat.pow_add, ← Nat.succ_mul]
      exact h
theorem worth_append (n : Nat) : ∀ (a b : List Int), worth n (a ++ b) = worth n a + worth n b * 2 ^ (a.length * n)
  | [], b => by simp [worth]
  | x :: a, b => by
    rw [List.cons_append, worth, worth, worth_append n a b, List.length_cons, Nat.succ_mul, Int.pow_add, ← Int.mul_assoc, Int.add_mul]
    omega
theorem pow_cast (k : Nat) : ((2 ^ k : Nat) : Int) = (2 : Int) ^ k := by push_cast; rfl
theorem worth_bound (n : Nat) : ∀ l : List Int, (∀ d ∈ l, 0 ≤ d ∧ d < 2 ^ n) → 0 ≤ worth n l ∧ worth n l < 2 ^ (l.length * n)
  | [], _ => by simp [worth]
  | x :: r, h => by
    obtain ⟨h1, h2⟩ := worth_bound n r fun d hd => h d (.tail _ hd)
    obtain ⟨h3, h4⟩ := h x (.head _)
    have hp : (0 : Int) < 2 ^ n := Int.pow_pos (by decide)
    rw [worth, List.length_cons, Nat.succ_mul, Int.pow_add]
    have a1 : 0 ≤ worth n r * 2 ^ n := Int.mul_nonneg h1 (Int.le_of_lt hp)
    have a2 : (worth n r + 1) * 2 ^ n ≤ 2 ^ (r.length * n) * 2 ^ n := Int.mul_le_mul_of_nonneg_right (by omega) (Int.le_of_lt hp)
    rw [Int.add_mul, Int.one_mul] at a2
    omega
theorem lsb_digit (n : Nat) : ∀ k v, ∀ d ∈ lsb n k v, 0 ≤ d ∧ d < 2 ^ n
  | 0, _, d, h => by cases h
  | k + 1, v, d, h => by
    rw [lsb] at h
    rcases List.mem_cons.mp h with e | e
    · subst e
      refine ⟨Int.natCast_nonneg _, ?_⟩
      rw [← pow_cast]
      exact Int.ofNat_lt.mpr (Nat.mod_lt _ (Nat.pow_pos (by decide)))
    · exact lsb_digit n k _ d e
/-- how many digits an int takes -/
def cnt (x n : Nat) : Nat := (((Builtin.Int.intBits (x : Int) : Nat) : Int) + (n : Int) - 1).fdiv (n : Int) |>.toNat
theorem cnt_zero {n : Nat} (hn : 1 ≤ n) : cnt 0 n = 0 := by
  unfold cnt
  have : Builtin.Int.intBits ((0 : Nat) : Int) = 0 := by decide
  rw [this, Int.fdiv_eq_ediv_of_nonneg _ (by omega)]
  have h1 : (((0 : Nat) : Int) + (n : Int) - 1) / n < 1 := Int.ediv_lt_of_lt_mul (by omega) (by omega)
  omega
theorem cnt_room {x n : Nat} (hn : 1 ≤ n) : x < 2 ^ (cnt x n * n) := by
  rcases Nat.eq_zero_or_pos x with rfl | hx
  · exact Nat.pow_pos (by decide)
  · have hb : Builtin.Int.intBits (x : Int) = x.log2 + 1 := by
      unfold Builtin.Int.intBits
      rw [if_neg (by simp; omega)]
      simp
    refine Nat.lt_of_lt_of_le (Nat.lt_log2_self (n := x)) (Nat.pow_le_pow_right (by decide) ?_)
    unfold cnt
    rw [hb, Int.fdiv_eq_ediv_of_nonneg _ (by omega)]
    have e := Int.mul_ediv_add_emod (((x.log2 + 1 : Nat) : Int) + (n : Int) - 1) n
    have l := Int.emod_lt_of_pos (((x.log2 + 1 : Nat) : Int) + (n : Int) - 1) (show (0 : Int) < n by omega)
    have p := Int.ediv_nonneg (show (0 : Int) ≤ ((x.log2 + 1 : Nat) : Int) + (n : Int) - 1 by omega) (show (0 : Int) ≤ n by omega)
    generalize (((x.log2 + 1 : Nat) : Int) + (n : Int) - 1) / (n : Int) = q at e l p ⊢
    obtain ⟨q, rfl⟩ := Int.eq_ofNat_of_zero_le p
    rw [Int.toNat_natCast]
    have e2 : (n : Int) * (q : Int) = ((q * n : Nat) : Int) := by push_cast; exact Int.mul_comm _ _
    rw [e2] at e
    omega
theorem cnt_pos {x n : Nat} (hn : 1 ≤ n) (hx : 1 ≤ x) : 1 ≤ cnt x n := by
  rcases Nat.eq_zero_or_pos (cnt x n) with e | e
  · have := cnt_room (x := x) hn
    rw [e] at this
    simp at this
    omega
  · exact e
end Mine
end
-- G10
theorem Mine.atG10 : True ∧ True := by
  w_top off
  k_with_none
  k_with "w7" => (k_here; k_dflt (refine mul_zeros (by k_asm) (by k_asm) (by k_mem) (by k_extra "zeros") ?_))
  k_with "w8" => (k_here; first | with_reducible refine nb_mid ?_ | with_reducible refine nb_rsh ?_)
  k_with "w9" => (k_here; with_reducible refine nb_sub (by omega) ?_)
  k_with "w10" => (k_here; with_reducible refine nb_mul (by omega) (by omega) ?_)
  k_with "w11" => (k_here; with_reducible refine nb_lsh (Nat.lt_of_le_of_lt (Nat.div_le_self _ _) (by omega)) (by k_extra "shift") ?_)
  k_with "w12" => (k_here; k_dflt (refine len_zeros (by k_asm) (by k_mem) (by omega) ?_))
  k_with "the split" => first | (apply split_cons; walk_at "the split") | exact split_nil _
  k_with "the dis" => ((repeat' refine dis_cons ?_ ?_) <;> first | exact dis_nil | exact off_lt (by assumption) (by omega) | exact Dis.get (by assumption) (by k_mem))
  k_with "w13" => (k_here; kn_here; k_dflt (refine nestDef_K (by exact rfl) (by exact rfl) (by exact rfl) ?_); k_dflt (refine def_one (by assumption) (by k_asm) (by k_asm) (by walk_at "the split") (by walk_at "the dis") (by k_asm) (by kn_code) (by exact rfl) (by exact rfl) (by exact rfl) (by exact rfl) (by exact rfl) ?_))
  first | (walk1; fail) | exact ⟨trivial, trivial⟩
section
open PySem PySem.W PySem.Spec PySem.Calls PyProof.Rows
set_option maxRecDepth 100000
set_option maxHeartbeats 8000000
namespace Mine
theorem zeros_count {b : Nat} {n : Int} (hb : b ≤ 20) (hn : 1 ≤ n ∧ n < 64) : 0 ≤ ((b : Int) + n - 1).fdiv n ∧ ((b : Int) + n - 1).fdiv n ≤ 20 := by
  have e := Int.fdiv_eq_ediv_of_nonneg ((b : Int) + n - 1) (show 0 ≤ n by omega)
  rw [e]
  refine ⟨Int.ediv_nonneg (by omega) (by omega), ?_⟩
  have h1 : ((b : Int) + n - 1) / n < 21 := Int.ediv_lt_of_lt_mul (by omega) (by omega)
  exact Int.lt_add_one_iff.mp h1
theorem shift_le {p q n : Nat} (hq : q ≤ 64) (hn : 1 ≤ n ∧ n < 64) : ((p + q) / 2 - p) * n ≤ 1000000 :=
  Nat.le_trans (Nat.mul_le_mul (show (p + q) / 2 - p ≤ 64 by omega) (show n ≤ 64 by omega)) (by decide)
theorem len_zeros {prog : Program} {w : World} {A : Around} {E : Value → Shared → Prop} {s : Shared} {h₀ : Heap} {L : Addr} {news : List (Addr × Obj)} {l : Addr} {v : Value} {k z : Nat} {Q : Value → Shared → Prop}
    (N : News h₀ L s.heap news) (hm : (l, listOf (List.replicate k v).toArray z) ∈ news) (hk : k ≤ 1000) (h : Q (.int (k : Int) (s.toks + 1)) { s with toks := s.toks + 1 + 1 }) :
    wpAny (model prog w) A (call (.builtin "len") [.ref l]) Q E s := by
  have e : ((List.replicate k v).toArray).size = k := by simp
  refine len_list (items := (List.replicate k v).toArray) ⟨_, (N _ hm).1, rfl, _, rfl⟩ (by rw [e]; omega) ?_
  rw [e]; exact h
theorem ints_zeros (tk : Tok) : ∀ k : Nat, IntsAre (List.replicate k (Value.int 0 tk)) (List.replicate k 0)
  | 0 => .nil
  | k + 1 => by rw [List.replicate_succ, List.replicate_succ]; exact .cons 0 tk (ints_zeros tk k)
theorem ints_lay {vs : List Value} {pre mid post : List Int} {p q v : Nat} {tx : Tok} {n f : Nat} (hI : IntsAre vs (pre ++ mid ++ post)) (hp : pre.length = p) (hq : p + mid.length = q) (h : (p : Int) + 1 = (q : Int)) :
    IntsAre (vs.set ((p : Int)).toNat (Value.int (v : Int) tx)) (pre ++ digs n f (q - p) v ++ post) := by
  have e : q - p = 1 := by omega
  have hm : mid.length = 1 := by omega
  obtain ⟨y, rfl⟩ := List.length_eq_one_iff.mp hm
  have := ints_set (x := (v : Int)) (u := tx) hI p
  rw [e, digs_one, Int.toNat_natCast]
  rw [List.append_assoc, List.set_append_right _ _ (by omega), hp, Nat.sub_self] at this
  simpa using this
/-- what the inner def of _int2digits does to the list: the part from p on is laid out anew -/
def InC (w : World) (loose : List Str) (mean : ExcName → Option Value) (mg mb : Str → Option Value) (f : Addr) (led : List Value → List (Addr × Obj)) (n : Nat) (mx : Nat) : Prop :=
  ∀ (v : Nat) (tx tlo thi : Tok) (p q : Nat) (pre mid post : List Int) (vs : List Value) (dp un : Nat) (gd : Option (List Code)) (cn : Str) (cs : Scope) (L a : Addr) (ccd : Value) (cl : List (Str × Addr)) (outer : List Env)
    (A₀ : Around) (bs h₀ : Heap) (m : Str → Option Value) (s : Shared) (Q E : Value → Shared → Prop),
    Below A₀ bs outer h₀ → Fr h₀ L s.heap m → (Mine.hd.heap_1 w.params).In h₀ → News h₀ L s.heap (led vs) → Top topProg loose mean mg mb h₀ → cs.kind = .function → dp + mx ≤ 780 → un + 4 * mx ≤ 7800 →
    pre.length = p → p + mid.length = q → p < q → q ≤ p + mx + 1 → IntsAre vs (pre ++ mid ++ post) → q ≤ 64 → v < 1048576 →
    (∀ vs' h' tk', Fr h₀ L h' m → News h₀ L h' (led vs') → IntsAre vs' (pre ++ digs n mx (q - p) v ++ post) → Q .none { s with heap := h', toks := tk' }) →
    wpAny (model PySem.Challenge.rw_wj0026_01.row.prog w) (ktrTop dp un gd cn cs L a ccd cl outer) (call (.ref f) [.int (v : Int) tx, .int (p : Int) tlo, .int (q : Int) thi]) Q E s
section
local macro_rules | `(tactic| walk_at "binaryOp Mult ref int") => `(tactic| (k_extra "w7"; intro D' h' F' N' l1; (try k_lt l1); (try k_sweep)))
local macro_rules | `(tactic| k_all) => `(tactic| (intro p9 h9; refine neN ?_; k_extra "own"))
local macro_rules | `(tactic| walk_at "binaryOp RShift int int") => `(tactic| k_extra "w8")
local macro_rules | `(tactic| walk_at "binaryOp Sub int int") => `(tactic| k_extra "w9")
local macro_rules | `(tactic| walk_at "binaryOp Mult int int") => `(tactic| k_extra "w10")
local macro_rules | `(tactic| walk_at "binaryOp LShift int int") => `(tactic| k_extra "w11")
local macro_rules | `(tactic| walk_at "binaryOp BitXor int int") => `(tactic| (k_here; with_reducible refine nb_xor ?_))
local macro_rules | `(tactic| walk_at "call ref") => `(tactic| k_dflt (k_extra "my call"))
local macro_rules | `(tactic| walk_at "call builtin:len") => `(tactic| k_extra "w12")
local macro_rules | `(tactic| walk_at "exec FunctionDef") => `(tactic| (k_extra "w13"; intro f' c' oc' vs' t' ct' dc' nw' h' tk' TB' D9 O9 l1 hmc d1' d2' F' N'; (try simp only [List.cons_append, List.nil_append] at N'); (try simp only [AllLt, and_true] at l1)))
section
variable {w : World} {loose : List Str} {mean : ExcName → Option Value} {mg mb : Str → Option Value}
  {dp un : Nat} {gd : Option (List Code)} {cn : Str} {cs : Scope} {L a : Addr} {ccd : Value} {cl : List (Str × Addr)} {outer : List Env}
  {A₀ : Around} {bs h₀ : Heap} {m : Str → Option Value} {news : List (Addr × Obj)} {s : Shared} {Q E : Value → Shared → Prop}
theorem i2d_spec {x n : Nat} {t1 t2 : Tok} {own nw : List (Addr × Obj)} (TB : Tabs nw)
    (B : Below A₀ bs outer h₀) (F : Fr h₀ L s.heap m) (X : (Mine.hd.heap_1 w.params).In h₀) (N : News h₀ L s.heap news) (hs : news = own ++ nw) (D : Dis own nw) (T : Top topProg loose mean mg mb h₀) (hk : cs.kind = .function)
    (C : CodeHd bs 85 81) (hd : dp < 700) (hu : un < 7000) (hx : x < 1048576) (hn : 1 ≤ n ∧ n < 64)
    (ret : ∀ l vs k nw' h' tk', IntsAre vs (lsb n (cnt x n) x) → cnt x n ≤ 20 → Tabs nw' → Fr h₀ L h' m → News h₀ L h' ((l, listOf (List.toArray vs) k) :: (own ++ nw')) → Dis ((l, listOf (List.toArray vs) k) :: own) nw' → AllNe l own → Q (.ref l) { s with heap := h', toks := tk' }) :
    wpAny (model PySem.Challenge.rw_wj0026_01.row.prog w) (ktrTop dp un gd cn cs L a ccd cl outer) (call (.ref 86) [.int (x : Int) t1, .int (n : Int) t2]) Q E s := by
  k_with_none
  k_with "w7" => (k_here; k_dflt (refine mul_zeros (by k_asm) (by k_asm) (by k_mem) (by k_extra "zeros") ?_))
  k_with "w8" => (k_here; first | with_reducible refine nb_mid ?_ | with_reducible refine nb_rsh ?_)
  k_with "w9" => (k_here; with_reducible refine nb_sub (by omega) ?_)
  k_with "w10" => (k_here; with_reducible refine nb_mul (by omega) (by omega) ?_)
  k_with "w11" => (k_here; with_reducible refine nb_lsh (Nat.lt_of_le_of_lt (Nat.div_le_self _ _) (by omega)) (by k_extra "shift") ?_)
  k_with "w12" => (k_here; k_dflt (refine len_zeros (by k_asm) (by k_mem) (by omega) ?_))
  k_with "the split" => first | (apply split_cons; walk_at "the split") | exact split_nil _
  k_with "the dis" => ((repeat' refine dis_cons ?_ ?_) <;> first | exact dis_nil | exact off_lt (by assumption) (by omega) | exact Dis.get (by assumption) (by k_mem))
  k_with "w13" => (k_here; kn_here; k_dflt (refine nestDef_K (by exact rfl) (by exact rfl) (by exact rfl) ?_); k_dflt (refine def_one (by assumption) (by k_asm) (by k_asm) (by walk_at "the split") (by walk_at "the dis") (by k_asm) (by kn_code) (by exact rfl) (by exact rfl) (by exact rfl) (by exact rfl) (by exact rfl) ?_))
  subst hs
  revert X; k_fill; intro X
  refine' enterC (binds := [(Str.ofString "a", Value.int (x : Int) t1), (Str.ofString "n", Value.int (n : Int) t2)]) (news := nw) B F X ?kN T hk ?k6 ?k7 ?k8 ?k9 ?kB ?c1 ?_ ?c2 ?c3 ?c4
  case kN => exact fun p hp => N p (List.mem_append_right _ hp)
  case k6 => k_is
  case k7 => k_is
  case k8 => (show dp < 1000; omega)
  case k9 => exact BindsTo.of_eq rfl
  case kB => rfl
  case c1 => decide
  case c2 => exact rfl
  case c3 => exact rfl
  case c4 => exact rfl
  intro g L' h₁ tkz cells hg F' N' X0 lt' B' X' T'
  refine shut fun Qf sg sd so tk₀ hQ hQ0 => ?_
  have hY := CellsAre.three X0; obtain ⟨o1', o2', o3', hE, d1', d2', d3'⟩ := hY; subst hE; clear X0
  replace ret := fun l vs k nw' h' tk' {Ln : Addr} {mn : Str → Option Value} (hI : IntsAre vs (lsb n (cnt x n) x)) (hc : cnt x n ≤ 20) (hT' : Tabs nw') (Fn : Fr g Ln h' mn) (Nn : News g Ln h' ([(l, listOf (List.toArray vs) k)] ++ nw')) (Dn : Off l nw') =>
    (tab_back F N D hg Fn Nn (dis_cons Dn dis_nil)).elim fun a1 a2 => hQ _ _ _ (ret l vs k nw' h' tk' hI hc hT' a1 a2.1 a2.2.1 (a2.2.2 _ (.head _)))
  clear hg B F X N T D
  (try simp only [List.cons_append, List.nil_append] at N')
  (try dsimp only)
  (try k_fold)
  have hB := intBits_small (x := (x : Int)) (by omega) (by omega)
  have hq := zeros_count (n := (n : Int)) hB (by omega)
  k_with "zeros" => exact ⟨hq.1, Int.le_trans hq.2 (by decide)⟩
  k_with "own" => (have h8 := allLt_mem (by assumption) _ (by assumption); omega)
  k_with "own" => exact off_ne (by assumption) (by assumption)
  k_with "own" => exact dis_ne (by assumption) (by assumption) (by k_mem)
  iterate 2 (iterate 10 (first | (k_unfold; (try dsimp only)) | (k_end; wrow_close) | walk1 | (dsimp only; walk1) | (leave1; try dsimp only)))
  iterate 8 (first | (k_unfold; (try dsimp only)) | (k_end; wrow_close) | walk1 | (dsimp only; walk1) | (leave1; try dsimp only))
  (rename News _ _ _ _ => N8)
  (rename Fr _ _ _ _ => F8)
  rename_i l' hh1 l1a D' hh2 l1b hh3 oA dA f' c' oc' vs' t' ct' dc' nw' hh4 tk' TB' D9 O9 hmc d1c d2c l1c hh5 oI dI
  refine with_obj N8 ?_
  intro O hO N9
  have inner : ∀ f, InC w loose mean mg mb f' (fun vs => (f', O) :: (D', listOf vs.toArray 0) :: (l', listOf #[Value.int 0 tk₀] 0) :: (L' + 1 + 1 + 1, oI) :: (L' + 1 + 1, oA) :: (L' + 1, o3') :: nw') n f := by
    subst hO
    clear N8 F8 N9
    k_with "shift" => exact shift_le (by assumption) hn
    intro f
    refine Nat.strongRecOn f ?_
    intro f ih
    intro v tx tlo thi p q pre mid post vs dp un gd cn cs L a ccd cl outer A₀ bs h₀ m s Q E B F X N T hk hd hu hp hq0 hpq hqm hI hq64 hv hret
    dsimp only at N hret
    refine wpAny_call ?_
    refine' code_nest (binds := [(Str.ofString "x", Value.int v tx), (Str.ofString "L", Value.int p tlo), (Str.ofString "R", Value.int q thi)]) B F X N T rfl rfl hk ?k6 ?k7 ?k8 ?k9 ?kB ?_ ?c2 ?c3 ?c4 ?c5
    case k6 => k_mem
    case k7 => exact codeRec_news N (by repeat (first | exact hmc | refine List.Mem.tail _ ?_)) d1c d2c
    case k8 => (show dp < 1000; omega)
    case k9 => exact BindsTo.of_eq rfl
    case kB => exact locs rfl
    case c2 => exact rfl
    case c3 => exact rfl
    case c4 => exact rfl
    case c5 => decide
    intro g L' h' FG' F' N' B' X' T'
    (try dsimp only)
    (try k_fold)
    k_with "my call" => (have ih1 := ih (f - 1) (by omega); unfold InC at ih1; dsimp only at ih1; refine ih1 _ _ _ _ _ _ (pre ++ digs n (f - 1) ((p + q) / 2 - p) (v % 2 ^ (((p + q) / 2 - p) * n))) (mid.drop ((p + q) / 2 - p)) post _ _ _ _ _ _ _ _ _ _ _ _ _ _ _ _ _ _ (by k_asm) (by k_asm) (by k_asm) (by k_asm) (by k_asm) rfl (by (show dp + 1 + (f - 1) ≤ 780); omega) (by (show un + 3 + 4 * (f - 1) ≤ 7800); omega) (by rw [List.length_append, digs_length _ _ _ _ (by omega) (by omega)]; omega) (by rw [List.length_drop]; omega) (by omega) (by omega) (by (rename IntsAre _ _ => I9); simpa only [List.append_assoc] using I9) (by omega) (Nat.lt_of_le_of_lt (Nat.div_le_self _ _) (by omega)) ?_; intro vs2 h2 tk2 F2 N2 I2)
    k_with "my call" => (have ih1 := ih (f - 1) (by omega); unfold InC at ih1; dsimp only at ih1; refine ih1 _ _ _ _ _ _ pre (mid.take ((p + q) / 2 - p)) (mid.drop ((p + q) / 2 - p) ++ post) _ _ _ _ _ _ _ _ _ _ _ _ _ _ _ _ _ _ (by k_asm) (by k_asm) (by k_asm) (by k_asm) (by k_asm) rfl (by (show dp + 1 + (f - 1) ≤ 780); omega) (by (show un + 3 + 4 * (f - 1) ≤ 7800); omega) hp (by rw [List.length_take]; omega) (by omega) (by omega) (by rw [List.append_assoc, ← List.append_assoc (mid.take _), List.take_append_drop, ← List.append_assoc]; exact hI) (by omega) (Nat.lt_of_le_of_lt (Nat.mod_le _ _) (by omega)) ?_; intro vs1 h1 tk1 F1 N1 I1)
    k_steps
    · refine hret _ _ _ (by k_asm) (by k_asm) (ints_lay hI hp hq0 (by assumption))
    · refine hret _ _ _ (by k_asm) (by k_asm) ?_
      rw [digs_split (by omega) (by omega), ← List.append_assoc]
      exact I2
  k_with_none
  k_with "w7" => (k_here; k_dflt (refine mul_zeros (by k_asm) (by k_asm) (by k_mem) (by k_extra "zeros") ?_))
  k_with "w8" => (k_here; first | with_reducible refine nb_mid ?_ | with_reducible refine nb_rsh ?_)
  k_with "w9" => (k_here; with_reducible refine nb_sub (by omega) ?_)
  k_with "w10" => (k_here; with_reducible refine nb_mul (by omega) (by omega) ?_)
  k_with "w11" => (k_here; with_reducible refine nb_lsh (Nat.lt_of_le_of_lt (Nat.div_le_self _ _) (by omega)) (by k_extra "shift") ?_)
  k_with "w12" => (k_here; k_dflt (refine len_zeros (by k_asm) (by k_mem) (by omega) ?_))
  k_with "the split" => first | (apply split_cons; walk_at "the split") | exact split_nil _
  k_with "the dis" => ((repeat' refine dis_cons ?_ ?_) <;> first | exact dis_nil | exact off_lt (by assumption) (by omega) | exact Dis.get (by assumption) (by k_mem))
  k_with "w13" => (k_here; kn_here; k_dflt (refine nestDef_K (by exact rfl) (by exact rfl) (by exact rfl) ?_); k_dflt (refine def_one (by assumption) (by k_asm) (by k_asm) (by walk_at "the split") (by walk_at "the dis") (by k_asm) (by kn_code) (by exact rfl) (by exact rfl) (by exact rfl) (by exact rfl) (by exact rfl) ?_))
  k_with "own" => (have h8 := allLt_mem (by assumption) _ (by assumption); omega)
  k_with "own" => exact off_ne (by assumption) (by assumption)
  k_with "own" => exact dis_ne (by assumption) (by assumption) (by k_mem)
  have hk20 : cnt x n ≤ 20 := by (have hc9 : ((cnt x n : Nat) : Int) = max 0 ((((Builtin.Int.intBits (x : Int) : Nat) : Int) + (n : Int) - 1).fdiv (n : Int)) := (by unfold cnt; omega)); omega
  have hkk : ((((Builtin.Int.intBits (x : Int) : Nat) : Int) + (n : Int) - 1).fdiv (n : Int)).toNat = cnt x n := rfl
  rw [hO] at inner
  rw [hkk] at N8
  clear N9 hO
  k_with "my call" => (have ih1 := inner (cnt x n - 1); unfold InC at ih1; dsimp only at ih1; have hpos : 1 ≤ cnt x n := cnt_pos hn.1 (by omega); refine ih1 x _ _ _ 0 (cnt x n) [] (List.replicate (cnt x n) 0) [] (List.replicate (cnt x n) (Value.int 0 tk₀)) _ _ _ _ _ _ _ _ _ _ _ _ _ _ _ _ _ (by k_asm) (by k_asm) (by k_asm) (by k_asm) (by k_asm) rfl (by (show dp + 1 + (cnt x n - 1) ≤ 780); omega) (by (show un + 3 + 4 * (cnt x n - 1) ≤ 7800); omega) rfl (by rw [List.length_replicate]; omega) (by omega) (by omega) (by simpa using ints_zeros tk₀ (cnt x n)) (by omega) (by omega) ?_; intro vs1 h1 tk1 F1 N1 I1; rw [Nat.sub_zero, List.append_nil, List.nil_append, digs_lsb n _ _ _ hpos (by omega) (cnt_room hn.1)] at I1)
  k_steps
  · (rename IntsAre _ _ => I1)
    (rename News _ _ _ _ => N1)
    refine ret _ _ 0 nw' _ _ I1 (by omega) TB' (by k_asm) (fun p hp => N1 p ?_) (Dis.get D9 (by k_mem))
    simp only [List.mem_cons, List.mem_append, List.not_mem_nil, or_false] at hp ⊢
    rcases hp with h | h <;> simp [h]
  · have hx0 : x = 0 := by omega
    subst hx0
    have hc0 := cnt_zero hn.1
    (rename News _ _ _ _ => N1)
    rw [hc0] at N1
    refine ret _ _ 0 nw' _ _ (by rw [hc0]; exact IntsAre.nil) (by omega) TB' (by k_asm) (fun p hp => N1 p ?_) (Dis.get D9 (by k_mem))
    simp only [List.mem_cons, List.mem_append, List.not_mem_nil, or_false] at hp ⊢
    rcases hp with h | h <;> simp [h]
end
end
end Mine
end
-- DH
theorem Mine.atDH : True ∧ True := by
  w_top off
  k_with_none
  first | (walk1; fail) | exact ⟨trivial, trivial⟩
section
open PySem PySem.W PySem.Spec PySem.Calls PyProof.Rows
set_option maxRecDepth 100000
namespace Mine
theorem part_split {ds : List Int} {p q mid : Nat} (h1 : p ≤ mid) (h2 : mid ≤ q) : (ds.drop p).take (q - p) = (ds.drop p).take (mid - p) ++ (ds.drop mid).take (q - mid) := by
  rw [show q - p = (mid - p) + (q - mid) by omega, List.take_add, List.drop_drop, show p + (mid - p) = mid by omega]
theorem worth_part {n : Nat} {ds : List Int} {p q : Nat} (h : p + 2 ≤ q) (hq : q ≤ ds.length) :
    worth n ((ds.drop p).take (q - p)) = worth n ((ds.drop ((p + q) / 2)).take (q - (p + q) / 2)) * 2 ^ (((p + q) / 2 - p) * n) + worth n ((ds.drop p).take ((p + q) / 2 - p)) := by
  rw [part_split (p := p) (q := q) (mid := (p + q) / 2) (by omega) (by omega), worth_append, List.length_take, List.length_drop, Nat.min_eq_left (by omega), Int.add_comm]
theorem worth_item {n : Nat} {ds : List Int} {p q : Nat} {k : Int} (h : (p : Int) + 1 = (q : Int)) (e : ds[p]? = some k) : worth n ((ds.drop p).take (q - p)) = k := by
  obtain ⟨h1, h2⟩ := List.getElem?_eq_some_iff.mp e
  rw [show q - p = 1 by omega, List.drop_eq_getElem_cons h1, List.take_succ_cons, List.take_zero, h2, worth, worth]
  omega
theorem worth_getD {n : Nat} {ds : List Int} {p q : Nat} (h : (p : Int) + 1 = (q : Int)) (hq : q ≤ ds.length) : worth n ((ds.drop p).take (q - p)) = ds.getD ((p : Int)).toNat 0 := by
  have hp : p < ds.length := by omega
  refine worth_item h ?_
  rw [Int.toNat_natCast, List.getD_eq_getElem?_getD, List.getElem?_eq_getElem hp]
  rfl
theorem worth_small {n : Nat} {ds : List Int} (hd : ∀ d ∈ ds, 0 ≤ d ∧ d < 2 ^ n) (p q : Nat) (hn : ds.length * n ≤ 63) : (worth n ((ds.drop p).take (q - p))).natAbs < 2 ^ 64 := by
  obtain ⟨h1, h2⟩ := worth_bound n ((ds.drop p).take (q - p)) fun d h => hd d (List.mem_of_mem_drop (List.mem_of_mem_take h))
  have hl : ((ds.drop p).take (q - p)).length ≤ ds.length := by rw [List.length_take, List.length_drop]; omega
  have h3 : (2 : Int) ^ (((ds.drop p).take (q - p)).length * n) ≤ 2 ^ 63 := by
    rw [← pow_cast, ← pow_cast]
    exact Int.ofNat_le.mpr (Nat.pow_le_pow_right (by decide) (Nat.le_trans (Nat.mul_le_mul_right n hl) hn))
  omega
theorem shift_len {p q n : Nat} {ds : List Int} (hp : p < q) (hq : q ≤ ds.length) (hn : ds.length * n ≤ 63) : ((p + q) / 2 - p) * n ≤ 1000000 :=
  Nat.le_trans (Nat.mul_le_mul_right n (show (p + q) / 2 - p ≤ ds.length by omega)) (Nat.le_trans hn (by decide))
end Mine
end
-- G11
theorem Mine.atG11 : True ∧ True := by
  w_top off
  k_with_none
  k_with "w9" => (k_here; with_reducible refine nb_sub (by omega) ?_)
  k_with "w10" => (k_here; with_reducible refine nb_mul (by omega) (by omega) ?_)
  k_with "w14" => (k_here; with_reducible refine nb_lshI (by k_extra "small") (by k_extra "shift") ?_)
  k_with "w15" => (k_here; k_dflt (refine len_made (by is_list) (by assumption) (by k_extra "len") ?_))
  k_with "the split" => first | (apply split_cons; walk_at "the split") | exact split_nil _
  k_with "the dis" => ((repeat' refine dis_cons ?_ ?_) <;> first | exact dis_nil | exact off_lt (by assumption) (by omega) | exact Dis.get (by assumption) (by k_mem))
  k_with "w16" => (k_here; kn_here; k_dflt (refine nestDef_K (by exact rfl) (by exact rfl) (by exact rfl) ?_); k_dflt (refine def_two (by assumption) (by k_asm) (by k_asm) (by walk_at "the split") (by walk_at "the dis") (by k_asm) (by kn_code) (by exact rfl) (by exact rfl) (by exact rfl) (by exact rfl) (by exact rfl) ?_))
  first | (walk1; fail) | exact ⟨trivial, trivial⟩
section
open PySem PySem.W PySem.Spec PySem.Calls PyProof.Rows
set_option maxRecDepth 100000
set_option maxHeartbeats 8000000
namespace Mine
theorem nb_lshI {prog : Program} {w : World} {A : Around} {E : Value → Shared → Prop} {s : Shared} {t u : Tok} {Q : Value → Shared → Prop} {v : Int} {k : Nat} (hv : v.natAbs < 2 ^ 64) (hk : k ≤ 1000000) (h : Q (.int (v * 2 ^ k) s.toks) { s with toks := s.toks + 1 }) : wpAny (model prog w) A (binaryOp .LShift (.int v t) (.int (k : Int) u)) Q E s := by
  refine lshift_int_small (by omega) (by omega) (by omega) ?_
  rw [Int.toNat_natCast]; exact h
theorem len_made {prog : Program} {w : World} {A : Around} {E : Value → Shared → Prop} {s : Shared} {l : Addr} {vs : List Value} {ds : List Int} {Q : Value → Shared → Prop}
    (IL : s.heap.IsList l vs.toArray) (hI : IntsAre vs ds) (hk : ds.length ≤ 1000) (h : Q (.int (ds.length : Int) (s.toks + 1)) { s with toks := s.toks + 1 + 1 }) :
    wpAny (model prog w) A (call (.builtin "len") [.ref l]) Q E s := by
  have e : vs.toArray.size = ds.length := by rw [List.size_toArray]; exact hI.length
  refine len_list (items := vs.toArray) IL (by rw [e]; omega) ?_
  rw [e]; exact h
/-- what the inner def of _digits2int hands back -/
def InD (w : World) (loose : List Str) (mean : ExcName → Option Value) (mg mb : Str → Option Value) (f : Addr) (led : List (Addr × Obj)) (n : Nat) (l : Addr) (vs : List Value) (ds : List Int) (mx : Nat) : Prop :=
  ∀ (tlo thi : Tok) (p q : Nat) (dp un : Nat) (gd : Option (List Code)) (cn : Str) (cs : Scope) (L a : Addr) (ccd : Value) (cl : List (Str × Addr)) (outer : List Env)
    (A₀ : Around) (bs h₀ : Heap) (m : Str → Option Value) (s : Shared) (Q E : Value → Shared → Prop),
    Below A₀ bs outer h₀ → Fr h₀ L s.heap m → (Mine.hd.heap_1 w.params).In h₀ → News h₀ L s.heap led → Top topProg loose mean mg mb h₀ → cs.kind = .function → h₀.IsList l vs.toArray → dp + mx ≤ 780 → un + 4 * mx ≤ 7800 →
    p < q → q ≤ p + mx + 1 → q ≤ ds.length →
    (∀ t h' tk', Fr h₀ L h' m → News h₀ L h' led → Q (.int (worth n ((ds.drop p).take (q - p))) t) { s with heap := h', toks := tk' }) →
    wpAny (model PySem.Challenge.rw_wj0026_01.row.prog w) (ktrTop dp un gd cn cs L a ccd cl outer) (call (.ref f) [.int (p : Int) tlo, .int (q : Int) thi]) Q E s
theorem list_keep {h h' : Heap} {l : Addr} {its : Array Value} (IL : h.IsList l its) (k : ∀ b o, h.get? b = some o → h'.get? b = some o) : h'.IsList l its := let ⟨o, e, r⟩ := IL; ⟨o, k _ _ e, r⟩
section
local macro_rules | `(tactic| k_all) => `(tactic| (intro p9 h9; refine neN ?_; k_extra "own"))
local macro_rules | `(tactic| walk_at "binaryOp RShift int int") => `(tactic| (k_here; with_reducible refine nb_mid ?_))
local macro_rules | `(tactic| walk_at "binaryOp Sub int int") => `(tactic| k_extra "w9")
local macro_rules | `(tactic| walk_at "binaryOp Mult int int") => `(tactic| k_extra "w10")
local macro_rules | `(tactic| walk_at "binaryOp LShift int int") => `(tactic| k_extra "w14")
local macro_rules | `(tactic| walk_at "call ref") => `(tactic| k_dflt (k_extra "my call"))
local macro_rules | `(tactic| walk_at "call builtin:len") => `(tactic| k_extra "w15")
local macro_rules | `(tactic| walk_at "exec FunctionDef") => `(tactic| (k_extra "w16"; intro f' c' oc' vs' t' ct' dc' nw' h' tk' TB' D9 O9 l1 hmc d1' d2' F' N'; (try simp only [List.cons_append, List.nil_append] at N'); (try simp only [AllLt, and_true] at l1)))
section
variable {w : World} {loose : List Str} {mean : ExcName → Option Value} {mg mb : Str → Option Value}
  {dp un : Nat} {gd : Option (List Code)} {cn : Str} {cs : Scope} {L a : Addr} {ccd : Value} {cl : List (Str × Addr)} {outer : List Env}
  {A₀ : Around} {bs h₀ : Heap} {m : Str → Option Value} {news : List (Addr × Obj)} {s : Shared} {Q E : Value → Shared → Prop}
theorem d2i_spec {l : Addr} {vs : List Value} {ds : List Int} {n : Nat} {t2 : Tok} {own nw : List (Addr × Obj)} (TB : Tabs nw)
    (B : Below A₀ bs outer h₀) (F : Fr h₀ L s.heap m) (X : (Mine.hd.heap_1 w.params).In h₀) (N : News h₀ L s.heap news) (hs : news = own ++ nw) (D : Dis own nw) (T : Top topProg loose mean mg mb h₀) (hk : cs.kind = .function)
    (C : CodeHd bs 92 88) (hd : dp < 700) (hu : un < 7000) {kl : Nat} (hl : (l, listOf vs.toArray kl) ∈ own) (hI : IntsAre vs ds) (hdg : ∀ d ∈ ds, 0 ≤ d ∧ d < 2 ^ n) (hdl : ds.length ≤ 20) (hdn : ds.length * n ≤ 63) (hn : 1 ≤ n ∧ n < 64)
    (ret : ∀ t nw' h' tk', Tabs nw' → Fr h₀ L h' m → News h₀ L h' (own ++ nw') → Dis own nw' → Q (.int (worth n ds) t) { s with heap := h', toks := tk' }) :
    wpAny (model PySem.Challenge.rw_wj0026_01.row.prog w) (ktrTop dp un gd cn cs L a ccd cl outer) (call (.ref 93) [.ref l, .int (n : Int) t2]) Q E s := by
  k_with_none
  k_with "w9" => (k_here; with_reducible refine nb_sub (by omega) ?_)
  k_with "w10" => (k_here; with_reducible refine nb_mul (by omega) (by omega) ?_)
  k_with "w14" => (k_here; with_reducible refine nb_lshI (by k_extra "small") (by k_extra "shift") ?_)
  k_with "w15" => (k_here; k_dflt (refine len_made (by is_list) (by assumption) (by k_extra "len") ?_))
  k_with "the split" => first | (apply split_cons; walk_at "the split") | exact split_nil _
  k_with "the dis" => ((repeat' refine dis_cons ?_ ?_) <;> first | exact dis_nil | exact off_lt (by assumption) (by omega) | exact Dis.get (by assumption) (by k_mem))
  k_with "w16" => (k_here; kn_here; k_dflt (refine nestDef_K (by exact rfl) (by exact rfl) (by exact rfl) ?_); k_dflt (refine def_two (by assumption) (by k_asm) (by k_asm) (by walk_at "the split") (by walk_at "the dis") (by k_asm) (by kn_code) (by exact rfl) (by exact rfl) (by exact rfl) (by exact rfl) (by exact rfl) ?_))
  subst hs
  revert X; k_fill; intro X
  refine' enterC (binds := [(Str.ofString "digits", Value.ref l), (Str.ofString "n", Value.int (n : Int) t2)]) (news := nw) B F X ?kN T hk ?k6 ?k7 ?k8 ?k9 ?kB ?c1 ?_ ?c2 ?c3 ?c4
  case kN => exact fun p hp => N p (List.mem_append_right _ hp)
  case k6 => k_is
  case k7 => k_is
  case k8 => (show dp < 1000; omega)
  case k9 => exact BindsTo.of_eq rfl
  case kB => rfl
  case c1 => decide
  case c2 => exact rfl
  case c3 => exact rfl
  case c4 => exact rfl
  intro g L' h₁ tkz cells hg F' N' X0 lt' B' X' T'
  refine shut fun Qf sg sd so tk₀ hQ hQ0 => ?_
  have hY := CellsAre.three X0; obtain ⟨o1', o2', o3', hE, d1', d2', d3'⟩ := hY; subst hE; clear X0
  have IL : g.IsList l vs.toArray := ⟨listOf vs.toArray kl, by
    rw [hg]
    refine hideAll_get _ (N _ (List.mem_append_left _ hl)).1 fun q => ?_
    obtain ⟨x, hx, e⟩ := List.mem_map.mp q
    exact D.all _ hl x hx e.symm, rfl, kl, rfl⟩
  replace ret := fun t nw' h' tk' {Ln : Addr} {mn : Str → Option Value} (hT' : Tabs nw') (Fn : Fr g Ln h' mn) (Nn : News g Ln h' ([] ++ nw')) =>
    (tab_back F N D hg Fn Nn dis_nil).elim fun a1 a2 => hQ _ _ _ (ret t nw' h' tk' hT' a1 a2.1 a2.2.1)
  clear hg B F X N T D hl
  (try simp only [List.cons_append, List.nil_append] at N')
  (try dsimp only)
  (try k_fold)
  k_with "own" => (have h8 := allLt_mem (by assumption) _ (by assumption); omega)
  k_with "own" => exact off_ne (by assumption) (by assumption)
  k_with "own" => exact dis_ne (by assumption) (by assumption) (by k_mem)
  iterate 3 (first | (k_unfold; (try dsimp only)) | (k_end; wrow_close) | walk1 | (dsimp only; walk1) | (leave1; try dsimp only))
  (rename News _ _ _ _ => N8)
  (rename Fr _ _ _ _ => F8)
  rename_i f' c' oc' vs' t' ct' dc' nw' hh4 tk' TB' D9 O9 hmc d1c d2c l1c hh5 oI dI
  refine with_obj N8 ?_
  intro O hO N9
  have inner : ∀ f, InD w loose mean mg mb f' ((f', O) :: (L' + 1 + 1 + 1, oI) :: (L' + 1 + 1, o2') :: (L' + 1, o3') :: nw') n l vs ds f := by
    subst hO
    clear N8 F8 N9
    k_with "shift" => exact shift_len (by assumption) (by assumption) hdn
    k_with "small" => exact worth_small hdg _ _ hdn
    intro f
    refine Nat.strongRecOn f ?_
    intro f ih
    intro tlo thi p q dp un gd cn cs L a ccd cl outer A₀ bs h₀ m s Q E B F X N T hk IL hd hu hpq hqm hql hret
    refine wpAny_call ?_
    refine' code_nest (binds := [(Str.ofString "L", Value.int p tlo), (Str.ofString "R", Value.int q thi)]) B F X N T rfl rfl hk ?k6 ?k7 ?k8 ?k9 ?kB ?_ ?c2 ?c3 ?c4 ?c5
    case k6 => k_mem
    case k7 => exact codeRec_news N (by repeat (first | exact hmc | refine List.Mem.tail _ ?_)) d1c d2c
    case k8 => (show dp < 1000; omega)
    case k9 => exact BindsTo.of_eq rfl
    case kB => exact locs rfl
    case c2 => exact rfl
    case c3 => exact rfl
    case c4 => exact rfl
    case c5 => decide
    intro g L' h' FG' F' N' B' X' T'
    have IL' := list_keep IL FG'.keep
    (try dsimp only)
    (try k_fold)
    k_with "my call" => (have ih1 := ih (f - 1) (by omega); unfold InD at ih1; refine ih1 _ _ p ((p + q) / 2) _ _ _ _ _ _ _ _ _ _ _ _ _ _ _ _ _ (by k_asm) (by k_asm) (by k_asm) (by k_asm) (by k_asm) rfl IL' (by (show dp + 1 + (f - 1) ≤ 780); omega) (by (show un + 3 + 4 * (f - 1) ≤ 7800); omega) (by omega) (by omega) (by omega) ?_; intro tB h2 tk2 F2 N2)
    k_with "my call" => (have ih1 := ih (f - 1) (by omega); unfold InD at ih1; refine ih1 _ _ ((p + q) / 2) q _ _ _ _ _ _ _ _ _ _ _ _ _ _ _ _ _ (by k_asm) (by k_asm) (by k_asm) (by k_asm) (by k_asm) rfl IL' (by (show dp + 1 + (f - 1) ≤ 780); omega) (by (show un + 3 + 4 * (f - 1) ≤ 7800); omega) (by omega) (by omega) (by omega) ?_; intro tA h1 tk1 F1 N1)
    k_steps
    · have e := hret ‹_› _ tk (by k_asm) (by k_asm)
      rw [worth_getD (by assumption) hql] at e
      exact e
    · have e := hret tk2 _ (tk2 + 1) (by k_asm) (by k_asm)
      rw [worth_part (by omega) hql] at e
      exact e
  k_with_none
  k_with "w9" => (k_here; with_reducible refine nb_sub (by omega) ?_)
  k_with "w10" => (k_here; with_reducible refine nb_mul (by omega) (by omega) ?_)
  k_with "w14" => (k_here; with_reducible refine nb_lshI (by k_extra "small") (by k_extra "shift") ?_)
  k_with "w15" => (k_here; k_dflt (refine len_made (by is_list) (by assumption) (by k_extra "len") ?_))
  k_with "the split" => first | (apply split_cons; walk_at "the split") | exact split_nil _
  k_with "the dis" => ((repeat' refine dis_cons ?_ ?_) <;> first | exact dis_nil | exact off_lt (by assumption) (by omega) | exact Dis.get (by assumption) (by k_mem))
  k_with "w16" => (k_here; kn_here; k_dflt (refine nestDef_K (by exact rfl) (by exact rfl) (by exact rfl) ?_); k_dflt (refine def_two (by assumption) (by k_asm) (by k_asm) (by walk_at "the split") (by walk_at "the dis") (by k_asm) (by kn_code) (by exact rfl) (by exact rfl) (by exact rfl) (by exact rfl) (by exact rfl) ?_))
  k_with "own" => (have h8 := allLt_mem (by assumption) _ (by assumption); omega)
  k_with "own" => exact off_ne (by assumption) (by assumption)
  k_with "own" => exact dis_ne (by assumption) (by assumption) (by k_mem)
  k_with "len" => omega
  rw [hO] at inner
  clear N9 hO
  k_with "my call" => (have ih1 := inner (ds.length - 1); unfold InD at ih1; refine ih1 _ _ 0 ds.length _ _ _ _ _ _ _ _ _ _ _ _ _ _ _ _ _ (by k_asm) (by k_asm) (by k_asm) (by k_asm) (by k_asm) rfl IL (by (show dp + 1 + (ds.length - 1) ≤ 780); omega) (by (show un + 3 + 4 * (ds.length - 1) ≤ 7800); omega) (by omega) (by omega) (by omega) ?_; intro tA h1 tk1 F1 N1; rw [show worth n ((ds.drop 0).take (ds.length - 0)) = worth n ds by rw [Nat.sub_zero, List.drop_zero, List.take_length]])
  k_steps
  · (rename News _ _ _ _ => N1)
    refine ret _ nw' _ _ TB' (by k_asm) (fun p hp => N1 p ?_)
    simp only [List.mem_cons, List.nil_append] at hp ⊢
    simp [hp]
  · have hd0 : ds = [] := List.eq_nil_of_length_eq_zero (by omega)
    (rename News _ _ _ _ => N1)
    have e := fun t tk' => ret t nw' _ tk' TB' (by k_asm) (fun p hp => N1 p (by simp only [List.mem_cons, List.nil_append] at hp ⊢; simp [hp]))
    rw [hd0] at e
    exact e _ _
end
end
end Mine
end
-- KR
theorem Mine.atKR : True ∧ True := by
  w_top off
  k_with_none
  first | (walk1; fail) | exact ⟨trivial, trivial⟩
section
open Lean Elab Tactic Meta PySem PySem.Calls PyProof.Rows PyProof.V PySem.Spec PySem.W
set_option maxRecDepth 100000
namespace Mine
theorem offI_of {I : Addr} {it : Obj} {l : List (Addr × Obj)} (h : ∀ p ∈ l, p.1 ≠ I) : OffI I it l := by
  induction l with
  | nil => exact True.intro
  | cons p r ih => exact ⟨.inl (h p (.head _)), ih fun q hq => h q (.tail _ hq)⟩
section
variable {prog : Program} {w : World} {A : Around} {E : Value → Shared → Prop} {s : Shared} {env : Env} {h₀ : Heap} {x : Str} {body : List Stmt} {Q : Flow → Shared → Prop}
/-- a loop over reversed(a list of ints), by what holds of its letters -/
theorem kst_rev {σ : Type} {l I : Addr} {vs : List Value} {ns : List Int} {nn : Nat} {m₀ : Str → Option Value} (Led : σ → List (Addr × Obj)) (ps : σ → List (Str × Value)) (Facts : σ → Prop) (stored : List Str) (P : List Int → σ → Prop) (c₀ : σ)
    (hh : A.handled = none) (hl : ∀ c : σ, (l, listOf vs.toArray nn) ∈ Led c) (hi : IntsAre vs ns) (F : Fr h₀ env.locals s.heap m₀) (N : News h₀ env.locals s.heap ((I, revObj l ((vs.length : Int) - 1)) :: Led c₀)) (hof : ∀ p ∈ Led c₀, p.1 ≠ I)
    (hf : Facts c₀) (hk : ∀ p ∈ ps c₀, m₀ p.1 = some p.2) (hp : P [] c₀)
    (turn : ∀ (c : σ) pre post n t (u : Str → Option Value) h tk own, ns.reverse = pre ++ n :: post → n ∈ ns.reverse → OwnOff own ((Led c₀).map (·.1)) → Facts c → P pre c →
      Fr h₀ env.locals h (fun y => if y = x then some (.int n t) else kstB (fun z => if stored.contains z then u z else m₀ z) (ps c) y) → News h₀ env.locals h (Led c ++ own) →
      wpAny (model prog w) A (execs body env) (InvPostN h₀ env.locals (KstS Led ps Facts x stored m₀ P (pre ++ [n])) own ((Led c₀).map (·.1)) { s with heap := h, toks := tk } Q) E { s with heap := h, toks := tk })
    (done : ∀ (c : σ) (u : Str → Option Value) h tk, Facts c → P ns.reverse c → Fr h₀ env.locals h (fun y => if y = x then u y else kstB (fun z => if stored.contains z then u z else m₀ z) (ps c) y) → News h₀ env.locals h (Led c) → Q .next { s with heap := h, toks := tk }) :
    wpAny (model prog w) A (pyIter (.ref I)) (fun it s₂ => LoopAtV prog w A h₀ env x body Q E it s₂) E s := by
  have key : ∀ (rv : List Value) (rn pre : List Int) (m : Str → Option Value) (nx : List (Addr × Obj)), IntsAre rv rn → ns.reverse = pre ++ rn → KstS Led ps Facts x stored m₀ P pre m nx →
      RevRest prog w A E h₀ env x body Q s I (l, listOf vs.toArray nn) rv m nx := by
    intro rv
    induction rv with
    | nil =>
      intro rn pre m nx hr e hS
      cases hr
      rw [List.append_nil] at e
      subst e
      obtain ⟨c, rfl, hf', h1, h2, hp'⟩ := hS
      exact fun h tk F₁ N₁ => done c m h tk hf' hp' (kst_frOut h1 h2 F₁) N₁
    | cons v r ih =>
      intro rn pre m nx hr e hS
      cases hr with
      | cons n t hr =>
      rename_i rn
      refine RevRest.succ fun it h tk hit F₁ N₁ => ?_
      obtain ⟨c, rfl, hf', h1, h2, hp'⟩ := hS
      have hoff : OwnOff [(I, it)] ((Led c₀).map (·.1)) := by
        intro p hp b hb q
        rw [List.mem_singleton.mp hp] at q
        obtain ⟨z, hz, rfl⟩ := List.mem_map.mp hb
        exact hof z hz q.symm
      refine wpAny_mono (turn c pre rn n t m h tk [(I, it)] e (by rw [e]; exact List.mem_append_right _ (.head _)) hoff hf' hp' (kst_fr h1 h2 F₁) fun p hp => N₁ p ?_) (fun f s₂ q => ?_) fun _ _ y => y
      · rcases List.mem_append.mp hp with hp | hp
        · exact List.mem_cons_of_mem _ hp
        · rw [List.mem_singleton.mp hp]; exact List.mem_cons_self
      · have up : InvEndN h₀ env.locals (KstS Led ps Facts x stored m₀ P (pre ++ [n])) [(I, it)] ((Led c₀).map (·.1)) { s with heap := h, toks := tk } s₂ →
            UnrEnd h₀ env.locals { s with heap := h, toks := tk } I it (fun m' n' => (l, listOf vs.toArray nn) ∈ n' ∧ RevRest prog w A E h₀ env x body Q s I (l, listOf vs.toArray nn) r m' n') s₂ := by
          rintro ⟨h', tk', m', news', nx', e', F', N', hn', ho', ha, hS⟩
          refine ⟨h', tk', m', nx', e', F', fun p hp => ?_, fun p hp q => ?_, ?_, ih rn (pre ++ [n]) m' nx' hr (by rw [e, List.append_assoc]; rfl) hS⟩
          · rcases List.mem_cons.mp hp with rfl | hp
            · exact N' _ (ho' _ (.head _))
            · exact N' _ (hn' _ hp)
          · have z : p.1 ∈ (Led c₀).map (·.1) := by rw [← ha]; exact List.mem_map_of_mem hp
            obtain ⟨z, hz, e2⟩ := List.mem_map.mp z
            exact hof z hz (e2.trans q)
          · obtain ⟨c', rfl, _⟩ := hS
            exact hl c'
        cases f with
        | ret v => exact q
        | brk => exact q
        | next => exact up q
        | cont => exact up q
  refine iter_revUnr (lo := listOf vs.toArray nn) (ax := l) (n := nn) hh F N ?_ (hl c₀) rfl rfl (key _ ns.reverse [] m₀ _ hi.reverse rfl ⟨c₀, rfl, hf, hk, fun _ _ _ _ => rfl, hp⟩)
  exact offI_of hof
end
end Mine
end
-- DV
theorem Mine.atDV : True ∧ True := by
  w_top off
  k_with_none
  first | (walk1; fail) | exact ⟨trivial, trivial⟩
section
open PySem PySem.W PySem.Spec PySem.Calls PyProof.Rows
set_option maxRecDepth 100000
namespace Mine
/-- what the digits are worth, the highest first -/
def msb (n : Nat) (l : List Int) : Int := l.foldl (fun a d => a * 2 ^ n + d) 0
theorem msb_snoc (n : Nat) (l : List Int) (d : Int) : msb n (l ++ [d]) = msb n l * 2 ^ n + d := by
  unfold msb; rw [List.foldl_append]; rfl
theorem worth_reverse (n : Nat) (l : List Int) : worth n l = msb n l.reverse := by
  induction l with
  | nil => rfl
  | cons d r ih => rw [List.reverse_cons, msb_snoc, worth, ih]; omega
def DivInv (n : Nat) (b : Int) (pre : List Int) (r : Int) (lq : List Int) : Prop :=
  lq.length = pre.length ∧ 0 ≤ r ∧ r < b ∧ (∀ q ∈ lq, 0 ≤ q ∧ q < 2 ^ n) ∧ msb n pre = msb n lq * b + r
theorem div_start {n : Nat} {b : Int} (hb : 0 < b) : DivInv n b [] 0 [] := ⟨rfl, by omega, hb, (fun q h => by cases h), by simp [msb]⟩
theorem div_turn {n : Nat} {b r d : Int} {pre lq : List Int} (h : DivInv n b pre r lq) (hd : 0 ≤ d ∧ d < 2 ^ n) : DivInv n b (pre ++ [d]) ((r * 2 ^ n + d).fmod b) (lq ++ [(r * 2 ^ n + d).fdiv b]) := by
  obtain ⟨h1, h2, h3, h4, h5⟩ := h
  have hp : (0 : Int) < 2 ^ n := Int.pow_pos (by decide)
  have hb : 0 < b := by omega
  have hx : 0 ≤ r * 2 ^ n := Int.mul_nonneg h2 (Int.le_of_lt hp)
  have hx2 : (r + 1) * 2 ^ n ≤ b * 2 ^ n := Int.mul_le_mul_of_nonneg_right (by omega) (Int.le_of_lt hp)
  rw [Int.add_mul, Int.one_mul] at hx2
  have e := Int.mul_fdiv_add_fmod (r * 2 ^ n + d) b
  refine ⟨by simp [h1], Int.fmod_nonneg_of_pos _ hb, Int.fmod_lt_of_pos _ hb, fun q hq => ?_, ?_⟩
  · rcases List.mem_append.mp hq with hq | hq
    · exact h4 q hq
    · rw [List.mem_singleton.mp hq]
      rw [Int.fdiv_eq_ediv_of_nonneg _ (Int.le_of_lt hb)]
      refine ⟨Int.ediv_nonneg (by omega) (by omega), Int.ediv_lt_of_lt_mul hb ?_⟩
      rw [Int.mul_comm (2 ^ n) b]
      omega
  · rw [msb_snoc, msb_snoc, h5, Int.add_mul, Int.add_mul]
    have e2 : msb n lq * b * 2 ^ n = msb n lq * 2 ^ n * b := by rw [Int.mul_assoc, Int.mul_assoc, Int.mul_comm b]
    rw [e2, Int.mul_comm ((r * 2 ^ n + d).fdiv b) b]
    omega
theorem div_bound {n : Nat} {b r d : Int} {pre lq : List Int} (h : DivInv n b pre r lq) (hd : 0 ≤ d ∧ d < 2 ^ n) (hb : b ≤ 64) (hn : n ≤ 7) : 0 ≤ r * 2 ^ n + d ∧ r * 2 ^ n + d < 1048576 := by
  obtain ⟨h1, h2, h3, h4, h5⟩ := h
  have hp : (0 : Int) < 2 ^ n := Int.pow_pos (by decide)
  have hp2 : (2 : Int) ^ n ≤ 2 ^ 7 := by rw [← pow_cast, ← pow_cast]; exact Int.ofNat_le.mpr (Nat.pow_le_pow_right (by decide) hn)
  have hx : 0 ≤ r * 2 ^ n := Int.mul_nonneg h2 (Int.le_of_lt hp)
  have hx2 : r * 2 ^ n ≤ 64 * 2 ^ n := Int.mul_le_mul_of_nonneg_right (by omega) (Int.le_of_lt hp)
  omega
theorem div_end {n k a : Nat} {b r : Int} {lq : List Int} (h : DivInv n b (lsb n k a).reverse r lq) (ha : a < 2 ^ (k * n)) (hb : 0 < b) : worth n lq.reverse = (a : Int).fdiv b ∧ r = (a : Int).fmod b := by
  obtain ⟨h1, h2, h3, h4, h5⟩ := h
  rw [← worth_reverse, worth_lsb n k a ha] at h5
  rw [worth_reverse, List.reverse_reverse]
  have e := Int.mul_fdiv_add_fmod (a : Int) b
  have e1 := Int.fmod_nonneg_of_pos (a : Int) hb
  have e2 := Int.fmod_lt_of_pos (a : Int) hb
  have u : (a : Int).fdiv b = msb n lq := by
    rw [h5, Int.add_comm, Int.add_mul_fdiv_right _ _ (by omega)]
    rw [Int.fdiv_eq_ediv_of_nonneg _ (by omega), Int.ediv_eq_zero_of_lt h2 h3]
    omega
  refine ⟨u.symm, ?_⟩
  rw [u, Int.mul_comm] at e
  omega
theorem div_digit {n k a : Nat} {d : Int} (h : d ∈ (lsb n k a).reverse) : 0 ≤ d ∧ d < 2 ^ n := lsb_digit n k a d (List.mem_reverse.mp h)
theorem cnt_mul {x n : Nat} (hx : x < 1048576) (hn : 1 ≤ n) (hn2 : n ≤ 7) : cnt x n * n ≤ 63 := by
  have hb := intBits_small (x := (x : Int)) (by omega) (by omega)
  unfold cnt
  rw [Int.fdiv_eq_ediv_of_nonneg _ (by omega)]
  have e := Int.mul_ediv_add_emod (((Builtin.Int.intBits (x : Int) : Nat) : Int) + (n : Int) - 1) n
  have l := Int.emod_nonneg (((Builtin.Int.intBits (x : Int) : Nat) : Int) + (n : Int) - 1) (show (n : Int) ≠ 0 by omega)
  have p := Int.ediv_nonneg (show (0 : Int) ≤ ((Builtin.Int.intBits (x : Int) : Nat) : Int) + (n : Int) - 1 by omega) (show (0 : Int) ≤ n by omega)
  generalize (((Builtin.Int.intBits (x : Int) : Nat) : Int) + (n : Int) - 1) / (n : Int) = q at e l p ⊢
  obtain ⟨q, rfl⟩ := Int.eq_ofNat_of_zero_le p
  rw [Int.toNat_natCast]
  have e2 : (n : Int) * (q : Int) = ((q * n : Nat) : Int) := by push_cast; exact Int.mul_comm _ _
  rw [e2] at e
  omega
theorem bits_of {b : Nat} (h : 1 ≤ b) (h2 : b < 128) : 1 ≤ Builtin.Int.intBits (b : Int) ∧ Builtin.Int.intBits (b : Int) ≤ 7 := by
  unfold Builtin.Int.intBits
  rw [if_neg (by simp; omega)]
  have : ((b : Int)).natAbs.log2 < 7 := (Nat.log2_lt (by simp; omega)).mpr (by simpa using h2)
  omega
end Mine
end
-- G12
theorem Mine.atG12 : True ∧ True := by
  w_top off
  k_with_none
  k_with "the split" => first | (apply split_cons; walk_at "the split") | exact split_nil _
  k_with "the dis" => first | exact dis_kind (by k_asm) (by walk_at "the split") (by assumption) rfl | ((repeat' refine dis_cons ?_ ?_) <;> first | exact dis_nil | exact off_raw (by assumption) | exact off_lt (by assumption) (by omega) | exact Dis.get (by assumption) (by k_mem))
  k_with "w17" => (rw [PySem.sizeLine_eq, List.size_toArray]; omega)
  k_with "w18" => (k_here; (with_reducible show wpAny _ _ (call (Value.ref 72) _) _ _ _); k_dflt (refine div_spec (by k_asm) (by k_asm) (by k_asm) (by k_asm) (by k_asm) (by first | exact rfl | assumption) (by first | omega | (dsimp only [ktrTop, Around.deeper] at *; omega)) (by first | omega | (dsimp only [ktrTop, Around.deeper] at *; omega)) (by omega) (by omega) (by omega) ?_))
  k_with "w2" => ((try dsimp only); (try k_sweep); (try k_fold))
  k_with "w19" => (k_here; with_reducible refine nb_lshI (by omega) (by omega) ?_)
  k_with "w20" => (k_here; (with_reducible show wpAny _ _ (call (Value.ref 86) _) _ _ _); k_dflt (refine i2d_spec (by assumption) (by k_asm) (by k_asm) (by k_asm) (by k_asm) (by walk_at "the split") (by walk_at "the dis") (by k_asm) (by exact rfl) (by assumption) (by first | omega | (dsimp only [ktrTop, Around.deeper] at *; omega)) (by first | omega | (dsimp only [ktrTop, Around.deeper] at *; omega)) (by omega) (by omega) ?_))
  k_with "w21" => (k_here; (with_reducible show wpAny _ _ (call (Value.ref 93) _) _ _ _); k_dflt (refine d2i_spec (by assumption) (by k_asm) (by k_asm) (by k_asm) (by k_asm) (by walk_at "the split") (by walk_at "the dis") (by k_asm) (by exact rfl) (by assumption) (by first | omega | (dsimp only [ktrTop, Around.deeper] at *; omega)) (by first | omega | (dsimp only [ktrTop, Around.deeper] at *; omega)) (by k_mem) (by assumption) (by k_extra "digits") (by k_extra "digits") (by k_extra "digits") (by omega) ?_))
  first | (walk1; fail) | exact ⟨trivial, trivial⟩
section
open PySem PySem.W PySem.Spec PySem.Calls PyProof.Rows
set_option maxRecDepth 100000
set_option maxHeartbeats 8000000
namespace Mine
theorem fdiv_cast (a b : Nat) : ((a : Int)).fdiv (b : Int) = ((a / b : Nat) : Int) := by
  rw [Int.fdiv_eq_ediv_of_nonneg _ (Int.natCast_nonneg b)]; norm_cast
theorem fmod_cast (a b : Nat) : ((a : Int)).fmod (b : Int) = ((a % b : Nat) : Int) := by
  rw [Int.fmod_eq_emod_of_nonneg _ (Int.natCast_nonneg b)]; norm_cast
section
local macro_rules | `(tactic| size_fits) => `(tactic| k_extra "w17")
local macro_rules | `(tactic| walk_at "call ref") => `(tactic| (k_extra "w18"; intro lX tX uX kX h9 tk9 K9 F9 N9 A9; (try simp only [AllNe, and_true] at A9); k_extra "w2"))
local macro_rules | `(tactic| walk_at "binaryOp LShift int int") => `(tactic| k_extra "w19")
local macro_rules | `(tactic| walk_at "call ref") => `(tactic| k_dflt (k_extra "my call"))
local macro_rules | `(tactic| walk_at "my i2d") => `(tactic| (k_extra "w20"; intro l8 v8 k8 nw8 h8 tk8 I8 c8 TB8 F8 N8 D8 A8; (try simp only [List.cons_append, List.nil_append] at N8); (try simp only [AllNe, and_true] at A8); k_extra "w2"))
local macro_rules | `(tactic| walk_at "my d2i") => `(tactic| (k_extra "w21"; intro tq nw9 h9 tk9 TB9 F9 N9 D9; (try simp only [List.cons_append, List.nil_append] at N9); k_extra "w2"))
section
variable {w : World} {loose : List Str} {mean : ExcName → Option Value} {mg mb : Str → Option Value}
  {dp un : Nat} {gd : Option (List Code)} {cn : Str} {cs : Scope} {L a : Addr} {ccd : Value} {cl : List (Str × Addr)} {outer : List Env}
  {A₀ : Around} {bs h₀ : Heap} {m : Str → Option Value} {news : List (Addr × Obj)} {s : Shared} {Q E : Value → Shared → Prop}
variable {a₁ : Addr}
theorem dvp_spec {a b : Nat} {t1 t2 : Tok} {own nw : List (Addr × Obj)} (TB : Tabs nw)
    (B : Below A₀ bs outer h₀) (F : Fr h₀ L s.heap m) (X : (Mine.hd.heap_1 w.params).In h₀) (N : News h₀ L s.heap news) (hs : news = own ++ nw) (D : Dis own nw) (T : Top topProg loose mean mg mb h₀) (hk : cs.kind = .function)
    (C1 : CodeHd bs 85 81) (C2 : CodeHd bs 92 88) (hd : dp < 690) (hu : un < 6900) (ha : a < 1048576) (hb : 1 ≤ b ∧ b < 64)
    (ret : ∀ l t4 t5 k nw' h' tk', Tabs nw' → Fr h₀ L h' m → News h₀ L h' ((l, ({ cls := .type "tuple", data := .seq #[.int ((a : Int).fdiv (b : Int)) t4, .int ((a : Int).fmod (b : Int)) t5] k } : Obj)) :: (own ++ nw')) →
      Dis ((l, ({ cls := .type "tuple", data := .seq #[.int ((a : Int).fdiv (b : Int)) t4, .int ((a : Int).fmod (b : Int)) t5] k } : Obj)) :: own) nw' → AllNe l own → Q (.ref l) { s with heap := h', toks := tk' }) :
    wpAny (model PySem.Challenge.rw_wj0026_01.row.prog w) (ktrTop dp un gd cn cs L a₁ ccd cl outer) (call (.ref 100) [.int (a : Int) t1, .int (b : Int) t2]) Q E s := by
  k_with_none
  k_with "the split" => first | (apply split_cons; walk_at "the split") | exact split_nil _
  k_with "the dis" => first | exact dis_kind (by k_asm) (by walk_at "the split") (by assumption) rfl | ((repeat' refine dis_cons ?_ ?_) <;> first | exact dis_nil | exact off_raw (by assumption) | exact off_lt (by assumption) (by omega) | exact Dis.get (by assumption) (by k_mem))
  k_with "w17" => (rw [PySem.sizeLine_eq, List.size_toArray]; omega)
  k_with "w18" => (k_here; (with_reducible show wpAny _ _ (call (Value.ref 72) _) _ _ _); k_dflt (refine div_spec (by k_asm) (by k_asm) (by k_asm) (by k_asm) (by k_asm) (by first | exact rfl | assumption) (by first | omega | (dsimp only [ktrTop, Around.deeper] at *; omega)) (by first | omega | (dsimp only [ktrTop, Around.deeper] at *; omega)) (by omega) (by omega) (by omega) ?_))
  k_with "w2" => ((try dsimp only); (try k_sweep); (try k_fold))
  k_with "w19" => (k_here; with_reducible refine nb_lshI (by omega) (by omega) ?_)
  k_with "w20" => (k_here; (with_reducible show wpAny _ _ (call (Value.ref 86) _) _ _ _); k_dflt (refine i2d_spec (by assumption) (by k_asm) (by k_asm) (by k_asm) (by k_asm) (by walk_at "the split") (by walk_at "the dis") (by k_asm) (by exact rfl) (by assumption) (by first | omega | (dsimp only [ktrTop, Around.deeper] at *; omega)) (by first | omega | (dsimp only [ktrTop, Around.deeper] at *; omega)) (by omega) (by omega) ?_))
  k_with "w21" => (k_here; (with_reducible show wpAny _ _ (call (Value.ref 93) _) _ _ _); k_dflt (refine d2i_spec (by assumption) (by k_asm) (by k_asm) (by k_asm) (by k_asm) (by walk_at "the split") (by walk_at "the dis") (by k_asm) (by exact rfl) (by assumption) (by first | omega | (dsimp only [ktrTop, Around.deeper] at *; omega)) (by first | omega | (dsimp only [ktrTop, Around.deeper] at *; omega)) (by k_mem) (by assumption) (by k_extra "digits") (by k_extra "digits") (by k_extra "digits") (by omega) ?_))
  subst hs
  revert X; k_fill; intro X
  refine' enterA (binds := [(Str.ofString "a", Value.int (a : Int) t1), (Str.ofString "b", Value.int (b : Int) t2)]) (news := nw) B F X ?kN T hk ?k6 ?k7 ?k8 ?k9 ?kB ?c2 ?c3 ?c4 ?c5 ?_
  case kN => exact fun p hp => N p (List.mem_append_right _ hp)
  case k6 => k_is
  case k7 => k_is
  case k8 => (show dp < 1000; omega)
  case k9 => exact BindsTo.of_eq rfl
  case kB => exact locs rfl
  case c2 => exact rfl
  case c3 => exact rfl
  case c4 => exact rfl
  case c5 => decide
  intro g L' h₁ hg F' N' lt' B' X' T'
  refine shut fun Qf sg sd so tk₀ hQ hQ0 => ?_
  replace lt' := allLt_all lt'
  replace ret := fun l t4 t5 k nw' h' tk' {Ln : Addr} {mn : Str → Option Value} {nx : List (Addr × Obj)} (hT' : Tabs nw') (Fn : Fr g Ln h' mn) (Nn : News g Ln h' nx) (hm : (l, ({ cls := .type "tuple", data := .seq #[.int ((a : Int).fdiv (b : Int)) t4, .int ((a : Int).fmod (b : Int)) t5] k } : Obj)) ∈ nx) (hsb : ∀ q ∈ nw', q ∈ nx) (Dn : Off l nw') =>
    (tab_back F N D hg Fn (add := [(l, ({ cls := .type "tuple", data := .seq #[.int ((a : Int).fdiv (b : Int)) t4, .int ((a : Int).fmod (b : Int)) t5] k } : Obj))]) (fun p hp => Nn p ((List.mem_append.mp hp).elim (fun h => (List.mem_singleton.mp h) ▸ hm) (hsb p))) (dis_cons Dn dis_nil)).elim fun a1 a2 => hQ _ _ _ (ret l t4 t5 k nw' h' tk' hT' a1 a2.1 a2.2.1 (a2.2.2 _ (.head _)))
  clear hg B F X N T D
  (try dsimp only)
  (try k_fold)
  have hbits := bits_of hb.1 (show b < 128 by omega)
  k_with "my call" => walk_at "my i2d"
  iterate 4 (iterate 10 (first | (k_unfold; (try dsimp only)) | (k_end; wrow_close) | walk1 | (dsimp only; walk1) | (leave1; try dsimp only)))
  iterate 3 (first | (k_unfold; (try dsimp only)) | (k_end; wrow_close) | walk1 | (dsimp only; walk1) | (leave1; try dsimp only))
  (rename Fr _ _ _ _ => lF)
  (rename News _ _ _ _ => lN)
  rename_i l8 v8 k8 nw8 h8 tk8 I8 c8 TB8 D8 A8 ha' tka hb' l' hc' l1a hd' D' he' l1b
  generalize hn : Builtin.Int.intBits (b : Int) = n at *
  have hdig := fun d (hm : d ∈ (lsb n (cnt a n) a).reverse) => div_digit hm
  refine kst_rev (σ := Int × Tok × List Value × List Int × Nat) (l := l8) (nn := k8) (fun c => (l', listOf c.2.2.1.toArray c.2.2.2.2) :: (l8, listOf v8.toArray k8) :: nw8) (fun c => [(Str.ofString "r", Value.int c.1 c.2.1)]) (fun c => IntsAre c.2.2.1 c.2.2.2.1) [Str.ofString "q_digit"]
    (fun pre c => DivInv n b pre c.1 c.2.2.2.1) (0, tka, [], [], 0) rfl (fun c => List.Mem.tail _ (List.Mem.head _)) I8 lF lN ?_ .nil ?_ (div_start (by omega)) ?_ ?_
  · intro p hp
    rcases List.mem_cons.mp hp with rfl | hp
    · exact Nat.ne_of_lt l1b.1
    · rcases List.mem_cons.mp hp with rfl | hp
      · exact Nat.ne_of_lt l1b.2.1
      · exact Nat.ne_of_lt (allLt_mem l1b.2.2 p hp)
  · exact List.forall_mem_cons.mpr ⟨rfl, fun _ h => nomatch h⟩
  · rintro ⟨r, tr, vq, lq, kq⟩ pre post d td u h tk own kEq kMem kOff kFacts kInv kFr kNews
    have kMark := kstMark
    clear lF lN
    (try dsimp only [kstB] at kFr)
    (try dsimp only at kNews kFacts kInv)
    (try simp only [List.nil_append, List.cons_append, List.append_nil] at kNews)
    (try dsimp only at kOff); (try simp only [List.map_cons, List.map_nil] at kOff)
    (try k_fold)
    have hd := hdig d kMem
    k_with "state" => exact div_turn (by assumption) (by assumption)
    obtain ⟨q1, q2, q3, q4, q5⟩ := id kInv
    have hlen := congrArg List.length kEq
    rw [List.length_reverse, lsb_length, List.length_append, List.length_cons] at hlen
    have hlq := kFacts.length
    obtain ⟨l1c, l1d⟩ := id l1a
    have hvq : vq.length ≤ 20 := by omega
    have hbd := div_bound kInv hd (by omega) (by omega)
    k_steps
  · rintro ⟨r, tr, vq, lq, kq⟩ u h tk kFacts kInv kFr kNews
    have kMark := kstMark
    clear lF lN
    (try dsimp only [kstB] at kFr)
    (try dsimp only at kNews kFacts kInv)
    (try k_fold)
    obtain ⟨e1, e2⟩ := div_end kInv (cnt_room (by omega)) (by omega)
    obtain ⟨q1, q2, q3, q4, q5⟩ := id kInv
    have hlq := kFacts.length
    rw [List.length_reverse, lsb_length] at q1
    obtain ⟨l1c, l1d⟩ := id l1a
    have hvq : vq.length ≤ 20 := by omega
    k_with "call builtin:list.reverse" => (k_dflt (refine' kl_reverse (l := vq.reverse) (its := vq.toArray) (n := kq) ?F ?N ?e ?U ?z ?_; (case F => k_asm); (case N => k_asm); (case U => k_upd); (case e => rfl); (case z => (rw [PySem.sizeLine_eq]; (show vq.length ≤ _); omega)); k_whole); intro hr Fr' Nr'; have kRev := kFacts.reverse; (try k_sweep))
    k_with "my call" => walk_at "my d2i"
    k_with "digits" => exact fun d h => q4 d (List.mem_reverse.mp h)
    k_with "digits" => (rw [List.length_reverse]; omega)
    k_with "digits" => (rw [List.length_reverse, q1]; exact cnt_mul ha (by omega) (by omega))
    k_steps
    · (rename News _ _ _ _ => N1)
      rw [e1, e2] at N1
      (rename _ < _ ∧ _ < _ ∧ AllLt _ _ => l9)
      exact ret _ _ _ _ _ _ _ (by assumption) (by k_asm) N1 (List.Mem.head _) (fun q hq => by simp only [List.mem_cons]; simp [hq]) (off_lt l9.2.2 (Nat.le_refl _))
end
end
end Mine
end
-- G13
theorem Mine.atG13 : True ∧ True := by
  w_top off
  k_with_none
  k_with "the split" => first | (apply split_cons; walk_at "the split") | exact split_nil _
  k_with "the dis" => first | exact dis_kind (by k_asm) (by walk_at "the split") (by assumption) rfl | ((repeat' refine dis_cons ?_ ?_) <;> first | exact dis_nil | exact off_raw (by assumption) | exact off_lt (by assumption) (by omega) | exact Dis.get (by assumption) (by k_mem))
  k_with "w22" => (k_here; (with_reducible show wpAny _ _ (call (Value.ref 100) _) _ _ _); k_dflt (refine dvp_spec (by assumption) (by k_asm) (by k_asm) (by k_asm) (by k_asm) (by walk_at "the split") (by walk_at "the dis") (by k_asm) (by first | exact rfl | assumption) (by assumption) (by assumption) (by first | omega | (dsimp only [ktrTop, Around.deeper] at *; omega)) (by first | omega | (dsimp only [ktrTop, Around.deeper] at *; omega)) (by omega) (by omega) ?_))
  k_with "w2" => ((try dsimp only); (try k_sweep); (try k_fold))
  first | (walk1; fail) | exact ⟨trivial, trivial⟩
section
open PySem PySem.W PySem.Spec PySem.Calls PyProof.Rows
set_option maxRecDepth 100000
set_option maxHeartbeats 8000000
namespace Mine
abbrev dmT (a b : Nat) (t4 t5 : Tok) (k : Nat) : Obj := { cls := .type "tuple", data := .seq #[.int ((a : Int).fdiv (b : Int)) t4, .int ((a : Int).fmod (b : Int)) t5] k }
section
local macro_rules | `(tactic| walk_at "my dvp") => `(tactic| (k_extra "w22"; intro l8 t8 u8 k8 nw8 h8 tk8 TB8 F8 N8 D8 A8; (try simp only [List.cons_append, List.nil_append] at N8); (try simp only [AllNe, and_true] at A8); k_extra "w2"))
local macro_rules | `(tactic| walk_at "call ref") => `(tactic| k_dflt (k_extra "my call"))
section
variable {w : World} {loose : List Str} {mean : ExcName → Option Value} {mg mb : Str → Option Value}
  {dp un : Nat} {gd : Option (List Code)} {cn : Str} {cs : Scope} {L a : Addr} {ccd : Value} {cl : List (Str × Addr)} {outer : List Env}
  {A₀ : Around} {bs h₀ : Heap} {m : Str → Option Value} {news : List (Addr × Obj)} {s : Shared} {Q E : Value → Shared → Prop}
variable {a₁ : Addr}
theorem idm_spec {a b : Nat} {t1 t2 : Tok} {own nw : List (Addr × Obj)} (TB : Tabs nw)
    (B : Below A₀ bs outer h₀) (F : Fr h₀ L s.heap m) (X : (Mine.hd.heap_1 w.params).In h₀) (N : News h₀ L s.heap news) (hs : news = own ++ nw) (D : Dis own nw) (T : Top topProg loose mean mg mb h₀) (hk : cs.kind = .function)
    (C1 : CodeHd bs 85 81) (C2 : CodeHd bs 92 88) (hd : dp < 680) (hu : un < 6800) (ha : a < 1048576) (hb : 1 ≤ b ∧ b < 64)
    (ret : ∀ l t4 t5 k nw' h' tk', Tabs nw' → Fr h₀ L h' m → News h₀ L h' ((l, dmT a b t4 t5 k) :: (own ++ nw')) → Dis ((l, dmT a b t4 t5 k) :: own) nw' → AllNe l own → Q (.ref l) { s with heap := h', toks := tk' }) :
    wpAny (model PySem.Challenge.rw_wj0026_01.row.prog w) (ktrTop dp un gd cn cs L a₁ ccd cl outer) (call (.ref 107) [.int (a : Int) t1, .int (b : Int) t2]) Q E s := by
  k_with_none
  k_with "the split" => first | (apply split_cons; walk_at "the split") | exact split_nil _
  k_with "the dis" => first | exact dis_kind (by k_asm) (by walk_at "the split") (by assumption) rfl | ((repeat' refine dis_cons ?_ ?_) <;> first | exact dis_nil | exact off_raw (by assumption) | exact off_lt (by assumption) (by omega) | exact Dis.get (by assumption) (by k_mem))
  k_with "w22" => (k_here; (with_reducible show wpAny _ _ (call (Value.ref 100) _) _ _ _); k_dflt (refine dvp_spec (by assumption) (by k_asm) (by k_asm) (by k_asm) (by k_asm) (by walk_at "the split") (by walk_at "the dis") (by k_asm) (by first | exact rfl | assumption) (by assumption) (by assumption) (by first | omega | (dsimp only [ktrTop, Around.deeper] at *; omega)) (by first | omega | (dsimp only [ktrTop, Around.deeper] at *; omega)) (by omega) (by omega) ?_))
  k_with "w2" => ((try dsimp only); (try k_sweep); (try k_fold))
  subst hs
  revert X; k_fill; intro X
  refine' enterA (binds := [(Str.ofString "a", Value.int (a : Int) t1), (Str.ofString "b", Value.int (b : Int) t2)]) (news := nw) B F X ?kN T hk ?k6 ?k7 ?k8 ?k9 ?kB ?c2 ?c3 ?c4 ?c5 ?_
  case kN => exact fun p hp => N p (List.mem_append_right _ hp)
  case k6 => k_is
  case k7 => k_is
  case k8 => (show dp < 1000; omega)
  case k9 => exact BindsTo.of_eq rfl
  case kB => exact locs rfl
  case c2 => exact rfl
  case c3 => exact rfl
  case c4 => exact rfl
  case c5 => decide
  intro g L' h₁ hg F' N' lt' B' X' T'
  refine shut fun Qf sg sd so tk₀ hQ hQ0 => ?_
  replace lt' := allLt_all lt'
  replace ret := fun l t4 t5 k nw' h' tk' {Ln : Addr} {mn : Str → Option Value} {nx : List (Addr × Obj)} (hT' : Tabs nw') (Fn : Fr g Ln h' mn) (Nn : News g Ln h' nx) (hm : (l, dmT a b t4 t5 k) ∈ nx) (hsb : ∀ q ∈ nw', q ∈ nx) (Dn : Off l nw') =>
    (tab_back F N D hg Fn (add := [(l, dmT a b t4 t5 k)]) (fun p hp => Nn p ((List.mem_append.mp hp).elim (fun h => (List.mem_singleton.mp h) ▸ hm) (hsb p))) (dis_cons Dn dis_nil)).elim fun a1 a2 => hQ _ _ _ (ret l t4 t5 k nw' h' tk' hT' a1 a2.1 a2.2.1 (a2.2.2 _ (.head _)))
  clear hg B F X N T D
  (try dsimp only)
  (try k_fold)
  k_with "my call" => walk_at "my dvp"
  have hbI : (1 : Int) ≤ (b : Int) := by omega
  have hb0 : ((b : Int) == 0) = false := by rw [beq_eq_false_iff_ne]; omega
  have haI : (0 : Int) ≤ (a : Int) := by omega
  k_steps
  · (rename News _ _ _ _ => N1)
    (rename Dis _ _ => D1)
    exact ret _ _ _ _ _ _ _ (by assumption) (by k_asm) N1 (List.Mem.head _) (fun q hq => by simp [hq]) (Dis.get D1 (.head _))
end
end
end Mine
end
-- G14
theorem Mine.atG14 : True ∧ True := by
  w_top off
  k_with_none
  first | (walk1; fail) | exact ⟨trivial, trivial⟩
section
open PySem PySem.W PySem.Spec PySem.Calls PyProof.Rows
set_option maxRecDepth 100000
set_option maxHeartbeats 8000000
namespace Mine
section
variable {w : World} {loose : List Str} {mean : ExcName → Option Value} {mg mb : Str → Option Value}
  {dp un : Nat} {gd : Option (List Code)} {cn : Str} {cs : Scope} {L a : Addr} {ccd : Value} {cl : List (Str × Addr)} {outer : List Env}
  {A₀ : Around} {bs h₀ : Heap} {m : Str → Option Value} {news : List (Addr × Obj)} {s : Shared} {Q E : Value → Shared → Prop}
theorem mul_spec {x y : Int} {t1 t2 : Tok}
    (B : Below A₀ bs outer h₀) (F : Fr h₀ L s.heap m) (X : (Mine.hd.heap_1 w.params).In h₀) (N : News h₀ L s.heap news) (T : Top topProg loose mean mg mb h₀) (hk : cs.kind = .function)
    (hd : dp < 800) (hu : un < 8000) (hx : 0 ≤ x ∧ x < 4096) (hy : 0 ≤ y ∧ y < 4096)
    (ret : ∀ t h' tk', Keeps s.heap h' → Fr h₀ L h' m → News h₀ L h' news → Q (.int (x * y) t) { s with heap := h', toks := tk' }) :
    wpAny (model PySem.Challenge.rw_wj0026_01.row.prog w) (ktrTop dp un gd cn cs L a ccd cl outer) (call (.ref 114) [.int x t1, .int y t2]) Q E s := by
  k_with_none
  revert X; k_fill; intro X
  refine' enterA (binds := [(Str.ofString "a", .int x t1), (Str.ofString "b", .int y t2)]) B F X News.nil T hk ?k6 ?k7 ?k8 ?k9 ?kB ?c2 ?c3 ?c4 ?c5 ?_
  case k6 => k_is
  case k7 => k_is
  case k8 => (show dp < 1000; omega)
  case k9 => exact BindsTo.of_eq rfl
  case kB => exact locs rfl
  case c2 => exact rfl
  case c3 => exact rfl
  case c4 => exact rfl
  case c5 => decide
  intro g L' h₁ hg F' N' lt' B' X' T'
  refine shut fun Qf sg sd so tk₀ hQ hQ0 => ?_
  have KP : Keeps s.heap g := keeps_hide0 hg
  replace hg : g = s.heap := hg
  replace ret := fun t h' tk' (kq9 : Keeps s.heap h') => hQ _ _ _ (ret t h' tk' kq9 (fr_back F kq9) (news_back N kq9))
  clear hg B F X N T
  try dsimp only
  (try k_fold)
  k_steps
  · exact ret _ _ _ (keeps_fr KP (by assumption))
end
section
variable {w : World} {loose : List Str} {mean : ExcName → Option Value} {mg mb : Str → Option Value}
  {dp un : Nat} {gd : Option (List Code)} {cn : Str} {cs : Scope} {L a : Addr} {ccd : Value} {cl : List (Str × Addr)} {outer : List Env}
  {A₀ : Around} {bs h₀ : Heap} {m : Str → Option Value} {news : List (Addr × Obj)} {s : Shared} {Q E : Value → Shared → Prop}
theorem sub_spec {x y : Int} {t1 t2 : Tok}
    (B : Below A₀ bs outer h₀) (F : Fr h₀ L s.heap m) (X : (Mine.hd.heap_1 w.params).In h₀) (N : News h₀ L s.heap news) (T : Top topProg loose mean mg mb h₀) (hk : cs.kind = .function)
    (hd : dp < 800) (hu : un < 8000) 
    (ret : ∀ t h' tk', Keeps s.heap h' → Fr h₀ L h' m → News h₀ L h' news → Q (.int (x - y) t) { s with heap := h', toks := tk' }) :
    wpAny (model PySem.Challenge.rw_wj0026_01.row.prog w) (ktrTop dp un gd cn cs L a ccd cl outer) (call (.ref 121) [.int x t1, .int y t2]) Q E s := by
  k_with_none
  revert X; k_fill; intro X
  refine' enterA (binds := [(Str.ofString "a", .int x t1), (Str.ofString "b", .int y t2)]) B F X News.nil T hk ?k6 ?k7 ?k8 ?k9 ?kB ?c2 ?c3 ?c4 ?c5 ?_
  case k6 => k_is
  case k7 => k_is
  case k8 => (show dp < 1000; omega)
  case k9 => exact BindsTo.of_eq rfl
  case kB => exact locs rfl
  case c2 => exact rfl
  case c3 => exact rfl
  case c4 => exact rfl
  case c5 => decide
  intro g L' h₁ hg F' N' lt' B' X' T'
  refine shut fun Qf sg sd so tk₀ hQ hQ0 => ?_
  have KP : Keeps s.heap g := keeps_hide0 hg
  replace hg : g = s.heap := hg
  replace ret := fun t h' tk' (kq9 : Keeps s.heap h') => hQ _ _ _ (ret t h' tk' kq9 (fr_back F kq9) (news_back N kq9))
  clear hg B F X N T
  try dsimp only
  (try k_fold)
  k_steps
  · exact ret _ _ _ (keeps_fr KP (by assumption))
end
end Mine
end
-- PW
theorem Mine.atPW : True ∧ True := by
  w_top off
  k_with_none
  first | (walk1; fail) | exact ⟨trivial, trivial⟩
section
open PySem PySem.W PySem.Spec PySem.Calls PyProof.Rows
set_option maxRecDepth 100000
namespace Mine
/-- what the loop of _law_power has reached behind these figures, the highest first -/
def powL (base number : Nat) (pre : List Int) : Nat := pre.foldl (fun r d => if d = 0 then r * r % number else (r * r % number) * base % number) 1
theorem powL_snoc (base number : Nat) (pre : List Int) (d : Int) : powL base number (pre ++ [d]) = if d = 0 then powL base number pre * powL base number pre % number else (powL base number pre * powL base number pre % number) * base % number := by
  unfold powL; rw [List.foldl_append]; rfl
theorem powL_lsb (base number : Nat) (hn : 2 ≤ number) : ∀ k e, e < 2 ^ (k * 1) → powL base number (lsb 1 k e).reverse = base ^ e % number
  | 0, e, h => by
    have : e = 0 := by simpa using h
    subst this
    show 1 = 1 % number
    rw [Nat.mod_eq_of_lt (by omega)]
  | k + 1, e, h => by
    have h2 : e / 2 ^ 1 < 2 ^ (k * 1) := by
      rw [Nat.div_lt_iff_lt_mul (by decide), ← Nat.pow_add, ← Nat.succ_mul]; exact h
    rw [lsb, List.reverse_cons, powL_snoc, powL_lsb base number hn k _ h2]
    have em : base ^ (e / 2 ^ 1) % number * (base ^ (e / 2 ^ 1) % number) % number = base ^ (2 * (e / 2)) % number := by
      rw [← Nat.mul_mod, ← Nat.pow_add, Nat.two_mul, Nat.pow_one]
    rw [em]
    have hd := Nat.div_add_mod e 2
    rcases Nat.mod_two_eq_zero_or_one e with q | q
    · rw [Nat.pow_one, q, if_pos (by rfl)]
      rw [show 2 * (e / 2) = e by omega]
    · rw [Nat.pow_one, q, if_neg (by decide)]
      conv => rhs; rw [← hd, q, Nat.pow_succ]
      rw [Nat.mul_mod, Nat.mod_mod, ← Nat.mul_mod]
theorem powL_lt {base number : Nat} {pre : List Int} (hn : 2 ≤ number) : powL base number pre < number := by
  rcases List.eq_nil_or_concat pre with rfl | ⟨l, d, rfl⟩
  · show 1 < number; omega
  · rw [List.concat_eq_append, powL_snoc]
    split <;> exact Nat.mod_lt _ (by omega)
abbrev PowW (base number : Nat) (pre : List Int) (r : Int) : Prop := 0 ≤ r ∧ r < number ∧ r = (powL base number pre : Int)
theorem pow_start {base number : Nat} (hn : 2 ≤ number) : PowW base number [] 1 := ⟨by omega, by omega, rfl⟩
theorem pow_even {base number : Nat} {pre : List Int} {r d : Int} (hn : 2 ≤ number) (h : r = (powL base number pre : Int)) (hd : d = 0) : PowW base number (pre ++ [d]) ((r * r).fmod number) := by
  have e : (r * r).fmod number = (powL base number (pre ++ [d]) : Int) := by
    rw [powL_snoc, if_pos hd, h, Int.fmod_eq_emod_of_nonneg _ (Int.natCast_nonneg _)]
    norm_cast
  have := powL_lt (base := base) (pre := pre ++ [d]) hn
  exact ⟨by omega, by omega, e⟩
theorem pow_odd {base number : Nat} {pre : List Int} {r d : Int} (hn : 2 ≤ number) (h : r = (powL base number pre : Int)) (hd : d ≠ 0) : PowW base number (pre ++ [d]) (((r * r).fmod number * base).fmod number) := by
  have e : ((r * r).fmod number * base).fmod number = (powL base number (pre ++ [d]) : Int) := by
    rw [powL_snoc, if_neg hd, h, Int.fmod_eq_emod_of_nonneg _ (Int.natCast_nonneg _), Int.fmod_eq_emod_of_nonneg _ (Int.natCast_nonneg _)]
    norm_cast
  have := powL_lt (base := base) (pre := pre ++ [d]) hn
  exact ⟨by omega, by omega, e⟩
theorem sq_small {r : Int} {number : Nat} (h0 : 0 ≤ r) (h : r < number) (hn : number < 128) : 0 ≤ r * r ∧ r * r < 1048576 := by
  have h1 : 0 ≤ r * r := Int.mul_nonneg h0 h0
  have h2 : r * r ≤ 128 * r := Int.mul_le_mul_of_nonneg_right (by omega) h0
  omega
theorem mod_small {x : Int} {number : Nat} (hn : 2 ≤ number) : 0 ≤ x.fmod number ∧ x.fmod number < number := ⟨Int.fmod_nonneg_of_pos _ (by omega), Int.fmod_lt_of_pos _ (by omega)⟩
theorem pr_small {r : Int} {number base : Nat} (h0 : 0 ≤ r) (h : r < number) (hn : number < 128) (hb : base < 128) : 0 ≤ r * base ∧ r * base < 1048576 := by
  have h1 : 0 ≤ r * base := Int.mul_nonneg h0 (by omega)
  have h2 : r * base ≤ 128 * base := Int.mul_le_mul_of_nonneg_right (by omega) (by omega)
  omega
end Mine
end
-- G15
theorem Mine.atG15 : True ∧ True := by
  w_top off
  k_with_none
  k_with "the split" => first | (apply split_cons; walk_at "the split") | exact split_nil _
  k_with "the dis" => first | exact dis_kind (by k_asm) (by walk_at "the split") (by assumption) rfl | ((repeat' refine dis_cons ?_ ?_) <;> first | exact dis_nil | exact off_raw (by assumption) | exact off_lt (by assumption) (by omega) | exact Dis.get (by assumption) (by k_mem))
  k_with "w23" => (k_here; (with_reducible show wpAny _ _ (call (Value.ref 114) _) _ _ _); k_dflt (refine mul_spec (by k_asm) (by k_asm) (by k_asm) (by k_asm) (by k_asm) (by first | exact rfl | assumption) (by first | omega | (dsimp only [ktrTop, Around.deeper] at *; omega)) (by first | omega | (dsimp only [ktrTop, Around.deeper] at *; omega)) (by first | omega | (k_extra "mbound")) (by omega) ?_))
  k_with "w2" => ((try dsimp only); (try k_sweep); (try k_fold))
  k_with "w24" => (k_here; (with_reducible show wpAny _ _ (call (Value.ref 72) _) _ _ _); k_dflt (refine div_spec (by k_asm) (by k_asm) (by k_asm) (by k_asm) (by k_asm) (by first | exact rfl | assumption) (by first | omega | (dsimp only [ktrTop, Around.deeper] at *; omega)) (by first | omega | (dsimp only [ktrTop, Around.deeper] at *; omega)) (by (k_extra "xbound")) (by omega) (by omega) ?_))
  k_with "w25" => (k_here; (with_reducible show wpAny _ _ (call (Value.ref 86) _) _ _ _); k_dflt (refine i2d_spec (n := 1) (by assumption) (by k_asm) (by k_asm) (by k_asm) (by k_asm) (by walk_at "the split") (by walk_at "the dis") (by k_asm) (by first | exact rfl | assumption) (by assumption) (by first | omega | (dsimp only [ktrTop, Around.deeper] at *; omega)) (by first | omega | (dsimp only [ktrTop, Around.deeper] at *; omega)) (by omega) (by exact ⟨Nat.le_refl 1, by decide⟩) ?_))
  k_with "w26" => (k_here; (with_reducible show wpAny _ _ (subscriptTail _ (PySem.Expr.Slice none none (some _) _) (Value.ref _) (Value.ref _)) _ _ _); k_dflt (refine rev_slice (by k_asm) (by k_asm) (by kmk_list) (by exact IsPart.int _ _) (by l_ints) ?_ (by with_unfolding_all rfl) (by kmk_pure) (by omega)))
  first | (walk1; fail) | exact ⟨trivial, trivial⟩
section
open PySem PySem.W PySem.Spec PySem.Calls PyProof.Rows
set_option maxRecDepth 100000
set_option maxHeartbeats 8000000
namespace Mine
section
variable {prog : Program} {w : World} {A : Around} {E : Value → Shared → Prop} {h h₀ : Heap} {L l : Addr} {m : Str → Option Value} {news : List (Addr × Obj)} {value slice : PySem.Expr} {vs : List Value} {ns : List Int} {vk : Value} {ops : List Value} {Q : Value → Shared → Prop}
  {tk : Nat}
theorem rev_slice {sg sd so} (F : Fr h₀ L h m) (N : News h₀ L h news) (hl : h.IsList l vs.toArray) (pk : IsPart vk (some (-1))) (hi : IntsAre vs ns)
    (k : ∀ D ws h', Fr h₀ L h' m → News h₀ L h' ((D, listOf (List.toArray ws) 0) :: news) → (∀ p ∈ news, p.1 < D) → IntsAre ws ns.reverse → Q (.ref D) (⟨h', sg, sd, tk, so⟩ : Shared))
    (hs : subscripted slice false (.ref l) (.ref h.objs.size) = operate ops (getItem (.ref l) (.ref h.objs.size))) (ht : ∀ r, letTemporaryGo value (.ref l) r = pure ()) (hz : vs.length ≤ 1000) :
    wpAny (model prog w) A (subscriptTail value slice (.ref l) (.ref h.objs.size)) Q E (⟨h.push { cls := .type "slice", data := .fields #[.none, .none, vk] }, sg, sd, tk, so⟩ : Shared) :=
  krv_ints (s := (⟨h, sg, sd, tk, so⟩ : Shared)) F N hl pk hi (fun D ws h' F' N' l1 I' _ => k D ws h' F' N' l1 I') hs ht (by rw [sizeLine_eq, List.size_toArray]; omega)
end
section
local macro_rules | `(tactic| walk_at "call ref") => `(tactic| (k_extra "w23"; intro tX h9 tk9 K9 F9 N9; k_extra "w2"))
local macro_rules | `(tactic| walk_at "call ref") => `(tactic| (k_extra "w24"; intro lX tX uX kX h9 tk9 K9 F9 N9 A9; (try simp only [AllNe, and_true] at A9); k_extra "w2"))
local macro_rules | `(tactic| walk_at "my i2d") => `(tactic| (k_extra "w25"; intro l8 v8 k8 nw8 h8 tk8 I8 c8 TB8 F8 N8 D8 A8; (try simp only [List.cons_append, List.nil_append] at N8); (try simp only [AllNe, and_true] at A8); k_extra "w2"))
local macro_rules | `(tactic| walk_at "subscriptTail Name Slice ref ref") => `(tactic| (k_extra "w26"; intro D' ws' h' F' N' l1 hI'; (try k_lt l1); (try k_sweep)))
local macro_rules | `(tactic| walk_at "call ref") => `(tactic| k_dflt (k_extra "my call"))
section
variable {w : World} {loose : List Str} {mean : ExcName → Option Value} {mg mb : Str → Option Value}
  {dp un : Nat} {gd : Option (List Code)} {cn : Str} {cs : Scope} {L a : Addr} {ccd : Value} {cl : List (Str × Addr)} {outer : List Env}
  {A₀ : Around} {bs h₀ : Heap} {m : Str → Option Value} {news : List (Addr × Obj)} {s : Shared} {Q E : Value → Shared → Prop}
variable {a₁ : Addr}
theorem pow_spec {base exponent number : Nat} {t1 t2 t3 : Tok} {own nw : List (Addr × Obj)} (TB : Tabs nw)
    (B : Below A₀ bs outer h₀) (F : Fr h₀ L s.heap m) (X : (Mine.hd.heap_1 w.params).In h₀) (N : News h₀ L s.heap news) (hs : news = own ++ nw) (D : Dis own nw) (T : Top topProg loose mean mg mb h₀) (hk : cs.kind = .function)
    (C1 : CodeHd bs 85 81) (hd : dp < 680) (hu : un < 6800) (hb : base < 64) (he : exponent < 1048576) (hn : 2 ≤ number ∧ number < 64)
    (ret : ∀ t nw' h' tk', Tabs nw' → Fr h₀ L h' m → News h₀ L h' (own ++ nw') → Dis own nw' → Q (.int ((base ^ exponent % number : Nat) : Int) t) { s with heap := h', toks := tk' }) :
    wpAny (model PySem.Challenge.rw_wj0026_01.row.prog w) (ktrTop dp un gd cn cs L a₁ ccd cl outer) (call (.ref 166) [.int (base : Int) t1, .int (exponent : Int) t2, .int (number : Int) t3]) Q E s := by
  k_with_none
  k_with "the split" => first | (apply split_cons; walk_at "the split") | exact split_nil _
  k_with "the dis" => first | exact dis_kind (by k_asm) (by walk_at "the split") (by assumption) rfl | ((repeat' refine dis_cons ?_ ?_) <;> first | exact dis_nil | exact off_raw (by assumption) | exact off_lt (by assumption) (by omega) | exact Dis.get (by assumption) (by k_mem))
  k_with "w23" => (k_here; (with_reducible show wpAny _ _ (call (Value.ref 114) _) _ _ _); k_dflt (refine mul_spec (by k_asm) (by k_asm) (by k_asm) (by k_asm) (by k_asm) (by first | exact rfl | assumption) (by first | omega | (dsimp only [ktrTop, Around.deeper] at *; omega)) (by first | omega | (dsimp only [ktrTop, Around.deeper] at *; omega)) (by first | omega | (k_extra "mbound")) (by omega) ?_))
  k_with "w2" => ((try dsimp only); (try k_sweep); (try k_fold))
  k_with "w24" => (k_here; (with_reducible show wpAny _ _ (call (Value.ref 72) _) _ _ _); k_dflt (refine div_spec (by k_asm) (by k_asm) (by k_asm) (by k_asm) (by k_asm) (by first | exact rfl | assumption) (by first | omega | (dsimp only [ktrTop, Around.deeper] at *; omega)) (by first | omega | (dsimp only [ktrTop, Around.deeper] at *; omega)) (by (k_extra "xbound")) (by omega) (by omega) ?_))
  k_with "w25" => (k_here; (with_reducible show wpAny _ _ (call (Value.ref 86) _) _ _ _); k_dflt (refine i2d_spec (n := 1) (by assumption) (by k_asm) (by k_asm) (by k_asm) (by k_asm) (by walk_at "the split") (by walk_at "the dis") (by k_asm) (by first | exact rfl | assumption) (by assumption) (by first | omega | (dsimp only [ktrTop, Around.deeper] at *; omega)) (by first | omega | (dsimp only [ktrTop, Around.deeper] at *; omega)) (by omega) (by exact ⟨Nat.le_refl 1, by decide⟩) ?_))
  k_with "w26" => (k_here; (with_reducible show wpAny _ _ (subscriptTail _ (PySem.Expr.Slice none none (some _) _) (Value.ref _) (Value.ref _)) _ _ _); k_dflt (refine rev_slice (by k_asm) (by k_asm) (by kmk_list) (by exact IsPart.int _ _) (by l_ints) ?_ (by with_unfolding_all rfl) (by kmk_pure) (by omega)))
  subst hs
  revert X; k_fill; intro X
  refine' enterA (binds := [(Str.ofString "base", Value.int (base : Int) t1), (Str.ofString "exponent", Value.int (exponent : Int) t2), (Str.ofString "number", Value.int (number : Int) t3)]) (news := nw) B F X ?kN T hk ?k6 ?k7 ?k8 ?k9 ?kB ?c2 ?c3 ?c4 ?c5 ?_
  case kN => exact fun p hp => N p (List.mem_append_right _ hp)
  case k6 => k_is
  case k7 => k_is
  case k8 => (show dp < 1000; omega)
  case k9 => exact BindsTo.of_eq rfl
  case kB => exact locs rfl
  case c2 => exact rfl
  case c3 => exact rfl
  case c4 => exact rfl
  case c5 => decide
  intro g L' h₁ hg F' N' lt' B' X' T'
  refine shut fun Qf sg sd so tk₀ hQ hQ0 => ?_
  replace lt' := allLt_all lt'
  replace ret := fun t nw' h' tk' {Ln : Addr} {mn : Str → Option Value} {nx : List (Addr × Obj)} (hT' : Tabs nw') (Fn : Fr g Ln h' mn) (Nn : News g Ln h' nx) (hsb : ∀ q ∈ nw', q ∈ nx) =>
    (tab_back F N D hg Fn (add := []) (fun p hp => Nn p (hsb p hp)) dis_nil).elim fun a1 a2 => hQ _ _ _ (ret t nw' h' tk' hT' a1 a2.1 a2.2.1)
  clear hg B F X N T D
  (try dsimp only)
  (try k_fold)
  have hbits := bits_of (show 1 ≤ number by omega) (show number < 128 by omega)
  have hsI : (2 : Int) ≤ (number : Int) := by omega
  k_with "my call" => (walk_at "my i2d"; (have e8 := (IntsAre.length (by assumption : IntsAre _ (lsb 1 _ _))).trans (lsb_length _ _ _)))
  k_with "mbound" => exact ⟨(mod_small hn.1).1, Int.lt_trans (mod_small hn.1).2 (by omega)⟩
  k_with "xbound" => exact sq_small (by assumption) (by assumption) (by omega)
  k_with "xbound" => exact pr_small (mod_small hn.1).1 (mod_small hn.1).2 (by omega) (by omega)
  k_with "pyIter ref" => k_state (fun (pre : List Int) r => PowW base number pre r) "rest"
  k_with "state" => exact pow_start hn.1
  k_with "state" => exact pow_even hn.1 (by assumption) (by assumption)
  k_with "state" => exact pow_odd hn.1 (by assumption) (by assumption)
  k_steps
  all_goals (try dsimp only)
  · (rename _ = ((powL _ _ _ : Nat) : Int) => hr)
    rw [powL_lsb base number hn.1 _ _ (cnt_room (by omega))] at hr
    rw [hr]
    (rename News _ _ _ _ => N1)
    exact ret _ _ _ _ (by assumption) (by k_asm) N1 (fun q hq => by simp [hq])
end
end
end Mine
end
-- G6
theorem Mine.atG6 : True ∧ True := by
  w_top off
  k_with_none
  first | (walk1; fail) | exact ⟨trivial, trivial⟩
section
open PySem PySem.W PySem.Spec PySem.Calls PyProof.Rows
set_option maxRecDepth 100000
set_option maxHeartbeats 8000000
namespace Mine
section
local macro_rules | `(tactic| walk_at "exec While Compare cons nil") => `(tactic| k_dflt (k_extra "my while"))
section
variable {w : World} {loose : List Str} {mean : ExcName → Option Value} {mg mb : Str → Option Value}
  {dp un : Nat} {gd : Option (List Code)} {cn : Str} {cs : Scope} {L a : Addr} {ccd : Value} {cl : List (Str × Addr)} {outer : List Env}
  {A₀ : Around} {bs h₀ : Heap} {m : Str → Option Value} {news : List (Addr × Obj)} {s : Shared} {Q E : Value → Shared → Prop}
theorem p257_spec {resp : Str} {t1 : Tok}
    (B : Below A₀ bs outer h₀) (F : Fr h₀ L s.heap m) (X : (Mine.hd.heap_1 w.params).In h₀) (N : News h₀ L s.heap news) (T : Top topProg loose mean mg mb h₀) (hk : cs.kind = .function)
    (hd : dp < 790) (hu : un < 7900) (hl : resp.length ≤ 1048576) (h0 : 5 ≤ resp.length) (h1 : Txt.slice resp none (some 3) = Str.ofString "257") (h2 : Txt.slice resp (some 3) (some 5) = Str.ofString " \"")
    (ret : ∀ y t4 h' tk', Keeps s.heap h' → Fr h₀ L h' m → News h₀ L h' news → cods y = unqF ((cods resp).drop 5) → y.length ≤ resp.length → Q (.str y t4) { s with heap := h', toks := tk' }) :
    wpAny (model PySem.Challenge.rw_wj0026_01.row.prog w) (ktrTop dp un gd cn cs L a ccd cl outer) (call (.ref 65) [.str resp t1]) Q E s := by
  k_with_none
  revert X; k_fill; intro X
  refine' enterA (binds := [(Str.ofString "resp", .str resp t1)]) B F X News.nil T hk ?k6 ?k7 ?k8 ?k9 ?kB ?c2 ?c3 ?c4 ?c5 ?_
  case k6 => k_is
  case k7 => k_is
  case k8 => (show dp < 1000; omega)
  case k9 => exact BindsTo.of_eq rfl
  case kB => exact locs rfl
  case c2 => exact rfl
  case c3 => exact rfl
  case c4 => exact rfl
  case c5 => decide
  intro g L' h₁ hg F' N' lt' B' X' T'
  refine shut fun Qf sg sd so tk₀ hQ hQ0 => ?_
  have KP : Keeps s.heap g := keeps_hide0 hg
  replace hg : g = s.heap := hg
  replace ret := fun y t4 h' tk' (kq9 : Keeps s.heap h') hq0 hq1 => hQ _ _ _ (ret y t4 h' tk' kq9 (fr_back F kq9) (news_back N kq9) hq0 hq1)
  clear hg B F X N T
  try dsimp only
  (try k_fold)
  have e1 : (Txt.slice resp none (some 3) != Str.ofString "257") = false := by rw [h1]; exact bne_self_eq_false _
  have e2 : (Txt.slice resp (some 3) (some 5) != Str.ofString " \"") = false := by rw [h2]; exact bne_self_eq_false _
  have hS := pqw (pq_start h0)
  generalize unqF ((cods resp).drop 5) = R at ret hS
  k_with "my while" => k_while (fun (_ : List Int) (d : Str) i => PQW R resp d i) (fun (_ : List Int) (_ : Str) i => ((resp.length : Int) - i).toNat) "dirname" "i"
  k_with "state" => exact pqw (pq_two (by assumption) (by omega) (by assumption) (by assumption))
  k_with "state" => exact pqw (pq_one (by assumption) (by omega) (by assumption))
  k_with "state" => exact hS
  k_steps
  all_goals (try dsimp only)
  all_goals (refine ret _ _ _ _ (keeps_fr KP (by assumption)) ?_ (by omega))
  all_goals first | exact pq_end1 (by assumption) (by omega) (by assumption) (by assumption) | exact pq_end3 (by assumption) (by assumption) | exact pq_end2 (by assumption) (by omega) (by assumption) (by assumption)
end
end
end Mine
end
-- G7
theorem Mine.atG7 : True ∧ True := by
  w_top off
  k_with_none
  k_with "w27" => (k_here; k_dflt (refine item_tupleT (by exact Fr.tup (by k_asm) (by assumption)) (by decide) (by decide) (by rfl) (by rfl) ?_))
  k_with "w28" => (k_here; k_dflt (refine KIN.call_text (by assumption) (by omega) ?_))
  first | (walk1; fail) | exact ⟨trivial, trivial⟩
section
open PySem PySem.W PySem.Spec PySem.Calls PyProof.Rows
set_option maxRecDepth 100000
set_option maxHeartbeats 8000000
namespace Mine
section
local macro_rules | `(tactic| walk_at "call builtin:str.split") => `(tactic| k_dflt (k_extra "my split"))
local macro_rules | `(tactic| walk_at "subscriptTail Name Constant ref int") => `(tactic| k_extra "w27")
local macro_rules | `(tactic| walk_at "call type:int") => `(tactic| k_extra "w28")
section
variable {w : World} {loose : List Str} {mean : ExcName → Option Value} {mg mb : Str → Option Value}
  {dp un : Nat} {gd : Option (List Code)} {cn : Str} {cs : Scope} {L a : Addr} {ccd : Value} {cl : List (Str × Addr)} {outer : List Env}
  {A₀ : Around} {bs h₀ : Heap} {m : Str → Option Value} {news : List (Addr × Obj)} {s : Shared} {Q E : Value → Shared → Prop}
theorem p229_spec {resp : Str} {t1 : Tok} {ab r pt : Int} {tp ta tb : Tok} {lp : Addr} {p0 p1 p2 p3 p4 : Str}
    (B : Below A₀ bs outer h₀) (F : Fr h₀ L s.heap m) (X : (Mine.hd.heap_1 w.params).In h₀) (N : News h₀ L s.heap news) (T : Top topProg loose mean mg mb h₀) (hk : cs.kind = .function)
    (hd : dp < 790) (hu : un < 7900) (hl : resp.length ≤ 1048576) (h1 : (Txt.slice resp none (some 3) != Str.ofString "229") = false) (h2 : Txt.find resp (Str.ofString "(") = 3) (h3 : Txt.find3 resp (Str.ofString ")") (Txt.find resp (Str.ofString "(") + 1) = r) (hr : 8 ≤ r ∧ r < resp.length) (h4 : (Txt.item resp (Txt.find resp (Str.ofString "(") + 1) != Txt.item resp (Txt.find3 resp (Str.ofString ")") (Txt.find resp (Str.ofString "(") + 1) - 1)) = false) (h5 : Txt.split (Txt.slice resp (some (Txt.find resp (Str.ofString "(") + 1)) (some (Txt.find3 resp (Str.ofString ")") (Txt.find resp (Str.ofString "(") + 1)))) (Txt.item resp (Txt.find resp (Str.ofString "(") + 1)) = [p0, p1, p2, p3, p4]) (hp3 : p3.length ≤ 8) (hpt : PySem.intText? p3 = some pt) (hP : IsTup s.heap lp [Value.int ab ta, Value.int 21 tb].toArray)
    (ret : ∀ l t4 t5 kz h' tk', Keeps s.heap h' → Fr h₀ L h' m → News h₀ L h' ((l, ({ cls := .type "tuple", data := .seq #[.int ab t4, .int pt t5] kz } : Obj)) :: news) → AllNe l news → Q (.ref l) { s with heap := h', toks := tk' }) :
    wpAny (model PySem.Challenge.rw_wj0026_01.row.prog w) (ktrTop dp un gd cn cs L a ccd cl outer) (call (.ref 58) [.str resp t1, .ref lp]) Q E s := by
  k_with_none
  k_with "w27" => (k_here; k_dflt (refine item_tupleT (by exact Fr.tup (by k_asm) (by assumption)) (by decide) (by decide) (by rfl) (by rfl) ?_))
  k_with "w28" => (k_here; k_dflt (refine KIN.call_text (by assumption) (by omega) ?_))
  revert X; k_fill; intro X
  refine' enterA (binds := [(Str.ofString "resp", .str resp t1), (Str.ofString "peer", .ref lp)]) B F X News.nil T hk ?k6 ?k7 ?k8 ?k9 ?kB ?c2 ?c3 ?c4 ?c5 ?_
  case k6 => k_is
  case k7 => k_is
  case k8 => (show dp < 1000; omega)
  case k9 => exact BindsTo.of_eq rfl
  case kB => exact locs rfl
  case c2 => exact rfl
  case c3 => exact rfl
  case c4 => exact rfl
  case c5 => decide
  intro g L' h₁ hg F' N' lt' B' X' T'
  refine shut fun Qf sg sd so tk₀ hQ hQ0 => ?_
  have KP : Keeps s.heap g := keeps_hide0 hg
  replace hg : g = s.heap := hg
  have hPg : IsTup g lp [Value.int ab ta, Value.int 21 tb].toArray := hg ▸ hP
  replace ret := fun l t4 t5 kz h' tk' (kq9 : Keeps s.heap h') {nx : List (Addr × Obj)} {Ln : Addr} (Nn : News g Ln h' nx) (hm : ∀ p ∈ ((l, ({ cls := .type "tuple", data := .seq #[.int ab t4, .int pt t5] kz } : Obj)) :: ([] : List (Addr × Obj))), p ∈ nx) => hQ _ _ _ (ret l t4 t5 kz h' tk' kq9 (fr_back F kq9) (news_more F N kq9 (hg ▸ Nn) hm) (allNe_news N (hg ▸ Nn) (hm _ (.head _))))
  clear hg B F X N T
  try dsimp only
  (try k_fold)
  k_with "my split" => (refine KSpl.split1 (by k_asm) (by k_asm) (by rfl) ?_ (by rw [PySem.sizeLine_eq]; have := Txt.slice_le resp (some (Txt.find resp (Str.ofString "(") + 1)) (some (Txt.find3 resp (Str.ofString ")") (Txt.find resp (Str.ofString "(") + 1))); omega); intro D8 l8 h8 k8 e8 a8 F8 N8 l1; rw [h5] at e8; kspl_open e8; simp only [strValues, List.map_cons, List.map_nil] at N8 a8)
  k_steps
  · exact ret _ _ _ _ _ _ (keeps_fr KP (by assumption)) (by assumption) (fun p hp => by rw [List.mem_singleton.mp hp]; exact List.mem_cons_self)
end
end
end Mine
end
-- G20
theorem Mine.atG20 : True ∧ True := by
  w_top off
  k_with_none
  k_with "the split" => first | (apply split_cons; walk_at "the split") | exact split_nil _
  k_with "the dis" => first | exact dis_kind (by k_asm) (by walk_at "the split") (by assumption) rfl | ((repeat' refine dis_cons ?_ ?_) <;> first | exact dis_nil | exact off_raw (by assumption) | exact off_lt (by assumption) (by omega) | exact Dis.get (by assumption) (by k_mem))
  k_with "w29" => (k_here; (with_reducible show wpAny _ _ (call (Value.ref 121) _) _ _ _); k_dflt (refine sub_one (by k_asm) (by k_asm) (by k_asm) (by k_asm) (by k_asm) (by first | exact rfl | assumption) (by first | omega | (dsimp only [ktrTop, Around.deeper] at *; omega)) (by first | omega | (dsimp only [ktrTop, Around.deeper] at *; omega)) (by omega) ?_))
  k_with "w2" => ((try dsimp only); (try k_sweep); (try k_fold))
  k_with "w30" => (k_here; (with_reducible show wpAny _ _ (call (Value.ref 107) _) _ _ _); k_dflt (refine idm_nat (by assumption) (by k_asm) (by k_asm) (by k_asm) (by k_asm) (by walk_at "the split") (by walk_at "the dis") (by k_asm) (by first | exact rfl | assumption) (by assumption) (by assumption) (by first | omega | (dsimp only [ktrTop, Around.deeper] at *; omega)) (by first | omega | (dsimp only [ktrTop, Around.deeper] at *; omega)) (by omega) (by k_extra "qbound") ?_))
  k_with "w31" => (k_here; (with_reducible show wpAny _ _ (call (Value.ref 166) _) _ _ _); k_dflt (refine pow_spec (by assumption) (by k_asm) (by k_asm) (by k_asm) (by k_asm) (by walk_at "the split") (by walk_at "the dis") (by k_asm) (by first | exact rfl | assumption) (by assumption) (by first | omega | (dsimp only [ktrTop, Around.deeper] at *; omega)) (by first | omega | (dsimp only [ktrTop, Around.deeper] at *; omega)) (by omega) (by k_extra "ebound") (by omega) ?_))
  first | (walk1; fail) | exact ⟨trivial, trivial⟩
section
open PySem PySem.W PySem.Spec PySem.Calls PyProof.Rows
set_option maxRecDepth 100000
set_option maxHeartbeats 8000000
namespace Mine
abbrev dmN (a b : Nat) (t4 t5 : Tok) (k : Nat) : Obj := { cls := .type "tuple", data := .seq #[.int ((a / b : Nat) : Int) t4, .int ((a % b : Nat) : Int) t5] k }
theorem dm_is (a b : Nat) (t4 t5 : Tok) (k : Nat) : dmT a b t4 t5 k = dmN a b t4 t5 k := by unfold dmT dmN; rw [fdiv_cast, fmod_cast]
section
variable {w : World} {loose : List Str} {mean : ExcName → Option Value} {mg mb : Str → Option Value}
  {dp un : Nat} {gd : Option (List Code)} {cn : Str} {cs : Scope} {L a : Addr} {ccd : Value} {cl : List (Str × Addr)} {outer : List Env}
  {A₀ : Around} {bs h₀ : Heap} {m : Str → Option Value} {news : List (Addr × Obj)} {s : Shared} {Q E : Value → Shared → Prop}
variable {a₁ : Addr}
theorem idm_nat {a b : Nat} {t1 t2 : Tok} {own nw : List (Addr × Obj)} (TB : Tabs nw)
    (B : Below A₀ bs outer h₀) (F : Fr h₀ L s.heap m) (X : (Mine.hd.heap_1 w.params).In h₀) (N : News h₀ L s.heap news) (hs : news = own ++ nw) (D : Dis own nw) (T : Top topProg loose mean mg mb h₀) (hk : cs.kind = .function)
    (C1 : CodeHd bs 85 81) (C2 : CodeHd bs 92 88) (hd : dp < 680) (hu : un < 6800) (ha : a < 1048576) (hb : 1 ≤ b ∧ b < 64)
    (ret : ∀ l t4 t5 k nw' h' tk', Tabs nw' → Fr h₀ L h' m → News h₀ L h' ((l, dmN a b t4 t5 k) :: (own ++ nw')) → Dis ((l, dmN a b t4 t5 k) :: own) nw' → AllNe l own → Q (.ref l) { s with heap := h', toks := tk' }) :
    wpAny (model PySem.Challenge.rw_wj0026_01.row.prog w) (ktrTop dp un gd cn cs L a₁ ccd cl outer) (call (.ref 107) [.int (a : Int) t1, .int (b : Int) t2]) Q E s :=
  idm_spec TB B F X N hs D T hk C1 C2 hd hu ha hb fun l t4 t5 k nw' h' tk' e1 e2 e3 e4 e5 => ret l t4 t5 k nw' h' tk' e1 e2 (dm_is a b t4 t5 k ▸ e3) (dm_is a b t4 t5 k ▸ e4) e5
theorem sub_one {n : Nat} {t1 t2 : Tok}
    (B : Below A₀ bs outer h₀) (F : Fr h₀ L s.heap m) (X : (Mine.hd.heap_1 w.params).In h₀) (N : News h₀ L s.heap news) (T : Top topProg loose mean mg mb h₀) (hk : cs.kind = .function)
    (hd : dp < 800) (hu : un < 8000) (hn : 1 ≤ n)
    (ret : ∀ t h' tk', Keeps s.heap h' → Fr h₀ L h' m → News h₀ L h' news → Q (.int ((n - 1 : Nat) : Int) t) { s with heap := h', toks := tk' }) :
    wpAny (model PySem.Challenge.rw_wj0026_01.row.prog w) (ktrTop dp un gd cn cs L a₁ ccd cl outer) (call (.ref 121) [.int (n : Int) t1, .int 1 t2]) Q E s :=
  sub_spec B F X N T hk hd hu fun t h' tk' e1 e2 e3 => by
    rw [show (n : Int) - 1 = ((n - 1 : Nat) : Int) by omega]
    exact ret t h' tk' e1 e2 e3
end
/-- the contract of _law_proved for a number with its own parts -/
def PrvW (w : World) (loose : List Str) (mean : ExcName → Option Value) (mg mb : Str → Option Value) (f n b : Nat) : Prop :=
  ∀ (x : Str) (above : Int) (t1 t2 : Tok) (own nw news : List (Addr × Obj)) (dp un : Nat) (gd : Option (List Code)) (cn : Str) (cs : Scope) (L a : Addr) (ccd : Value) (cl : List (Str × Addr)) (outer : List Env)
    (A₀ : Around) (bs h₀ : Heap) (m : Str → Option Value) (s : Shared) (Q E : Value → Shared → Prop),
    Tabs nw → Below A₀ bs outer h₀ → Fr h₀ L s.heap m → (Mine.hd.heap_1 w.params).In h₀ → News h₀ L s.heap news → news = own ++ nw → Dis own nw → Top topProg loose mean mg mb h₀ → cs.kind = .function →
    CodeHd bs 85 81 → CodeHd bs 92 88 → dp + f < 670 → un + 10 * f < 6700 → cods x = stdL f n b → x.length ≤ 1048576 →
    (∀ t nw' h' tk', Tabs nw' → Fr h₀ L h' m → News h₀ L h' (own ++ nw') → Dis own nw' → Q (.int ((provStd f n b : Nat) : Int) t) { s with heap := h', toks := tk' }) →
    wpAny (model PySem.Challenge.rw_wj0026_01.row.prog w) (ktrTop dp un gd cn cs L a ccd cl outer) (call (.ref 173) [.str x t1, .int above t2]) Q E s
section
local macro_rules | `(tactic| walk_at "call ref") => `(tactic| (k_extra "w29"; intro tX h9 tk9 K9 F9 N9; k_extra "w2"))
local macro_rules | `(tactic| walk_at "my idm") => `(tactic| (k_extra "w30"; intro l8 t8 u8 k8 nw8 h8 tk8 TB8 F8 N8 D8 A8; (try simp only [List.cons_append, List.nil_append] at N8); (try simp only [AllNe, and_true] at A8); k_extra "w2"))
local macro_rules | `(tactic| walk_at "my pow") => `(tactic| (k_extra "w31"; intro t8 nw8 h8 tk8 TB8 F8 N8 D8; (try simp only [List.cons_append, List.nil_append] at N8); k_extra "w2"))
local macro_rules | `(tactic| walk_at "call ref") => `(tactic| k_dflt (k_extra "my call"))
local macro_rules | `(tactic| walk_at "exec While Name cons nil") => `(tactic| fail)
local macro_rules | `(tactic| walk_at "exec While Compare cons nil") => `(tactic| k_dflt (k_extra "inner while"))
local macro_rules | `(tactic| walk_at "KswEnd") => `(tactic| k_dflt (k_extra "ksw end"))
section
variable {w : World} {loose : List Str} {mean : ExcName → Option Value} {mg mb : Str → Option Value}
  {dp un : Nat} {gd : Option (List Code)} {cn : Str} {cs : Scope} {L a : Addr} {ccd : Value} {cl : List (Str × Addr)} {outer : List Env}
  {A₀ : Around} {bs h₀ : Heap} {m : Str → Option Value} {news : List (Addr × Obj)} {s : Shared} {Q E : Value → Shared → Prop}
variable {a₁ : Addr}
theorem proved_core {x : Str} {above : Int} {n b f : Nat} {ps : List (Nat × Nat)} {t1 t2 : Tok} {own nw : List (Addr × Obj)} (TB : Tabs nw)
    (B : Below A₀ bs outer h₀) (F : Fr h₀ L s.heap m) (X : (Mine.hd.heap_1 w.params).In h₀) (N : News h₀ L s.heap news) (hs : news = own ++ nw) (D : Dis own nw) (T : Top topProg loose mean mg mb h₀) (hk : cs.kind = .function)
    (C1 : CodeHd bs 85 81) (C2 : CodeHd bs 92 88) (hd : dp + f + 1 < 670) (hu : un + 10 * f + 10 < 6700) (hn : 2 ≤ n ∧ n < 64) (hb : 1 ≤ b ∧ b < 64)
    (hps : ∀ p ∈ ps, 2 ≤ p.1 ∧ p.1 < 64) (ih : ∀ p ∈ ps, PrvW w loose mean mg mb f p.1 p.2) (hx : cods x = headL n n ++ headL n b ++ tailL f ps) (hxl : x.length ≤ 1048576)
    (ret : ∀ t nw' h' tk', Tabs nw' → Fr h₀ L h' m → News h₀ L h' (own ++ nw') → Dis own nw' → Q (.int ((provGo (pvF f) n b (n - 1) ps : Nat) : Int) t) { s with heap := h', toks := tk' }) :
    wpAny (model PySem.Challenge.rw_wj0026_01.row.prog w) (ktrTop dp un gd cn cs L a₁ ccd cl outer) (call (.ref 173) [.str x t1, .int above t2]) Q E s := by
  k_with_none
  k_with "the split" => first | (apply split_cons; walk_at "the split") | exact split_nil _
  k_with "the dis" => first | exact dis_kind (by k_asm) (by walk_at "the split") (by assumption) rfl | ((repeat' refine dis_cons ?_ ?_) <;> first | exact dis_nil | exact off_raw (by assumption) | exact off_lt (by assumption) (by omega) | exact Dis.get (by assumption) (by k_mem))
  k_with "w29" => (k_here; (with_reducible show wpAny _ _ (call (Value.ref 121) _) _ _ _); k_dflt (refine sub_one (by k_asm) (by k_asm) (by k_asm) (by k_asm) (by k_asm) (by first | exact rfl | assumption) (by first | omega | (dsimp only [ktrTop, Around.deeper] at *; omega)) (by first | omega | (dsimp only [ktrTop, Around.deeper] at *; omega)) (by omega) ?_))
  k_with "w2" => ((try dsimp only); (try k_sweep); (try k_fold))
  k_with "w30" => (k_here; (with_reducible show wpAny _ _ (call (Value.ref 107) _) _ _ _); k_dflt (refine idm_nat (by assumption) (by k_asm) (by k_asm) (by k_asm) (by k_asm) (by walk_at "the split") (by walk_at "the dis") (by k_asm) (by first | exact rfl | assumption) (by assumption) (by assumption) (by first | omega | (dsimp only [ktrTop, Around.deeper] at *; omega)) (by first | omega | (dsimp only [ktrTop, Around.deeper] at *; omega)) (by omega) (by k_extra "qbound") ?_))
  k_with "w31" => (k_here; (with_reducible show wpAny _ _ (call (Value.ref 166) _) _ _ _); k_dflt (refine pow_spec (by assumption) (by k_asm) (by k_asm) (by k_asm) (by k_asm) (by walk_at "the split") (by walk_at "the dis") (by k_asm) (by first | exact rfl | assumption) (by assumption) (by first | omega | (dsimp only [ktrTop, Around.deeper] at *; omega)) (by first | omega | (dsimp only [ktrTop, Around.deeper] at *; omega)) (by omega) (by k_extra "ebound") (by omega) ?_))
  subst hs
  revert X; k_fill; intro X
  refine' enterA (binds := [(Str.ofString "words", Value.str x t1), (Str.ofString "above", Value.int above t2)]) (news := nw) B F X ?kN T hk ?k6 ?k7 ?k8 ?k9 ?kB ?c2 ?c3 ?c4 ?c5 ?_
  case kN => exact fun p hp => N p (List.mem_append_right _ hp)
  case k6 => k_is
  case k7 => k_is
  case k8 => (show dp < 1000; omega)
  case k9 => exact BindsTo.of_eq rfl
  case kB => exact locs rfl
  case c2 => exact rfl
  case c3 => exact rfl
  case c4 => exact rfl
  case c5 => decide
  intro g L' h₁ hg F' N' lt' B' X' T'
  refine shut fun Qf sg sd so tk₀ hQ hQ0 => ?_
  replace lt' := allLt_all lt'
  replace ret := fun t nw' h' tk' {Ln : Addr} {mn : Str → Option Value} {nx : List (Addr × Obj)} (hT' : Tabs nw') (Fn : Fr g Ln h' mn) (Nn : News g Ln h' nx) (hsb : ∀ q ∈ nw', q ∈ nx) =>
    (tab_back F N D hg Fn (add := []) (fun p hp => Nn p (hsb p hp)) dis_nil).elim fun a1 a2 => hQ _ _ _ (ret t nw' h' tk' hT' a1 a2.1 a2.2.1)
  clear hg B F X N T D
  rw [List.append_assoc] at hx
  have H1 := head_parse hx (show n < 65 by omega)
  generalize (((headL n n).length - 1 : Nat) : Int) = r1 at H1
  obtain ⟨x2, hx2⟩ : ∃ y, y = Txt.slice x (some (Txt.find x (Str.ofString ")") + 1)) none := ⟨_, rfl⟩
  have H1h := H1.h7
  rw [← hx2] at H1h
  have H2 := head_parse H1h (show b < 65 by omega)
  generalize (((headL n b).length - 1 : Nat) : Int) = r2 at H2
  have hl2 : x2.length ≤ x.length := by rw [hx2]; exact Txt.slice_le _ _ _
  obtain ⟨x3, hx3⟩ : ∃ y, y = Txt.slice x2 (some (Txt.find x2 (Str.ofString ")") + 1)) none := ⟨_, rfl⟩
  have H2h := H2.h7
  rw [← hx3] at H2h
  have hl3 : x3.length ≤ x2.length := by rw [hx3]; exact Txt.slice_le _ _ _
  (try dsimp only)
  (try k_fold)
  have hnI : (2 : Int) ≤ (n : Int) ∧ (n : Int) < 64 := by omega
  k_with "my call" => ((rename Fr _ _ _ _ => FF9); rw [← hx2] at FF9 ⊢; (with_reducible show wpAny _ _ (call (Value.ref 58) [Value.str x2 _, _]) _ _ _); refine p229_spec (tp := 0) (by k_asm) (by k_asm) (by k_asm) (by k_asm) (by k_asm) rfl (by (show dp + 1 < 790); omega) (by (show un + 3 < 7900); omega) (by omega) H2.h1 H2.h2 H2.h3 H2.hr H2.h4 H2.h5 (dig_int b (by omega)).2 (dig_int b (by omega)).1 (News.isTup (by k_asm) (by k_mem)) ?_; intro lB tB uB kB hB tkB KB FB NB AB; (try simp only [AllNe, and_true] at AB))
  k_with "my call" => ((with_reducible show wpAny _ _ (call (Value.ref 58) [Value.str x _, _]) _ _ _); refine p229_spec (tp := 0) (by k_asm) (by k_asm) (by k_asm) (by k_asm) (by k_asm) rfl (by (show dp + 1 < 790); omega) (by (show un + 3 < 7900); omega) (by omega) H1.h1 H1.h2 H1.h3 H1.hr H1.h4 H1.h5 (dig_int n (by omega)).2 (dig_int n (by omega)).1 (News.isTup (by k_asm) (by k_mem)) ?_; intro lA tA uA kA hA tkA KA FA NA AA; (try simp only [AllNe, and_true] at AA))
  iterate 13 (iterate 10 (first | (k_unfold; (try dsimp only)) | (k_end; wrow_close) | walk1 | (dsimp only; walk1) | (leave1; try dsimp only)))
  iterate 9 (first | (k_unfold; (try dsimp only)) | (k_end; wrow_close) | walk1 | (dsimp only; walk1) | (leave1; try dsimp only))
  (rename Fr _ _ _ _ => lF)
  (rename News _ _ _ _ => lN)
  rw [← hx3] at lF
  refine ksw_while (σ := Str × Tok × Int × Tok × List (Addr × Obj)) (fun c => c.2.2.2.2) (fun c => [(Str.ofString "words", Value.str c.1 c.2.1), (Str.ofString "left", Value.int c.2.2.1 c.2.2.2.1)]) (fun c => Tabs c.2.2.2.2) [Str.ofString "inner", Str.ofString "part", Str.ofString "exponent", Str.ofString "rest", Str.ofString "share"]
    (fun c => PvP f n b (provGo (pvF f) n b (n - 1) ps) ps c.1 c.2.2.1) (fun c => c.1.length) (x3, _, ((n - 1 : Nat) : Int), _, nw) lF (fun p hp => lN p (by simp [hp])) TB (List.forall_mem_cons.mpr ⟨rfl, List.forall_mem_cons.mpr ⟨rfl, fun _ h => nomatch h⟩⟩) (pv_start ⟨hn.1, by omega⟩ H2h (Nat.le_trans hl3 (Nat.le_trans hl2 hxl))) ?_
  rintro ⟨xw, tw, left, tl, nwc⟩ u h tk hTB hP hFr hNews
  clear lF lN
  (try dsimp only [kstB] at hFr)
  (try dsimp only at hNews hTB hP)
  (try k_fold)
  have hxw := pv_len hP
  k_with "ksw end" => ((rename Tabs _ => TBz); refine ksw_end (_, _, _, _, _) (by k_asm) (by k_asm) (fun q hq => by simp [hq]) TBz (by kst_all) (by ksw_same) (by k_extra "state") (by k_extra "measure"))
  k_with "ksw end" => ((rename Tabs _ => TBz); refine ksw_end (_, _, _, _, _, _, _) (by k_asm) (by k_asm) (fun q hq => by simp [hq]) TBz (by kst_all) (by ksw_same) (by k_extra "state") (by k_extra "measure"))
  iterate 5 (first | (k_unfold; (try dsimp only)) | (k_end; wrow_close) | walk1 | (dsimp only; walk1) | (leave1; try dsimp only))
  · obtain ⟨l, p, r, hle, H⟩ := pv_open hP (by omega)
    subst hle
    have hpp := hps p H.hp
    have hpi := ih p H.hp
    have hqv := std_or f p.1 p.2
    have hl1 := H.l1
    have hl2 := H.l2
    k_with "my call" => walk_at "my pow"
    k_with "my call" => walk_at "my idm"
    k_with "my call" => (refine p257_spec (by k_asm) (by k_asm) (by k_asm) (by k_asm) (by k_asm) rfl (by (show dp + 1 < 790); omega) (by (show un + 3 < 7900); omega) (by omega) H.w0 H.w1 H.w2 ?_; intro yI tI hI tkI KI FI NI eI lI; rw [H.w3] at eI; obtain ⟨ww1, ww2, ww3⟩ := H.w4 yI eI)
    k_with "my call" => ((with_reducible show wpAny _ _ (call (Value.ref 173) _) _ _ _); unfold PrvW at hpi; refine' hpi yI _ _ _ _ _ _ _ _ _ _ _ _ _ _ _ _ _ _ _ _ _ _ _ ?qT ?q1 ?q2 ?q3 ?q4 ?qs ?qD ?q5 rfl C1 C2 ?q7 ?q8 eI ?q9 ?_; (case qT => assumption); (case q1 => k_asm); (case q2 => k_asm); (case q3 => k_asm); (case q4 => k_asm); (case qs => walk_at "the split"); (case qD => walk_at "the dis"); (case q5 => k_asm); (case q7 => (show dp + 1 + f < 670; omega)); (case q8 => (show un + 3 + 10 * f < 6700; omega)); (case q9 => omega); intro tP nwP hP2 tkP TBP FP NP DP; (try simp only [List.cons_append, List.nil_append] at NP))
    k_with "qbound" => omega
    k_with "ebound" => exact Nat.lt_of_le_of_lt (Nat.div_le_self _ _) (by omega)
    k_with "inner while" => ((rename Fr _ _ _ _ => lF); (rename News _ _ _ _ => lN); (rename Tabs _ => lT); refine ksw_while (σ := Int × Tok × Int × Tok × Int × Tok × List (Addr × Obj)) (fun c => c.2.2.2.2.2.2) (fun c => [(Str.ofString "left", Value.int c.1 c.2.1), (Str.ofString "share", Value.int c.2.2.1 c.2.2.2.1), (Str.ofString "rest", Value.int c.2.2.2.2.1 c.2.2.2.2.2.1)]) (fun c => Tabs c.2.2.2.2.2.2) [] (fun c => PwW (stripN l l (provStd f p.1 p.2)) (provStd f p.1 p.2) c.1 c.2.2.1 c.2.2.2.2.1) (fun c => c.1.toNat) ((l : Int), _, ((l / provStd f p.1 p.2 : Nat) : Int), _, ((l % provStd f p.1 p.2 : Nat) : Int), _, _) lF (fun p hp => lN p (by simp [hp])) lT (List.forall_mem_cons.mpr ⟨rfl, List.forall_mem_cons.mpr ⟨rfl, List.forall_mem_cons.mpr ⟨rfl, fun _ h => nomatch h⟩⟩⟩) (pw_begin H.l1 H.l2) ?_; rintro ⟨left, tl, share, tsh, rest, trs, nwi⟩ u2 h2 tk2 hTB2 hP2 hFr2 hNews2; clear lF lN; (try dsimp only [kstB] at hFr2); (try dsimp only at hNews2 hTB2 hP2); (try k_fold))
    k_with "my call" => ((with_reducible show wpAny _ _ (call (Value.ref 107) _) _ _ _); (rename PwW _ _ _ _ _ => hPw); obtain ⟨lz, ez, z1, z2, z3, z4⟩ := pw_next (by omega) hPw (by assumption); subst ez; walk_at "my idm")
    k_with "state" => exact pw_done H (natne (by assumption)) (natz (by assumption)) (nat1n (by assumption)) (by assumption) rfl (by assumption) ww1 (Txt.slice_le _ _ _)
    k_with "state" => exact ⟨lz, rfl, z1, z2, rfl, rfl, z4⟩
    k_with "measure" => exact H.w5 _ ww1
    k_with "measure" => (show ((lz : Nat) : Int).toNat < _; omega)
    k_steps
    all_goals (rename Tabs _ => TBz)
    all_goals (rename News _ _ _ _ => Nz)
    all_goals (have rr := fun t tk => ret t _ _ tk TBz (by k_asm) Nz (fun q hq => by simp [hq]))
    · rw [pv_ret0 H (natz (by assumption))] at rr
      exact rr _ _
    · rw [pv_ret1 H (natne (by assumption))] at rr
      exact rr _ _
    · rw [pv_ret2 H (nat1 (by assumption))] at rr
      exact rr _ _
  · obtain ⟨l, hle, hTe⟩ := pv_end hP (by omega)
    subst hle
    k_with_none
    k_with "the split" => first | (apply split_cons; walk_at "the split") | exact split_nil _
    k_with "the dis" => first | exact dis_kind (by k_asm) (by walk_at "the split") (by assumption) rfl | ((repeat' refine dis_cons ?_ ?_) <;> first | exact dis_nil | exact off_raw (by assumption) | exact off_lt (by assumption) (by omega) | exact Dis.get (by assumption) (by k_mem))
    k_with "w29" => (k_here; (with_reducible show wpAny _ _ (call (Value.ref 121) _) _ _ _); k_dflt (refine sub_one (by k_asm) (by k_asm) (by k_asm) (by k_asm) (by k_asm) (by first | exact rfl | assumption) (by first | omega | (dsimp only [ktrTop, Around.deeper] at *; omega)) (by first | omega | (dsimp only [ktrTop, Around.deeper] at *; omega)) (by omega) ?_))
    k_with "w2" => ((try dsimp only); (try k_sweep); (try k_fold))
    k_with "w30" => (k_here; (with_reducible show wpAny _ _ (call (Value.ref 107) _) _ _ _); k_dflt (refine idm_nat (by assumption) (by k_asm) (by k_asm) (by k_asm) (by k_asm) (by walk_at "the split") (by walk_at "the dis") (by k_asm) (by first | exact rfl | assumption) (by assumption) (by assumption) (by first | omega | (dsimp only [ktrTop, Around.deeper] at *; omega)) (by first | omega | (dsimp only [ktrTop, Around.deeper] at *; omega)) (by omega) (by k_extra "qbound") ?_))
    k_with "w31" => (k_here; (with_reducible show wpAny _ _ (call (Value.ref 166) _) _ _ _); k_dflt (refine pow_spec (by assumption) (by k_asm) (by k_asm) (by k_asm) (by k_asm) (by walk_at "the split") (by walk_at "the dis") (by k_asm) (by first | exact rfl | assumption) (by assumption) (by first | omega | (dsimp only [ktrTop, Around.deeper] at *; omega)) (by first | omega | (dsimp only [ktrTop, Around.deeper] at *; omega)) (by omega) (by k_extra "ebound") (by omega) ?_))
    k_with "my call" => walk_at "my pow"
    k_with "ebound" => omega
    k_steps
    all_goals (try dsimp only)
    all_goals (rename Tabs _ => TBz)
    all_goals (rename News _ _ _ _ => Nz)
    all_goals (have rr := fun t tk => ret t _ _ tk TBz (by k_asm) Nz (fun q hq => hq))
    · rw [hTe, if_pos ⟨nat1 (by assumption), nat1 (by assumption)⟩] at rr
      exact rr _ _
    · rw [hTe, if_neg (fun q => nat1n (by assumption) q.2)] at rr
      exact rr _ _
    · rw [hTe, if_neg (fun q => nat1n (by assumption) q.1)] at rr
      exact rr _ _
end
end
end Mine
end
-- KT
theorem Mine.atKT : True ∧ True := by
  w_top off
  k_with_none
  first | (walk1; fail) | exact ⟨trivial, trivial⟩
section
open PySem PySem.W PySem.Spec PySem.Calls PyProof.Rows PyProof.V
open LCg
set_option maxRecDepth 100000
namespace Mine
abbrev tupO (its : Array Value) (k : Nat) : Obj := { cls := .type "tuple", data := .seq its k }
section
variable {prog : Program} {w : World} {A : Around} {E : Value → Shared → Prop} {s : Shared} {h₀ : Heap} {L : Addr} {m : Str → Option Value} {env : Env}
/-- a comprehension's source that is a made tuple -/
def SrcT (prog : Program) (w : World) (A : Around) (h₀ : Heap) (L : Addr) (m : Str → Option Value) (env : Env) (elt : PySem.Expr) (x : Str) (scope : Scope) (cl : List (Str × Addr)) (Q : Value → Shared → Prop) (xv : Value) (s₁ : Shared) : Prop :=
  ∃ ax its k news, xv = .ref ax ∧ A.handled = none ∧ Fr h₀ L s₁.heap m ∧ News h₀ L s₁.heap news ∧ (ax, tupO its k) ∈ news ∧ its.size ≤ sizeLine ∧
    ∀ g, CompRest prog w A h₀ L m env elt x scope cl { s₁ with heap := g } (fun nw => (ax, tupO its k) ∈ nw) (fun i v => its[i]? = some v) (FinE h₀ L m { s₁ with heap := g } Q) its.size 0 [] news
theorem comp_tuple {elt iter : PySem.Expr} {x : Str} {px : Pos} {scope : Scope} {cl : List (Str × Addr)} {pos : Pos} {Q : Value → Shared → Prop} (uF₀ : Fr h₀ L s.heap m)
    (hclos : closureFor scope env = pure cl) (hcell : ∀ y ∈ scope.names, y.2 ≠ .cell) (hkind : scope.kind = .function)
    (hnames : ∀ y ∈ scope.names, y.2 = .local → scope.names.lookup y.1 = some .local) (hx : scope.names.lookup x = some .local)
    (h : wpAny (model prog w) A (eval iter env) (SrcT prog w A h₀ L m env elt x scope cl Q) E s)
    (hs : ∀ x, foldedSetIterable iter env x = pure x := by intro _; rfl) :
    wpAny (model prog w) A (eval (.ListComp elt [⟨.Name x px, iter, [], 0⟩] scope pos) env) Q E s := by
  rw [eval_ListComp]
  refine wpAny_comprehension_free (use := none) rfl hs hclos hkind hnames (wpAny_mono h (fun xv s₁ h₁ => ?_) fun _ _ e => e)
  obtain ⟨ax, its, k, news, rfl, hh, F, N, S, hsz, R⟩ := h₁
  have hl : s₁.heap.IsTuple ax its := ⟨_, (N _ S).1, rfl, k, rfl⟩
  have hlt : ax < s₁.heap.objs.size := Heap.lt_size (N _ S).1
  refine wpAny_pyIter_tuple hl ?_
  have up : ∀ b o, s₁.heap.get? b = some o → (s₁.heap.push { cls := .type "tuple_iterator", data := .fields #[.ref ax, .int 0 0] }).get? b = some o := fun b o e => Heap.get?_push_of_some _ e
  refine block_U (S := fun nw => (ax, tupO its k) ∈ nw) (Walks.tuple hh s₁.heap.objs.size ax (Nat.ne_of_lt hlt) its) hsz (fun i h st => by obtain ⟨o, e, _⟩ := st.1; exact ⟨o, e⟩) (fun i h h' o nw st e e' kp N' S' => ⟨by obtain ⟨o', q, r⟩ := st.1; rw [e] at q; cases q; exact ⟨o, e', r⟩, ⟨_, (N' _ S').1, rfl, k, rfl⟩⟩) hcell hkind hx ⟨⟨_, Heap.get?_push_size _ rfl, rfl, rfl⟩, ⟨_, up _ _ (N _ S).1, rfl, k, rfl⟩⟩ (fun b hb => ?_)
    (F.keeps up) (N.grown up) (Nat.ne_of_lt F.ns.lt) (next_is_new F) (fun p hp => Nat.ne_of_lt (Heap.lt_size (N p hp).1)) S (R _) ?_
  · show b < (s₁.heap.push _).objs.size
    rw [Heap.size_push]
    rcases List.mem_cons.mp hb with rfl | hb
    · exact Nat.lt_succ_self _
    · rw [List.mem_singleton.mp hb]; exact Nat.lt_succ_of_lt hlt
  · intro D C h tk m' ys news' F' N' o1 hn hC₀ hD₀ hCL hDL hCD offC fin
    refine ⟨m', hn, fun h'' hs'' => fin D h'' tk (F'.change hs'' hCL hC₀) (fun p hp => ?_) o1⟩
    refine ⟨hs''.extBut _ _ ?_ (N' p hp).1, (N' p hp).2⟩
    rcases List.mem_cons.mp hp with rfl | hp
    · exact Ne.symm hCD
    · exact offC p hp
/-- a made tuple of two -/
theorem src_two {elt : PySem.Expr} {x : Str} {scope : Scope} {cl : List (Str × Addr)} {Q : Value → Shared → Prop} {ax : Addr} {v1 v2 : Value} {k : Nat} {news : List (Addr × Obj)} {s₁ : Shared}
    (hh : A.handled = none) (F : Fr h₀ L s₁.heap m) (N : News h₀ L s₁.heap news) (hm : (ax, tupO #[v1, v2] k) ∈ news)
    (h : ∀ g I oI C oC D m₂ h tk E', NsObj oC m₂ → m₂ x = some v1 → Fr h₀ L h m → News h₀ L h ((I, oI) :: (C, oC) :: (D, lst []) :: news) → Off3 I C D news → ((@Ne Nat I C) ∧ (@Ne Nat I D) ∧ (@Ne Nat C D)) →
      wpAny (model prog w) A (eval elt (compEnvC scope cl C env)) (CompEnd h₀ L m { { s₁ with heap := g } with heap := h, toks := tk } I oI C oC D (lst []) (fun nw => (ax, tupO #[v1, v2] k) ∈ nw) (fun y1 news1 => ∀ I oI C oC D m₂ h tk E', NsObj oC m₂ → m₂ x = some v2 → Fr h₀ L h m → News h₀ L h ((I, oI) :: (C, oC) :: (D, lst [y1]) :: news1) → Off3 I C D news1 → ((@Ne Nat I C) ∧ (@Ne Nat I D) ∧ (@Ne Nat C D)) →
        wpAny (model prog w) A (eval elt (compEnvC scope cl C env)) (CompEnd h₀ L m { { s₁ with heap := g } with heap := h, toks := tk } I oI C oC D (lst [y1]) (fun nw => (ax, tupO #[v1, v2] k) ∈ nw) (fun y2 news2 => FinE h₀ L m { s₁ with heap := g } Q [y1, y2] news2)) E' { { s₁ with heap := g } with heap := h, toks := tk })) E' { { s₁ with heap := g } with heap := h, toks := tk }) :
    SrcT prog w A h₀ L m env elt x scope cl Q (.ref ax) s₁ := by
  refine ⟨ax, #[v1, v2], k, news, rfl, hh, F, N, hm, by rw [sizeLine_eq]; simp, fun g => ?_⟩
  show CompRest prog w A h₀ L m env elt x scope cl { s₁ with heap := g } (fun nw => (ax, tupO #[v1, v2] k) ∈ nw) (fun i v => (#[v1, v2] : Array Value)[i]? = some v) (FinE h₀ L m { s₁ with heap := g } Q) 2 0 [] news
  refine CompRest.succ fun v I oI C oC D m₂ h' tk E' hP hC hx F' N' off ne => ?_
  have e : v1 = v := by simpa using hP
  subst e
  refine wpAny_mono (h g I oI C oC D m₂ h' tk E' hC hx F' N' off ne) (fun y s₂ hq => ?_) fun _ _ e => e
  obtain ⟨h2, tk2, nw2, e2, F2, N2, off2, hS2, R2⟩ := hq
  refine ⟨h2, tk2, nw2, e2, F2, N2, off2, hS2, ?_⟩
  refine CompRest.succ fun v I oI C oC D m₂ h' tk E' hP hC hx F' N' off ne => ?_
  have e : v2 = v := by simpa using hP
  subst e
  refine wpAny_mono (R2 I oI C oC D m₂ h' tk E' hC hx F' N' off ne) (fun y2 s₂ hq => ?_) fun _ _ e => e
  obtain ⟨h3, tk3, nw3, e3, F3, N3, off3, hS3, R3⟩ := hq
  exact ⟨h3, tk3, nw3, e3, F3, N3, off3, hS3, CompRest.zero R3⟩
end
end Mine
end
-- KM
theorem Mine.atKM : True ∧ True := by
  w_top off
  k_with_none
  first | (walk1; fail) | exact ⟨trivial, trivial⟩
section
open PySem PySem.W PySem.Spec PySem.Calls PyProof.Rows
open PySem.Builtin PySem.Builtin.Str
set_option maxRecDepth 100000
namespace Mine
section
variable {prog : Program} {w : World} {A : Around} {E : Value → Shared → Prop} {s : Shared} {x : Str} {n : Int} {t u : Tok}
theorem mul_int_str {Q : Value → Shared → Prop} (hr : (decide (n < -(2 ^ 63 : Int)) || decide (n ≥ 2 ^ 63)) = false)
    (hb : ¬ n < 1 → (n == 1 || x.length == 0) = false → ¬ ((x.length : Int) > (2 ^ 63 - 1) / n)) (hl : ¬ n < 1 → (n == 1 || x.length == 0) = false → tooLong (x.length * n.toNat) = false)
    (h : (if n < 1 then Made.str Str.empty else if (n == 1 || x.length == 0) = true then Made.val (.str x t) else Made.str ⟨(List.replicate n.toNat x.cps).foldl (· ++ ·) #[]⟩).post Q s) :
    wpAny (model prog w) A (binaryOp .Mult (.int n u) (.str x t)) Q E s :=
  lm_binaryOp_repeat_right (T := "str") (U := "int") (by decide) (fun s' => typeIs_int s' n u) (typeIs_str s x t) F.fills_int_mul noFill_str_mul F.slot_int_mul lm_noRepeat_int repeat_str F.slot_int_index.lookup
    (call_gives F.slot_int_mul (typeIs_int s n u) F.entry_int_mul (F.args_int_mul_2 _ _) (PySem.AutoIntG3.int___mul___int_str_0 n u x t)
      ⟨rfl, typeIs_str s x t, call_gives F.slot_str_mul (typeIs_str s x t) F.entry_str_mul (F.args_str_mul_2 _ _) (gives_str_mul x n t u hr hb hl) h⟩)
theorem mul_three {Q : Value → Shared → Prop} (hx : x.length ≤ 1) (h : ∀ t' k, Q (.str (Txt.mul x 3) t') { s with toks := k }) : wpAny (model prog w) A (binaryOp .Mult (.int 3 u) (.str x t)) Q E s := by
  refine mul_int_str (by decide) (fun _ _ => ?_) (fun _ _ => ?_) ?_
  · have : ((2 : Int) ^ 63 - 1) / 3 = 3074457345618258602 := by decide
    rw [this]; omega
  · unfold tooLong
    rw [decide_eq_false_iff_not, sizeLine_eq]
    show ¬ x.length * 3 > _
    omega
  · unfold Txt.mul at h
    rw [if_neg (by decide)]
    rw [if_neg (by decide)] at h
    refine post_val_or_made (fun hc => fits_reps ?_) fun t' k => h t' k
    unfold tooLong
    rw [decide_eq_false_iff_not, sizeLine_eq]
    show ¬ x.length * 3 > _
    omega
theorem add_ge {y : Str} {Q : Value → Shared → Prop} (hsz : x.length + y.length ≤ sizeLine) (h : ∀ t' k, s.toks ≤ k → (x ++ y).length = x.length + y.length → Q (.str (x ++ y) t') { s with toks := k }) :
    wpAny (model prog w) A (binaryOp .Add (.str x t) (.str y u)) Q E s := by
  have hl := Str.length_append x y
  have he : ∀ z : Str, z.length = 0 → z = Str.empty := fun z hz => Str.ext' (by
    have : z.cps.size = 0 := hz
    exact Array.eq_empty_of_size_eq_zero this)
  refine P.add_str ?_
  by_cases hx : x.length = 0
  · rw [if_pos (by simp [hx])]
    have h' := h u s.toks (Nat.le_refl _) hl
    rw [he x hx, Str.empty_append] at h'
    exact h'
  · rw [if_neg (by simp [hx])]
    by_cases hy : y.length = 0
    · rw [if_pos (by simp [hy])]
      have h' := h t s.toks (Nat.le_refl _) hl
      rw [he y hy, Str.append_empty] at h'
      exact h'
    · rw [if_neg (by simp [hy])]
      exact ⟨by omega, h s.toks (s.toks + 1) (Nat.le_succ _) hl⟩
end
end Mine
end
-- G16
theorem Mine.atG16 : True ∧ True := by
  w_top off
  k_with_none
  k_with "w32" => (k_here; k_dflt (refine comp_tuple (by k_asm) (by with_unfolding_all rfl) (by decide) (by rfl) (by decide) (by rfl) ?_))
  k_with "w33" => (k_here; k_dflt (refine mul_three (by omega) ?_))
  k_with "w34" => (k_here; k_dflt (refine add_ge (by k_extra "adds") ?_))
  k_with "w35" => (k_here; k_dflt (refine SC.replaceW (by refine neN ?_; omega) (by refine neN ?_; omega) (by refine neN ?_; omega) (by decide +kernel) (by omega) (by decide +kernel) ?_))
  k_with "w36" => (k_here; (with_reducible show wpAny _ _ (call (Value.ref 147) _) _ _ _); k_dflt (refine parts_spec (by k_asm) (by k_asm) (by k_asm) (by k_asm) (by k_asm) (by first | exact rfl | assumption) (by first | omega | (dsimp only [ktrTop, Around.deeper] at *; omega)) (by first | omega | (dsimp only [ktrTop, Around.deeper] at *; omega)) (by omega) (by k_extra "rootok") ?_))
  k_with "w2" => ((try dsimp only); (try k_sweep); (try k_fold))
  first | (walk1; fail) | exact ⟨trivial, trivial⟩
section
open PySem PySem.W PySem.Spec PySem.Calls PyProof.Rows
set_option maxRecDepth 100000
set_option maxHeartbeats 8000000
namespace Mine
section
local macro_rules | `(tactic| k_all) => `(tactic| (intro p9 h9; refine neN ?_; k_extra "own"))
local macro_rules | `(tactic| walk_at "eval ListComp") => `(tactic| k_extra "w32")
local macro_rules | `(tactic| walk_at "binaryOp Mult int str") => `(tactic| (k_extra "w33"; intro tm9 km9))
local macro_rules | `(tactic| walk_at "binaryOp Add str str") => `(tactic| (k_extra "w34"; intro t9 k9 hk9 hl9; (try dsimp only at hk9)))
local macro_rules | `(tactic| walk_at "call builtin:str.replace") => `(tactic| (k_extra "w35"; intro tr9 kr9))
local macro_rules | `(tactic| walk_at "SrcT") => `(tactic| k_dflt (k_extra "my src"))
local macro_rules | `(tactic| walk_at "CompEnd") => `(tactic| k_dflt (k_extra "my end"))
local macro_rules | `(tactic| walk_at "call ref") => `(tactic| k_dflt (k_extra "my call"))
local macro_rules | `(tactic| walk_at "exec For Tuple Name cons nil") => `(tactic| (k_here; (rename Fr _ _ _ _ => lF'); (with_unfolding_all refine' For_turns lF' ?_); k_whole))
local macro_rules | `(tactic| walk_at "call ref") => `(tactic| (k_extra "w36"; intro lQ vQ nQ dQ h9 tk9 K9 F9 N9 A9 D9; (try simp only [AllNe, and_true] at A9); k_extra "w2"))
section
variable {w : World} {loose : List Str} {mean : ExcName → Option Value} {mg mb : Str → Option Value}
  {dp un : Nat} {gd : Option (List Code)} {cn : Str} {cs : Scope} {L a : Addr} {ccd : Value} {cl : List (Str × Addr)} {outer : List Env}
  {A₀ : Around} {bs h₀ : Heap} {m : Str → Option Value} {news : List (Addr × Obj)} {s : Shared} {Q E : Value → Shared → Prop}
theorem words_core {number base : Nat} {t1 t2 : Tok} {lp : Addr} {vs : List Value} {kp : Nat} {dl : List (Addr × Obj)} {ps : List (Nat × Nat)} {f : Nat}
    (B : Below A₀ bs outer h₀) (F : Fr h₀ L s.heap m) (X : (Mine.hd.heap_1 w.params).In h₀) (N : News h₀ L s.heap news) (T : Top topProg loose mean mg mb h₀) (hk : cs.kind = .function)
    (hd : dp + f + 1 < 760) (hu : un + 10 * f + 10 < 7500) (hn : 2 ≤ number ∧ number ≤ 64) (hb : 1 ≤ base ∧ base < 64)
    (hps : ∀ p ∈ ps, (2 ≤ p.1 ∧ p.1 ≤ 64) ∧ RootsOk p.1) (hsz : (tailL f ps).length ≤ 1000000) (ih : ∀ p ∈ ps, StdW w loose mean mg mb f p.1 p.2)
    (hl : (lp, listOf vs.toArray kp) ∈ news) (hdl : ∀ p ∈ dl, p ∈ news) (hD : DatAll dl vs (ps.map pD))
    (ret : ∀ x t h' tk', WdP number base f ps x → Keeps s.heap h' → Fr h₀ L h' m → News h₀ L h' news → Q (.str x t) { s with heap := h', toks := tk' }) :
    wpAny (model PySem.Challenge.rw_wj0026_01.row.prog w) (ktrTop dp un gd cn cs L a ccd cl outer) (call (.ref 159) [.int (number : Int) t1, .int (base : Int) t2, .ref lp]) Q E s := by
  k_with_none
  k_with "w32" => (k_here; k_dflt (refine comp_tuple (by k_asm) (by with_unfolding_all rfl) (by decide) (by rfl) (by decide) (by rfl) ?_))
  k_with "w33" => (k_here; k_dflt (refine mul_three (by omega) ?_))
  k_with "w34" => (k_here; k_dflt (refine add_ge (by k_extra "adds") ?_))
  k_with "w35" => (k_here; k_dflt (refine SC.replaceW (by refine neN ?_; omega) (by refine neN ?_; omega) (by refine neN ?_; omega) (by decide +kernel) (by omega) (by decide +kernel) ?_))
  k_with "w36" => (k_here; (with_reducible show wpAny _ _ (call (Value.ref 147) _) _ _ _); k_dflt (refine parts_spec (by k_asm) (by k_asm) (by k_asm) (by k_asm) (by k_asm) (by first | exact rfl | assumption) (by first | omega | (dsimp only [ktrTop, Around.deeper] at *; omega)) (by first | omega | (dsimp only [ktrTop, Around.deeper] at *; omega)) (by omega) (by k_extra "rootok") ?_))
  k_with "w2" => ((try dsimp only); (try k_sweep); (try k_fold))
  revert X; k_fill; intro X
  have hsb : ∀ p ∈ (lp, listOf vs.toArray kp) :: dl, p ∈ news := fun p hp => (List.mem_cons.mp hp).elim (fun e => e ▸ hl) (hdl p)
  refine' enterC (binds := [(Str.ofString "number", Value.int (number : Int) t1), (Str.ofString "base", Value.int (base : Int) t2), (Str.ofString "parts", Value.ref lp)]) (news := (lp, listOf vs.toArray kp) :: dl) B F X ?kN T hk ?k6 ?k7 ?k8 ?k9 ?kB ?c1 ?_ ?c2 ?c3 ?c4
  case kN => exact fun p hp => N p (hsb p hp)
  case k6 => k_is
  case k7 => k_is
  case k8 => (show dp < 1000; omega)
  case k9 => exact BindsTo.of_eq rfl
  case kB => rfl
  case c1 => decide
  case c2 => exact rfl
  case c3 => exact rfl
  case c4 => exact rfl
  intro g L' h₁ tkz cells hg F' N' X0 lt' B' X' T'
  refine shut fun Qf sg sd so tk₀ hQ hQ0 => ?_
  have hY := CellsAre.one X0; obtain ⟨o1', hE, d1'⟩ := hY; subst hE; clear X0
  (try simp only [List.cons_append, List.nil_append] at N')
  replace ret := fun x t h' tk' {Ln : Addr} {mn : Str → Option Value} {nx : List (Addr × Obj)} (hW : WdP number base f ps x) (Fn : Fr g Ln h' mn) (Nn : News g Ln h' nx) (hx : ∀ p ∈ (lp, listOf vs.toArray kp) :: dl, p ∈ nx) =>
    hQ _ _ _ (ret x t h' tk' hW (pure_back N hsb hg Fn Nn hx) (fr_back F (pure_back N hsb hg Fn Nn hx)) (news_back N (pure_back N hsb hg Fn Nn hx)))
  clear hg B F X N T hl hdl
  obtain ⟨ltp, ltd⟩ := lt'
  replace ltp := ltN ltp
  (try dsimp only)
  (try k_fold)
  k_with "own" => (have h8 := allLt_mem (by assumption) _ (by assumption); omega)
  have d1 : (Str.ofString "229(").length = 4 := by decide +kernel
  have d2 : (Str.ofString ")").length = 1 := by decide +kernel
  have d3 := mark_len number
  have d4 := dig_len (show number < 65 by omega)
  have d5 := dig_len (show base < 65 by omega)
  k_with "adds" => (rw [PySem.sizeLine_eq]; omega)
  k_with "my src" => (refine src_two (by rfl) (by k_asm) (by k_asm) (by k_mem) ?_; intro g1 I1 oI1 C1 oC1 D1 m1 h1 tk1 E1 hC1 hx1 F1 N1 off1 ne1; (try k_fold))
  have hl1 := hdS_len number number (by omega)
  have hl2 := hdS_len number base (by omega)
  k_with "my end" => (refine LCg.CompEnd.intro F2 N2 _ (fun p hp => hp) off2 (by k_mem) ?_; intro D3 h3 tk3 F3 N3 o3; (try dsimp only at F3 N3); (try k_fold))
  k_with "my end" => (refine LCg.CompEnd.intro F1 N1 _ (fun p hp => hp) off1 (by k_mem) ?_; intro I2 oI2 C2 oC2 D2 m2 h2 tk2 E2 hC2 hx2 F2 N2 off2 ne2; (try dsimp only at F2 N2); (try k_fold))
  k_with "call builtin:str.join" => (refine join_listC (ys := [hdS number number, hdS number base]) (News.isList N3 (List.Mem.head _)) (.cons _ _ (.cons _ _ .nil)) (by decide +kernel) (by simp only [List.map_cons, List.map_nil, List.sum_cons, List.sum_nil, List.length_cons, List.length_nil]; omega) ?_; intro tj kj; (have hW0 := wd_start (f := f) (show number < 65 by omega) (show base < 65 by omega)); generalize Txt.join (Str.ofString "") [hdS number number, hdS number base] = w0 at hW0 ⊢)
  iterate 8 (iterate 10 (first | (k_unfold; (try dsimp only)) | (k_end; wrow_close) | walk1 | (dsimp only; walk1) | (leave1; try dsimp only)))
  iterate 2 (first | (k_unfold; (try dsimp only)) | (k_end; wrow_close) | walk1 | (dsimp only; walk1) | (leave1; try dsimp only))
  (rename Fr _ _ _ _ => lF)
  (rename News _ _ _ _ => lN)
  refine kst_prs (σ := Str × Tok) (Str.ofString "part") (fun _ => (lp, listOf vs.toArray kp) :: dl) (fun c => [(Str.ofString "words", Value.str c.1 c.2)]) (fun _ => True) [Str.ofString "root", Str.ofString "inner"]
    (fun pre c => WdP number base f pre c.1) (w0, tj) rfl (fun _ => List.Mem.head _) (fun _ => hD.mono fun p hp => List.mem_cons_of_mem _ hp) lF (fun p hp => lN p (List.mem_cons_of_mem _ (List.mem_cons_of_mem _ (List.mem_cons_of_mem _ hp)))) trivial (List.forall_mem_cons.mpr ⟨rfl, fun _ h => nomatch h⟩) hW0 ?_ ?_
  · rintro ⟨x, tx⟩ pre p post a1 u1 u2 n1 u h tk own kEq kOff kM kT kP kFr kNews
    have kMark := kstMark
    have hpm := part_mem kEq
    obtain ⟨hp1, hp2⟩ := hps p hpm
    have hi := ih p hpm
    have hln := wd_len kP
    have htl := tail_len (f := f) kEq
    dsimp only at kP hln
    clear lF lN
    replace kNews : News _ _ _ ((a1, prT p u1 u2 n1) :: (lp, listOf vs.toArray kp) :: (dl ++ own)) := fun q hq => (List.mem_cons.mp hq).elim (fun e => e ▸ kNews _ (List.mem_append_left _ kM)) (kNews q)
    (try dsimp only [kstB] at kFr)
    (try dsimp only at kNews)
    (try k_fold)
    k_with "rootok" => exact hp2
    k_with "my call" => ((rename DatAll _ _ (List.map partD _) => D8); rw [parts_dat hp2] at D8; unfold StdW at hi; refine hi _ _ _ _ _ _ _ _ _ _ _ _ _ _ _ _ _ _ _ _ _ _ _ _ (by k_asm) (by k_asm) (by k_asm) (by k_asm) (by k_asm) rfl (by (show dp + 1 + f < 760); omega) (by (show un + 3 + 10 * f < 7500); omega) (by k_mem) (fun q hq => by simp [hq]) D8 ?_; intro yI tI hI tkI eI KI FI NI; (have hql := quote_len eI))
    k_with "state" => exact wd_turn' kP eI
    have c1 : (Str.ofString "257 \"").length = 5 := by decide +kernel
    have c2 : (Str.ofString "\"").length = 1 := by decide +kernel
    k_with "adds" => (rw [PySem.sizeLine_eq]; omega)
    k_steps
  · rintro ⟨x, tx⟩ u h tk kT kP kFr kNews
    have kMark := kstMark
    clear lF lN
    (try dsimp only [kstB] at kFr)
    (try dsimp only at kNews kP)
    (try k_fold)
    k_steps
    · exact ret _ _ _ _ kP (by k_asm) kNews (fun _ hp => hp)
end
end
end Mine
end
-- G17
theorem Mine.atG17 : True ∧ True := by
  w_top off
  k_with_none
  first | (walk1; fail) | exact ⟨trivial, trivial⟩
section
open PySem PySem.W PySem.Spec PySem.Calls PyProof.Rows
set_option maxRecDepth 100000
namespace Mine
theorem words_std {w : World} {loose : List Str} {mean : ExcName → Option Value} {mg mb : Str → Option Value} : ∀ (f n b : Nat), deepB f n = true → 1 ≤ b ∧ b < 64 → StdW w loose mean mg mb f n b
  | 0, _, _, h, _ => by cases h
  | f + 1, n, b, h, hb => by
    unfold deepB at h
    simp only [Bool.and_eq_true, decide_eq_true_eq, List.all_eq_true] at h
    obtain ⟨⟨⟨h1, h2⟩, h3⟩, h4⟩ := h
    intro t1 t2 lp vs kp dl dp un gd cn cs L a ccd cl outer A₀ bs h₀ m news s Q E B F X N T hk hd hu hl hdl hD ret
    refine words_core (f := f) (ps := partsF n) B F X N T hk (by omega) (by omega) ⟨h1, h2⟩ hb (fun p hp => ?_) (Nat.le_trans h3 (by decide)) (fun p hp => ?_) hl hdl hD ?_
    · obtain ⟨⟨a1, a2⟩, a3⟩ := h4 p hp
      cases f with
      | zero => cases a3
      | succ f =>
        unfold deepB at a3
        simp only [Bool.and_eq_true, decide_eq_true_eq] at a3
        exact ⟨⟨a3.1.1.1, a3.1.1.2⟩, roots_all (by omega)⟩
    · obtain ⟨⟨a1, a2⟩, a3⟩ := h4 p hp
      exact words_std f p.1 p.2 a3 ⟨a1, a2⟩
    · intro x t h' tk' hW K F' N'
      exact ret x t h' tk' hW K F' N'
end Mine
end
-- G21
theorem Mine.atG21 : True ∧ True := by
  w_top off
  k_with_none
  first | (walk1; fail) | exact ⟨trivial, trivial⟩
section
open PySem PySem.W PySem.Spec PySem.Calls PyProof.Rows
set_option maxRecDepth 100000
namespace Mine
theorem PL_small : ∀ q ∈ PL, 2 ≤ q ∧ q ≤ 61 := by decide
theorem parts_lt {n : Nat} (h : n < 65) : ∀ p ∈ partsF n, 2 ≤ p.1 ∧ p.1 < 62 := by
  intro p hp
  unfold partsF at hp
  obtain ⟨q, hq, rfl⟩ := List.mem_map.mp hp
  have := PL_small q (primes_PL n h q hq)
  show 2 ≤ q.toNat ∧ q.toNat < 62
  omega
theorem std_len {f n b : Nat} (hd : deepB f n = true) : (stdL f n b).length ≤ 10022 := by
  cases f with
  | zero => cases hd
  | succ f =>
    unfold deepB at hd
    simp only [Bool.and_eq_true, decide_eq_true_eq] at hd
    obtain ⟨⟨⟨-, -⟩, h3⟩, -⟩ := hd
    rw [stdL_succ]
    have := headL_len n n
    have := headL_len n b
    simp only [List.length_append]
    omega
theorem proved_std {w : World} {loose : List Str} {mean : ExcName → Option Value} {mg mb : Str → Option Value} : ∀ (f n b : Nat), deepB f n = true → n < 64 → 1 ≤ b ∧ b < 64 → PrvW w loose mean mg mb f n b
  | 0, _, _, h, _, _ => by cases h
  | f + 1, n, b, h, hn, hb => by
    have hp := parts_lt (show n < 65 by omega)
    unfold deepB at h
    simp only [Bool.and_eq_true, decide_eq_true_eq, List.all_eq_true] at h
    obtain ⟨⟨⟨h1, h2⟩, h3⟩, h4⟩ := h
    intro x above t1 t2 own nw news dp un gd cn cs L a ccd cl outer A₀ bs h₀ m s Q E TB B F X N hs D T hk C1 C2 hd hu hx hxl ret
    refine proved_core (f := f) (ps := partsF n) TB B F X N hs D T hk C1 C2 (by omega) (by omega) ⟨h1, hn⟩ hb (fun p hp' => ?_) (fun p hp' => ?_) hx hxl ?_
    · have := hp p hp'
      omega
    · obtain ⟨⟨a1, a2⟩, a3⟩ := h4 p hp'
      exact proved_std f p.1 p.2 a3 (by have := hp p hp'; omega) ⟨a1, a2⟩
    · exact ret
end Mine
end
-- LP
theorem Mine.atLP : True ∧ True := by
  w_top off
  k_with_none
  first | (walk1; fail) | exact ⟨trivial, trivial⟩
section
open PySem PySem.W PySem.Spec PySem.Calls PyProof.Rows
set_option maxRecDepth 100000
set_option maxHeartbeats 4000000
namespace Mine
/-- what is known of a part that is handed over -/
def POk (p : Nat × Nat) : Prop := p.1 ∈ AL ∧ 1 ≤ p.2 ∧ p.2 < p.1
theorem partsT_ok : ∀ k < 21, ∀ p ∈ partsT (3 + 2 * k), p.1 ∈ AL ∧ 1 ≤ p.2 ∧ p.2 < p.1 := by decide +kernel
theorem parts_ok {k : Nat} (hk : k < 21) : ∀ p ∈ partsF (3 + 2 * k), POk p := by
  rw [parts_tab (show 3 + 2 * k < 65 by omega)]
  exact partsT_ok k hk
theorem both_ok : ∀ k < 21, (bothF (3 + 2 * k)).toNat ∈ AL := by decide +kernel
theorem AL_ge : ∀ p ∈ AL, 2 ≤ p ∧ p < 39 := by decide
theorem comp_no : ∀ p ∈ [4, 6, 10, 14, 22, 26, 34, 38], ∀ r < p, goesF ((p : Nat) : Int) ((r : Nat) : Int) = false := by decide +kernel
theorem AL_split : ∀ p ∈ AL, ((p : Nat) : Int) ∈ PL ∨ p ∈ [4, 6, 10, 14, 22, 26, 34, 38] := by decide
theorem drawn_ok {p : Nat} {more : Int} (h : p ∈ AL) : POk (p, (1 + more.fmod ((p : Int) - 1)).toNat) := by
  have h1 := (AL_ge p h).1
  have h2 := Int.fmod_nonneg_of_pos more (show (0 : Int) < (p : Int) - 1 by omega)
  have h3 := Int.fmod_lt_of_pos more (show (0 : Int) < (p : Int) - 1 by omega)
  refine ⟨h, ?_, ?_⟩
  · show 1 ≤ (1 + more.fmod ((p : Int) - 1)).toNat
    omega
  · show (1 + more.fmod ((p : Int) - 1)).toNat < p
    omega
theorem pick_tab : ∀ q ∈ [(2 : Int), 3, 5, 7], q ∈ PL ∧ q.toNat ∈ AL ∧ 1 ≤ rootTab q.toNat ∧ rootTab q.toNat < q.toNat := by decide +kernel
theorem pick_ok {more : Int} (h : 0 ≤ more) : POk ((pickF more).toNat, (rootF (pickF more)).toNat) := by
  have hm : pickF more ∈ [(2 : Int), 3, 5, 7] := by
    simp only [List.mem_cons, List.not_mem_nil, or_false]
    exact pick_cases h
  obtain ⟨a1, a2, a3, a4⟩ := pick_tab _ hm
  have e := rootTab_ok _ a1
  unfold POk
  dsimp only
  rw [e]
  exact ⟨a2, a3, a4⟩
theorem last_mem {l : List (Nat × Nat)} (h : l ≠ []) : l.getLastD (0, 0) ∈ l := by
  rw [List.getLastD_eq_getLast?, List.getLast?_eq_some_getLast h]
  exact List.getLast_mem h
theorem hand_ok {k : Nat} {kind more : Int} (hk : k < 21) (hm : 0 ≤ more) : ∀ p ∈ handF (3 + 2 * k) kind more, POk p := by
  intro p hp
  unfold handF at hp
  have P := parts_ok hk
  split at hp
  · exact P p (List.mem_of_mem_drop hp)
  split at hp
  · rcases List.mem_cons.mp hp with e | hp
    · have hb := both_small (3 + 2 * k) (by omega) (by omega)
      have z := drawn_ok (more := more) (both_ok k hk)
      rw [Int.toNat_of_nonneg (by omega)] at z
      rw [e]
      exact z
    · exact P p (List.mem_of_mem_drop hp)
  split at hp
  · rcases List.mem_append.mp hp with hp | hp
    · exact P p (List.dropLast_subset _ hp)
    · rw [List.mem_singleton.mp hp]
      exact drawn_ok (P _ (last_mem (parts_some (3 + 2 * k) (by omega) (by omega)).1)).1
  split at hp
  · rcases List.mem_append.mp hp with hp | hp
    · exact P p hp
    · rw [List.mem_singleton.mp hp]
      exact pick_ok hm
  · exact P p hp
theorem POk.go {p : Nat × Nat} (h : POk p) : (2 ≤ p.1 ∧ p.1 < 64) ∧ (((p.1 : Nat) : Int) ∈ PL ∨ goesF p.1 p.2 = false) ∧ pvF 7 p = if goesF p.1 p.2 = true then p.1 else 0 := by
  obtain ⟨h1, h2, h3⟩ := h
  have hg := AL_ge _ h1
  refine ⟨by omega, ?_, ?_⟩
  · rcases AL_split _ h1 with a | a
    · exact .inl a
    · exact .inr (comp_no _ a _ h3)
  · show provStd 7 p.1 p.2 = _
    rw [prov_tab 7 p.1 p.2 (by omega)]
    exact fa_all h1 h2 h3
theorem POk.words {p : Nat × Nat} (h : POk p) : (2 ≤ p.1 ∧ p.1 ≤ 64) ∧ RootsOk p.1 := by
  have hg := AL_ge _ h.1
  exact ⟨by omega, roots_all (by omega)⟩
theorem POk.std {w : World} {loose : List Str} {mean : ExcName → Option Value} {mg mb : Str → Option Value} {p : Nat × Nat} (h : POk p) : StdW w loose mean mg mb 7 p.1 p.2 := by
  have hg := AL_ge _ h.1
  obtain ⟨h1, h2, h3⟩ := h
  exact words_std 7 p.1 p.2 (deep_all p.1 (by omega) hg.1) (by omega)
theorem POk.prv {w : World} {loose : List Str} {mean : ExcName → Option Value} {mg mb : Str → Option Value} {p : Nat × Nat} (h : POk p) : PrvW w loose mean mg mb 7 p.1 p.2 := by
  have hg := AL_ge _ h.1
  obtain ⟨h1, h2, h3⟩ := h
  exact proved_std 7 p.1 p.2 (deep_all p.1 (by omega) hg.1) (by omega) (by omega)
theorem POk.mnt {p : Nat × Nat} (h : POk p) : (2 ≤ p.1 ∧ p.1 ≤ 64) ∧ p.2 ≤ 64 := by
  have hg := AL_ge _ h.1
  obtain ⟨h1, h2, h3⟩ := h
  omega
theorem law_eq {k b : Nat} {ps : List (Nat × Nat)} (hk : k < 21) (hb : 1 ≤ b ∧ b < 3 + 2 * k) (hp : ∀ p ∈ ps, POk p) : provGo (pvF 7) (3 + 2 * k) b (3 + 2 * k - 1) ps = meantF (3 + 2 * k) b ps :=
  go_eq (by omega) (fb_all hk hb.1 hb.2) ps _ (fun p h => (hp p h).go) (fun q hq => .inl (dvd_PL (3 + 2 * k) (by omega) (by omega) q hq)) (by omega)
theorem tail_len7 {ps : List (Nat × Nat)} (hp : ∀ p ∈ ps, POk p) (hl : ps.length ≤ 5) : (tailL 7 ps).length ≤ 20050 * 5 := by
  have key : ∀ (l : List (Nat × Nat)), (∀ p ∈ l, POk p) → (tailL 7 l).length ≤ 20050 * l.length := by
    intro l
    induction l with
    | nil => intro _; exact Nat.zero_le _
    | cons p r ih =>
      intro h
      have h1 := ih fun q hq => h q (.tail _ hq)
      have hg := AL_ge _ (h p (.head _)).1
      have h2 := std_len (f := 7) (b := p.2) (deep_all p.1 (by omega) hg.1)
      have h3 := (dbl_len 34 (stdL 7 p.1 p.2)).2
      rw [tail_cons, List.length_append, List.length_cons]
      have : (quoteL (stdL 7 p.1 p.2)).length ≤ 20050 := by
        unfold quoteL
        simp only [List.length_append, List.length_cons, List.length_nil]
        omega
      omega
  have := key ps hp
  omega
theorem hand_len {k : Nat} {kind more : Int} (hk : k < 21) : (handF (3 + 2 * k) kind more).length ≤ 5 := by
  have h := (parts_some (3 + 2 * k) (by omega) (by omega)).2.1
  unfold handF
  split
  · rw [List.length_drop]; omega
  split
  · rw [List.length_cons, List.length_drop]; omega
  split
  · rw [List.length_append, List.length_dropLast, List.length_singleton]; omega
  split
  · rw [List.length_append, List.length_singleton]; omega
  · omega
end Mine
end
-- G18
theorem Mine.atG18 : True ∧ True := by
  w_top off
  k_with_none
  k_with "w36" => (k_here; (with_reducible show wpAny _ _ (call (Value.ref 147) _) _ _ _); k_dflt (refine parts_spec (by k_asm) (by k_asm) (by k_asm) (by k_asm) (by k_asm) (by first | exact rfl | assumption) (by first | omega | (dsimp only [ktrTop, Around.deeper] at *; omega)) (by first | omega | (dsimp only [ktrTop, Around.deeper] at *; omega)) (by omega) (by k_extra "rootok") ?_))
  k_with "w2" => ((try dsimp only); (try k_sweep); (try k_fold))
  k_with "w4" => (k_here; (with_reducible show wpAny _ _ (call (Value.ref 128) _) _ _ _); k_dflt (refine primes_spec (by k_asm) (by k_asm) (by k_asm) (by k_asm) (by k_asm) (by first | exact rfl | assumption) (by first | omega | (dsimp only [ktrTop, Around.deeper] at *; omega)) (by first | omega | (dsimp only [ktrTop, Around.deeper] at *; omega)) (by omega) ?_))
  k_with "w37" => (k_here; (with_reducible show wpAny _ _ (call (Value.ref 142) _) _ _ _); k_dflt (refine root_spec (by k_asm) (by k_asm) (by k_asm) (by k_asm) (by k_asm) (by first | exact rfl | assumption) (by first | omega | (dsimp only [ktrTop, Around.deeper] at *; omega)) (by first | omega | (dsimp only [ktrTop, Around.deeper] at *; omega)) (by k_extra "rootok") ?_))
  k_with "w38" => (k_here; k_dflt (refine item_last (by kmk_list) (by k_extra "last") ?_ (by with_unfolding_all rfl)))
  k_with "w39" => (k_here; (with_reducible show wpAny _ _ (binaryOp _ (Value.ref _) (Value.ref _)) _ _ _); k_dflt (refine kmk_add_lit (by k_asm) (by k_asm) (by kmk_list) (by kmk_list) (by exact rfl) ?_ (by k_extra "room")))
  first | (walk1; fail) | exact ⟨trivial, trivial⟩
section
open PySem PySem.W PySem.Spec PySem.Calls PyProof.Rows
set_option maxRecDepth 100000
set_option maxHeartbeats 8000000
namespace Mine
section
local macro_rules | `(tactic| walk_at "call ref") => `(tactic| (k_extra "w36"; intro lQ vQ nQ dQ h9 tk9 K9 F9 N9 A9 D9; (try simp only [AllNe, and_true] at A9); k_extra "w2"))
local macro_rules | `(tactic| walk_at "call ref") => `(tactic| (k_extra "w4"; intro lP vP nP h9 tk9 K9 F9 N9 A9 iP zP; (try simp only [AllNe, and_true] at A9); k_extra "w2"))
local macro_rules | `(tactic| walk_at "call ref") => `(tactic| (k_extra "w37"; intro tR h9 tk9 K9 F9 N9; k_extra "w2"))
local macro_rules | `(tactic| walk_at "subscriptTail Name Slice ref ref") => `(tactic| (k_here; (with_reducible show wpAny _ _ (subscriptTail _ (PySem.Expr.Slice _ _ _ _) (Value.ref _) (Value.ref _)) _ _ _); k_dflt (first
  | (refine' slice_tail ?F ?N ?l ?_ ?s ?t ?z; (case F => k_asm); (case N => k_asm); (case l => kmk_list); (case s => with_unfolding_all rfl); (case t => kmk_pure); (case z => omega))
  | (refine' slice_init ?F ?N ?l ?_ ?s ?t ?z; (case F => k_asm); (case N => k_asm); (case l => kmk_list); (case s => with_unfolding_all rfl); (case t => kmk_pure); (case z => omega))); intro D' h' F' N' l1; (try k_lt l1); (try k_sweep)))
local macro_rules | `(tactic| walk_at "subscriptTail Name UnaryOp ref int") => `(tactic| k_extra "w38")
local macro_rules | `(tactic| walk_at "binaryOp Add ref ref") => `(tactic| (k_extra "w39"; intro D' h' F' N' l1; (try k_lt l1); (try k_sweep)))
section
variable {w : World} {loose : List Str} {mean : ExcName → Option Value} {mg mb : Str → Option Value}
  {dp un : Nat} {gd : Option (List Code)} {cn : Str} {cs : Scope} {L a : Addr} {ccd : Value} {cl : List (Str × Addr)} {outer : List Env}
  {A₀ : Around} {bs h₀ : Heap} {m : Str → Option Value} {news : List (Addr × Obj)} {s : Shared} {Q E : Value → Shared → Prop}
theorem handed_spec {number : Nat} {kind more : Int} {t1 t2 t3 : Tok}
    (B : Below A₀ bs outer h₀) (F : Fr h₀ L s.heap m) (X : (Mine.hd.heap_1 w.params).In h₀) (N : News h₀ L s.heap news) (T : Top topProg loose mean mg mb h₀) (hk : cs.kind = .function)
    (hd : dp < 760) (hu : un < 7600) (hn : 3 ≤ number ∧ number ≤ 64) (hkd : 0 ≤ kind ∧ kind < 8) (hmr : 0 ≤ more ∧ more < 1000000000)
    (ret : ∀ l vs n dl h' tk', Keeps s.heap h' → Fr h₀ L h' m → News h₀ L h' ((l, listOf (List.toArray vs) n) :: (dl ++ news)) → AllNe l news → DatAll dl vs ((handF number kind more).map pD) → Q (.ref l) { s with heap := h', toks := tk' }) :
    wpAny (model PySem.Challenge.rw_wj0026_01.row.prog w) (ktrTop dp un gd cn cs L a ccd cl outer) (call (.ref 154) [.int (number : Int) t1, .int kind t2, .int more t3]) Q E s := by
  k_with_none
  k_with "w36" => (k_here; (with_reducible show wpAny _ _ (call (Value.ref 147) _) _ _ _); k_dflt (refine parts_spec (by k_asm) (by k_asm) (by k_asm) (by k_asm) (by k_asm) (by first | exact rfl | assumption) (by first | omega | (dsimp only [ktrTop, Around.deeper] at *; omega)) (by first | omega | (dsimp only [ktrTop, Around.deeper] at *; omega)) (by omega) (by k_extra "rootok") ?_))
  k_with "w2" => ((try dsimp only); (try k_sweep); (try k_fold))
  k_with "w4" => (k_here; (with_reducible show wpAny _ _ (call (Value.ref 128) _) _ _ _); k_dflt (refine primes_spec (by k_asm) (by k_asm) (by k_asm) (by k_asm) (by k_asm) (by first | exact rfl | assumption) (by first | omega | (dsimp only [ktrTop, Around.deeper] at *; omega)) (by first | omega | (dsimp only [ktrTop, Around.deeper] at *; omega)) (by omega) ?_))
  k_with "w37" => (k_here; (with_reducible show wpAny _ _ (call (Value.ref 142) _) _ _ _); k_dflt (refine root_spec (by k_asm) (by k_asm) (by k_asm) (by k_asm) (by k_asm) (by first | exact rfl | assumption) (by first | omega | (dsimp only [ktrTop, Around.deeper] at *; omega)) (by first | omega | (dsimp only [ktrTop, Around.deeper] at *; omega)) (by k_extra "rootok") ?_))
  k_with "w38" => (k_here; k_dflt (refine item_last (by kmk_list) (by k_extra "last") ?_ (by with_unfolding_all rfl)))
  k_with "w39" => (k_here; (with_reducible show wpAny _ _ (binaryOp _ (Value.ref _) (Value.ref _)) _ _ _); k_dflt (refine kmk_add_lit (by k_asm) (by k_asm) (by kmk_list) (by kmk_list) (by exact rfl) ?_ (by k_extra "room")))
  revert X; k_fill; intro X
  refine' enterA (binds := [(Str.ofString "number", .int (number : Int) t1), (Str.ofString "kind", .int kind t2), (Str.ofString "more", .int more t3)]) B F X News.nil T hk ?k6 ?k7 ?k8 ?k9 ?kB ?c2 ?c3 ?c4 ?c5 ?_
  case k6 => k_is
  case k7 => k_is
  case k8 => (show dp < 1000; omega)
  case k9 => exact BindsTo.of_eq rfl
  case kB => exact locs rfl
  case c2 => exact rfl
  case c3 => exact rfl
  case c4 => exact rfl
  case c5 => decide
  intro g L' h₁ hg F' N' lt' B' X' T'
  refine shut fun Qf sg sd so tk₀ hQ hQ0 => ?_
  have KP : Keeps s.heap g := keeps_hide0 hg
  replace hg : g = s.heap := hg
  replace ret := fun l vs n dl h' tk' (kq9 : Keeps s.heap h') {nx : List (Addr × Obj)} {Ln : Addr} (Nn : News g Ln h' nx) (hm : ∀ p ∈ ((l, listOf (List.toArray vs) n) :: dl), p ∈ nx) hq0 => hQ _ _ _ (ret l vs n dl h' tk' kq9 (fr_back F kq9) (news_more F N kq9 (hg ▸ Nn) hm) (allNe_news N (hg ▸ Nn) (hm _ (.head _))) hq0)
  clear hg B F X N T
  try dsimp only
  (try k_fold)
  have hR := roots_all (show number < 65 by omega)
  obtain ⟨hs1, hs2, hs3⟩ := parts_some number (by omega) hn.1
  have hs4 := both_small number (by omega) hn.1
  have hf2 := half_small hn
  k_with "rootok" => exact hR
  k_with "rootok" => exact pick_root hmr.1
  iterate 1 (iterate 10 (first | (k_unfold; (try dsimp only)) | (k_end; wrow_close) | walk1 | (dsimp only; walk1) | (leave1; try dsimp only)))
  iterate 2 (first | (k_unfold; (try dsimp only)) | (k_end; wrow_close) | walk1 | (dsimp only; walk1) | (leave1; try dsimp only))
  (rename News _ _ _ _ => N8)
  (rename DatAll _ _ _ => D8)
  rw [parts_dat hR] at D8
  obtain ⟨aL, u1, u2, nL, eL, mL, dI⟩ := dat_last D8 hs1
  have hlQ := D8.length
  rw [List.length_map] at hlQ
  rename_i lQ vQ nQ dQ h9 tk9 K9 A9 hx F8
  clear A9
  change (aL, prT (lastF number) u1 u2 nL) ∈ dQ at mL
  replace N8 : News _ _ _ ((lQ, listOf vQ.toArray nQ) :: (aL, prT (lastF number) u1 u2 nL) :: dQ) := fun p hp => N8 p (by
    rcases List.mem_cons.mp hp with h | h
    · exact h ▸ .head _
    · rcases List.mem_cons.mp h with h | h
      · exact List.mem_cons_of_mem _ (List.mem_append_left _ (h ▸ mL))
      · exact List.mem_cons_of_mem _ (List.mem_append_left _ h))
  k_with "last" => exact eL
  k_with "room" => (rw [PySem.sizeLine_eq]; first | (simp; done) | (simp; omega))
  have hb5 : ∀ x : Int, x = 2 * (primesF (((number : Nat) : Int).fdiv 2) ++ [1]).getD 0 0 → 2 ≤ x := fun x e => by rw [e]; exact hs4.1
  k_steps
  all_goals (try dsimp only)
  · have e := hand_4 (n := number) (kind := kind) (more := more) (by assumption)
    exact ret _ (vQ.drop 1) 0 dQ _ _ (keeps_fr KP (by assumption)) (by assumption) (by intro p hp; simp only [List.mem_cons] at hp ⊢; rcases hp with h | h <;> simp [h]) (by rw [e]; exact dat_drop D8)
  · have e := hand_5 (n := number) (kind := kind) (more := more) (by assumption) hs4.1
    (rename News _ _ _ _ => N1)
    refine ret _ (Value.ref _ :: vQ.drop 1) 0 _ _ _ (keeps_fr KP (by assumption)) N1 (List.forall_mem_cons.mpr ⟨List.Mem.head _, fun _ h => h⟩) ?_
    rw [e]
    exact DatAll.cons (DatIn.tuple (by k_mem) (DatAll.cons (.int _ _) (DatAll.cons (.int _ _) .nil))) ((dat_drop D8).mono fun p hp => by simp [hp])
  · have e := hand_6 (n := number) (kind := kind) (more := more) (by assumption) hs3.1
    (rename News _ _ _ _ => N1)
    refine ret _ (vQ.dropLast ++ [Value.ref _]) 0 _ _ _ (keeps_fr KP (by assumption)) N1 (List.forall_mem_cons.mpr ⟨List.Mem.head _, fun _ h => h⟩) ?_
    rw [e]
    exact DatAll.append (dI.mono fun p hp => by simp [hp]) (DatAll.cons (DatIn.tuple (by k_mem) (DatAll.cons (.int _ _) (DatAll.cons (.int _ _) .nil))) .nil)
  · have e := hand_7 (n := number) (kind := kind) (more := more) (by assumption) hmr.1
    (rename News _ _ _ _ => N1)
    refine ret _ (vQ ++ [Value.ref _]) 0 _ _ _ (keeps_fr KP (by assumption)) N1 (List.forall_mem_cons.mpr ⟨List.Mem.head _, fun _ h => h⟩) ?_
    rw [e]
    exact DatAll.append (D8.mono fun p hp => by simp [hp]) (DatAll.cons (DatIn.tuple (by k_mem) (DatAll.cons (.int _ _) (DatAll.cons (.int _ _) .nil))) .nil)
  · have e := hand_0 (n := number) (kind := kind) (more := more) (by assumption) (by assumption) (by assumption) (by assumption)
    exact ret _ vQ nQ dQ _ _ (keeps_fr KP (by assumption)) (by assumption) (by intro p hp; simp only [List.mem_cons] at hp ⊢; rcases hp with h | h <;> simp [h]) (by rw [e]; exact D8)
end
end
end Mine
end
-- ET
theorem Mine.atET : True ∧ True := by
  w_top off
  k_with_none
  first | (walk1; fail) | exact ⟨trivial, trivial⟩
section
open PySem PySem.W PySem.Spec PySem.Calls PyProof.Rows
set_option maxRecDepth 100000
namespace Mine
/-- entering a def that catches, from the outermost frame: the frame's own notes may turn, nothing else -/
theorem enterT {prog : Program} {w : World} {cn : Str} {cs : Scope} {L a : Addr} {ccd : Value} {cl : List (Str × Addr)}
    {A₀ : Around} {base h₀ : Heap} {m mg mb : Str → Option Value} {p : Program} {loose : List Str} {mean : ExcName → Option Value} {K : Frag} {s : Shared} {Q E : Value → Shared → Prop}
    {name qual : Str} {params : Arguments} {body : List Stmt} {scope : Scope} {dV kV doc pm cdv ct oc : Value} {an od : Option Addr} {osl : Array (Option Value)} {f : Addr} {args : List Value} {binds : List (Str × Value)}
    (B : Below A₀ base [] h₀) (F : Fr h₀ L s.heap m) (X₀ : K.In h₀) (T : Top p loose mean mg mb h₀) (hke : cs.kind = .function)
    (ho : K.lookup f = some ⟨oc, od, .func (fnOf name qual params body scope dV kV doc pm an cdv ct), osl⟩) (hcd : codeIn K cdv qual = true)
    (hbind : BindsTo s (fnOf name qual params body scope dV kV doc pm an cdv ct) ⟨args, []⟩ binds) (hloc : ∀ y ∈ binds, scope.names.lookup y.1 = some .local)
    (hco : scope.isCoroutine = false) (hgen : scope.isGenerator = false) (hk : scope.kind = .function)
    (hcell : ∀ x ∈ scope.names, x.2 ≠ .cell)
    (h : ∀ g L' h₁, g = s.heap → Fr g L' h₁ (fun y => binds.reverse.lookup y) → News g L' h₁ [] →
      Below (callerA.deeper (envX cn cs L a ccd cl)) base [envX cn cs L a ccd cl] g → K.In g → Top p loose mean mg mb g → KtsDicts ([envX cn cs L a ccd cl].filterMap (·.frame)) g →
      wpAny (model prog w) ((callerA.deeper (envX cn cs L a ccd cl)).deeper (envOf qual scope L' f cdv)) (execs body (envOf qual scope L' f cdv))
        (fun fl s' => LeaveS0 ([envX cn cs L a ccd cl].filterMap (·.frame)) h₀ L m g (fun r s' => (∀ b o, b ≠ L → s.heap.get? b = some o → s'.heap.get? b = some o) → match r with | .ok (.ret v) => Q v s' | .ok _ => False | .error e => E e s') (match fl with | .ret v => v | _ => .none) s')
        (fun e s' => wpAny (model prog w) ((callerA.deeper (envX cn cs L a ccd cl)).deeper (envOf qual scope L' f cdv)) (leaving (envOf qual scope L' f cdv) e) (fun _ s'' => E e s'') (fun e' s'' => E e' s'') s')
        { s with heap := h₁, toks := s.toks + binds.length }) :
    wpAny (model prog w) (callerA.deeper (envX cn cs L a ccd cl)) (call (.ref f) args) Q E s := by
  obtain ⟨FG, BG, st, -⟩ := groundX (A := callerA.deeper (envX cn cs L a ccd cl)) (R := fun _ _ => True) (env := envX cn cs L a ccd cl) (news := []) B F News.nil rfl rfl hke
  have X := X₀.keeps F.keep
  refine wpAny_call (codeAny_call_def (fd := fnOf name qual params body scope dV kV doc pm an cdv ct) (body := body) (binds := binds) (by show callerA.depth + 1 < recursionLimit; decide) (X _ _ ho) rfl
    (T.nolimit.keeps F.keep) (codeRec_of X hcd) rfl hbind hcell hloc (fun h₁ hns hk₁ => ?_) hco hgen hk)
  obtain ⟨oL, es, ep, hL, hLd, hLk, hLf⟩ := F.ns
  refine wpAny_mono (h s.heap s.heap.objs.size h₁ rfl ⟨hns, hk₁, Nat.le_refl _⟩ News.nil BG X (T.keeps F.keep) (fun b hb => ?_)) (fun fl s' hl => ?_) fun _ _ y => y
  · have e : b = L := by simpa using hb
    subst e
    exact ⟨oL, es, ep, hL, hLd⟩
  · obtain ⟨g', L', m', news', T', F', N', k⟩ := hl
    have nL₀ : h₀.get? L = none := kts_self F
    obtain ⟨sl, hs⟩ := T'.up hL
    refine k ⟨⟨_, es, ep, F'.keep _ _ hs, hLd, hLk, hLf⟩, fun b o e => F'.keep b o (T'.other b o (F.keep b o e) fun q => ?_), F.above⟩ (fun p hp => ⟨(N' p hp).1, fun q => ?_, ?_⟩) fun b o hb e => F'.keep b o (T'.other b o e fun q => hb (by simpa using q))
    · have z : b = L := by simpa using q
      rw [z, nL₀] at e; cases e
    · have := (N' p hp).2.2; rw [q, hs] at this; cases this
    · cases q : h₀.get? p.1 with
      | none => rfl
      | some o =>
        obtain ⟨sl', hs'⟩ := T'.up (F.keep _ _ q)
        have := (N' p hp).2.2
        rw [hs'] at this; cases this
theorem news_butL {h₀ h h' : Heap} {L : Addr} {news : List (Addr × Obj)} (N : News h₀ L h news) (k : ∀ b o, b ≠ L → h.get? b = some o → h'.get? b = some o) : News h₀ L h' news :=
  fun p hp => ⟨k _ _ (N p hp).2.1 (N p hp).1, (N p hp).2⟩
end Mine
end
-- G8
theorem Mine.atG8 : True ∧ True := by
  w_top off
  k_with_none
  first | (walk1; fail) | exact ⟨trivial, trivial⟩
section
open PySem PySem.W PySem.Spec PySem.Calls PyProof.Rows
set_option maxRecDepth 100000
set_option maxHeartbeats 8000000
namespace Mine
def refF (x : Str) : Str := if (Txt.slice x none (some 3) != Str.ofString "229") = true then Str.ofString "reply" else Str.ofString "proto"
theorem ref_reply {x : Str} (h : (Txt.slice x none (some 3) != Str.ofString "229") = true) : refF x = Str.ofString "reply" := if_pos h
theorem ref_proto {x : Str} (h : (Txt.slice x none (some 3) != Str.ofString "229") = false) : refF x = Str.ofString "proto" := if_neg (by rw [h]; exact Bool.false_ne_true)
section
local macro_rules | `(tactic| walk_at "call builtin:str.split") => `(tactic| k_dflt (k_extra "my split"))
local macro_rules | `(tactic| walk_at "execs nil") => `(tactic| (exfalso; k_extra "absurd"))
section
variable {w : World} {loose : List Str} {mean : ExcName → Option Value} {mg mb : Str → Option Value}
  {dp un : Nat} {gd : Option (List Code)} {cn : Str} {cs : Scope} {L a : Addr} {ccd : Value} {cl : List (Str × Addr)} {outer : List Env}
  {A₀ : Around} {bs h₀ : Heap} {m : Str → Option Value} {news : List (Addr × Obj)} {s : Shared} {Q E : Value → Shared → Prop}
theorem ref_spec {reply : Str} {t1 : Tok}
    (B : Below A₀ h₀ [] h₀) (F : Fr h₀ L s.heap m) (X : (Mine.hd.heap_1 w.params).In h₀) (N : News h₀ L s.heap news) (T : Top topProg loose mean mg mb h₀) (hk : cs.kind = .function)
    (hl : reply.length ≤ 1048576)
    (hb1 : Txt.find reply (Str.ofString "(") < 0 ∨ (0 ≤ Txt.find reply (Str.ofString "(") ∧ Txt.find reply (Str.ofString "(") + 1 < reply.length))
    (hb2 : Txt.find3 reply (Str.ofString ")") (Txt.find reply (Str.ofString "(") + 1) < 0 ∨ (1 ≤ Txt.find3 reply (Str.ofString ")") (Txt.find reply (Str.ofString "(") + 1) ∧ Txt.find3 reply (Str.ofString ")") (Txt.find reply (Str.ofString "(") + 1) < reply.length))
    (hno : (Txt.slice reply none (some 3) != Str.ofString "229") = false → 0 ≤ Txt.find reply (Str.ofString "(") → 0 ≤ Txt.find3 reply (Str.ofString ")") (Txt.find reply (Str.ofString "(") + 1) → (Txt.item reply (Txt.find reply (Str.ofString "(") + 1) != Txt.item reply (Txt.find3 reply (Str.ofString ")") (Txt.find reply (Str.ofString "(") + 1) - 1)) = false →
      (Txt.split (Txt.slice reply (some (Txt.find reply (Str.ofString "(") + 1)) (some (Txt.find3 reply (Str.ofString ")") (Txt.find reply (Str.ofString "(") + 1)))) (Txt.item reply (Txt.find reply (Str.ofString "(") + 1))).length ≠ 5)
    (ret : ∀ t h' tk', Fr h₀ L h' m → News h₀ L h' news → Q (.str (refF reply) t) { s with heap := h', toks := tk' }) :
    wpAny (model PySem.Challenge.rw_wj0026_01.row.prog w) (callerA.deeper (envX cn cs L a ccd cl)) (call (.ref 180) [.str reply t1]) Q E s := by
  k_with_none
  revert X; k_fill; intro X
  refine' enterT (binds := [(Str.ofString "reply", Value.str reply t1)]) B F X T hk ?k6 ?k7 ?k9 ?kB ?c2 ?c3 ?c4 ?c5 ?_
  case k6 => k_is
  case k7 => k_is
  case k9 => exact BindsTo.of_eq rfl
  case kB => exact locs rfl
  case c2 => exact rfl
  case c3 => exact rfl
  case c4 => exact rfl
  case c5 => decide
  intro g L' h₁ hg F' N' B' X' T' D'
  try dsimp only
  (try k_fold)
  k_with "absurd" => (rename (_ ≠ 5) => hno9; omega)
  k_with "my split" => (refine KSpl.split1 (by k_asm) (by k_asm) (by rfl) ?_ (by rw [PySem.sizeLine_eq]; have := Txt.slice_le reply (some (Txt.find reply (Str.ofString "(") + 1)) (some (Txt.find3 reply (Str.ofString ")") (Txt.find reply (Str.ofString "(") + 1))); omega); intro D8 l8 h8 k8 e8 a8 F8 N8 l1; have hno8 := hno (by assumption) (by omega) (by omega) (by assumption); rw [← e8, List.length_map] at hno8)
  replace ret := fun t h' tk' (F : Fr h₀ L h' m) k => ret t h' tk' F (news_butL N k)
  k_steps
  all_goals first | (rw [ref_reply (by assumption)] at ret; exact ret _ _ _ (by assumption) (by assumption)) | (rw [ref_proto (by assumption)] at ret; exact ret _ _ _ (by assumption) (by assumption))
end
end
end Mine
end
-- SP
theorem Mine.atSP : True ∧ True := by
  w_top off
  k_with_none
  first | (walk1; fail) | exact ⟨trivial, trivial⟩
section
open PySem PySem.W PySem.Spec PySem.Calls PyProof.Rows
set_option maxRecDepth 100000
set_option maxHeartbeats 4000000
namespace Mine
/-- a reply that is refused, with r told of it -/
structure SpOk (x r : Str) : Prop where
  hl : x.length ≤ 1048576
  hb1 : Txt.find x (Str.ofString "(") < 0 ∨ (0 ≤ Txt.find x (Str.ofString "(") ∧ Txt.find x (Str.ofString "(") + 1 < x.length)
  hb2 : Txt.find3 x (Str.ofString ")") (Txt.find x (Str.ofString "(") + 1) < 0 ∨ (1 ≤ Txt.find3 x (Str.ofString ")") (Txt.find x (Str.ofString "(") + 1) ∧ Txt.find3 x (Str.ofString ")") (Txt.find x (Str.ofString "(") + 1) < x.length)
  hno : (Txt.slice x none (some 3) != Str.ofString "229") = false → 0 ≤ Txt.find x (Str.ofString "(") → 0 ≤ Txt.find3 x (Str.ofString ")") (Txt.find x (Str.ofString "(") + 1) → (Txt.item x (Txt.find x (Str.ofString "(") + 1) != Txt.item x (Txt.find3 x (Str.ofString ")") (Txt.find x (Str.ofString "(") + 1) - 1)) = false →
      (Txt.split (Txt.slice x (some (Txt.find x (Str.ofString "(") + 1)) (some (Txt.find3 x (Str.ofString ")") (Txt.find x (Str.ofString "(") + 1)))) (Txt.item x (Txt.find x (Str.ofString "(") + 1))).length ≠ 5
  hr : refF x = r
def spB (x r : Str) : Bool :=
  let l := Txt.find x (Str.ofString "(")
  let q := Txt.find3 x (Str.ofString ")") (l + 1)
  decide (x.length ≤ 1048576) && decide (l < 0 ∨ (0 ≤ l ∧ l + 1 < x.length)) && decide (q < 0 ∨ (1 ≤ q ∧ q < x.length)) && ((Txt.slice x none (some 3) != Str.ofString "229") || decide (l < 0) || decide (q < 0) || (Txt.item x (l + 1) != Txt.item x (q - 1)) || decide ((Txt.split (Txt.slice x (some (l + 1)) (some q)) (Txt.item x (l + 1))).length ≠ 5)) && decide (refF x = r)
theorem sp_of {x r : Str} (h : spB x r = true) : SpOk x r := by
  unfold spB at h
  simp only [Bool.and_eq_true, Bool.or_eq_true, decide_eq_true_eq] at h
  obtain ⟨⟨⟨⟨h1, h2⟩, h3⟩, h4⟩, h5⟩ := h
  refine ⟨h1, h2, h3, fun z a b c => ?_, h5⟩
  rcases h4 with (((q | q) | q) | q) | q
  · rw [z] at q; cases q
  · omega
  · omega
  · rw [c] at q; cases q
  · exact q
theorem sp_1 : ∀ n < 45, spB (Str.ofString "257" ++ Txt.slice (mkS (headL n n)) (some 3) none) (Str.ofString "reply") = true := by decide +kernel
theorem sp_2 : spB (Str.ofString "229252)") (Str.ofString "proto") = true := by decide +kernel
theorem sp_3 : ∀ n < 45, spB (Txt.slice (mkS (headL n n)) none (some (-1)) ++ Str.ofString "a") (Str.ofString "proto") = true := by decide +kernel
theorem sp_4 : ∀ n < 45, spB (Txt.slice (mkS (headL n n)) none (some 5) ++ Txt.slice (mkS (headL n n)) (some 4) none) (Str.ofString "proto") = true := by decide +kernel
theorem sp_5 : ∀ n < 45, spB (Txt.slice (mkS (headL n n)) none (some 5) ++ Txt.slice (mkS (headL n n)) (some 6) none) (Str.ofString "proto") = true := by decide +kernel
theorem sp_6 : ∀ n < 45, spB (Txt.slice (mkS (headL n n)) none (some (-1)) ++ Str.ofString "a)") (Str.ofString "proto") = true := by decide +kernel
theorem sp_all {n : Nat} {y : Str} (hn : n < 45) (hy : cods y = headL n n) : SpOk (Str.ofString "257" ++ Txt.slice y (some 3) none) (Str.ofString "reply") ∧ SpOk (Str.ofString "229252)") (Str.ofString "proto") ∧ SpOk (Txt.slice y none (some (-1)) ++ Str.ofString "a") (Str.ofString "proto") ∧
    SpOk (Txt.slice y none (some 5) ++ Txt.slice y (some 4) none) (Str.ofString "proto") ∧ SpOk (Txt.slice y none (some 5) ++ Txt.slice y (some 6) none) (Str.ofString "proto") ∧ SpOk (Txt.slice y none (some (-1)) ++ Str.ofString "a)") (Str.ofString "proto") := by
  rw [str_is hy]
  exact ⟨sp_of (sp_1 n hn), sp_of sp_2, sp_of (sp_3 n hn), sp_of (sp_4 n hn), sp_of (sp_5 n hn), sp_of (sp_6 n hn)⟩
section
variable {w : World} {loose : List Str} {mean : ExcName → Option Value} {mg mb : Str → Option Value}
  {cn : Str} {cs : Scope} {L a : Addr} {ccd : Value} {cl : List (Str × Addr)}
  {A₀ : Around} {h₀ : Heap} {m : Str → Option Value} {news : List (Addr × Obj)} {s : Shared} {Q E : Value → Shared → Prop}
theorem ref_sp {reply r : Str} {t1 : Tok} (H : SpOk reply r)
    (B : Below A₀ h₀ [] h₀) (F : Fr h₀ L s.heap m) (X : (Mine.hd.heap_1 w.params).In h₀) (N : News h₀ L s.heap news) (T : Top topProg loose mean mg mb h₀) (hk : cs.kind = .function)
    (ret : ∀ t h' tk', Fr h₀ L h' m → News h₀ L h' news → Q (.str r t) { s with heap := h', toks := tk' }) :
    wpAny (model PySem.Challenge.rw_wj0026_01.row.prog w) (callerA.deeper (envX cn cs L a ccd cl)) (call (.ref 180) [.str reply t1]) Q E s :=
  ref_spec B F X N T hk H.hl H.hb1 H.hb2 H.hno (by rw [H.hr]; exact ret)
end
end Mine
end
-- G19
theorem Mine.atG19 : True ∧ True := by
  w_top off
  k_with_none
  k_with "w1" => (k_here; (with_reducible show wpAny _ _ (call (Value.ref 135) _) _ _ _); k_dflt (refine goes_spec (by k_asm) (by k_asm) (by k_asm) (by k_asm) (by k_asm) (by first | exact rfl | assumption) (by first | omega | (dsimp only [ktrTop, Around.deeper] at *; omega)) (by first | omega | (dsimp only [ktrTop, Around.deeper] at *; omega)) (by omega) (by omega) ?_))
  k_with "w2" => ((try dsimp only); (try k_sweep); (try k_fold))
  first | (walk1; fail) | exact ⟨trivial, trivial⟩
section
open PySem PySem.W PySem.Spec PySem.Calls PyProof.Rows
set_option maxRecDepth 100000
set_option maxHeartbeats 8000000
namespace Mine
section
local macro_rules | `(tactic| walk_at "exec For Tuple Name cons nil") => `(tactic| (k_here; (rename Fr _ _ _ _ => lF'); (with_unfolding_all refine' For_turns lF' ?_); k_whole))
local macro_rules | `(tactic| walk_at "call ref") => `(tactic| (k_extra "w1"; intro h9 tk9 K9 F9 N9; k_extra "w2"))
section
variable {w : World} {loose : List Str} {mean : ExcName → Option Value} {mg mb : Str → Option Value}
  {dp un : Nat} {gd : Option (List Code)} {cn : Str} {cs : Scope} {L a : Addr} {ccd : Value} {cl : List (Str × Addr)} {outer : List Env}
  {A₀ : Around} {bs h₀ : Heap} {m : Str → Option Value} {news : List (Addr × Obj)} {s : Shared} {Q E : Value → Shared → Prop}
theorem meant_spec {number base : Nat} {t1 t2 : Tok} {lp : Addr} {vs : List Value} {kp : Nat} {dl : List (Addr × Obj)} {ps : List (Nat × Nat)}
    (B : Below A₀ bs outer h₀) (F : Fr h₀ L s.heap m) (X : (Mine.hd.heap_1 w.params).In h₀) (N : News h₀ L s.heap news) (T : Top topProg loose mean mg mb h₀) (hk : cs.kind = .function)
    (hd : dp < 760) (hu : un < 7600) (hn : 2 ≤ number ∧ number ≤ 64) (hb : 0 ≤ base ∧ base ≤ 64) (hps : ∀ p ∈ ps, (2 ≤ p.1 ∧ p.1 ≤ 64) ∧ p.2 ≤ 64)
    (hl : (lp, listOf vs.toArray kp) ∈ news) (hdl : ∀ p ∈ dl, p ∈ news) (hD : DatAll dl vs (ps.map pD))
    (ret : ∀ t h' tk', Keeps s.heap h' → Fr h₀ L h' m → News h₀ L h' news → Q (.int ((meantF number base ps : Nat) : Int) t) { s with heap := h', toks := tk' }) :
    wpAny (model PySem.Challenge.rw_wj0026_01.row.prog w) (ktrTop dp un gd cn cs L a ccd cl outer) (call (.ref 187) [.int (number : Int) t1, .int (base : Int) t2, .ref lp]) Q E s := by
  k_with_none
  k_with "w1" => (k_here; (with_reducible show wpAny _ _ (call (Value.ref 135) _) _ _ _); k_dflt (refine goes_spec (by k_asm) (by k_asm) (by k_asm) (by k_asm) (by k_asm) (by first | exact rfl | assumption) (by first | omega | (dsimp only [ktrTop, Around.deeper] at *; omega)) (by first | omega | (dsimp only [ktrTop, Around.deeper] at *; omega)) (by omega) (by omega) ?_))
  k_with "w2" => ((try dsimp only); (try k_sweep); (try k_fold))
  revert X; k_fill; intro X
  have hsb : ∀ p ∈ (lp, listOf vs.toArray kp) :: dl, p ∈ news := fun p hp => (List.mem_cons.mp hp).elim (fun e => e ▸ hl) (hdl p)
  refine' enterA (binds := [(Str.ofString "number", Value.int (number : Int) t1), (Str.ofString "base", Value.int (base : Int) t2), (Str.ofString "parts", Value.ref lp)]) (news := (lp, listOf vs.toArray kp) :: dl) B F X ?kN T hk ?k6 ?k7 ?k8 ?k9 ?kB ?c2 ?c3 ?c4 ?c5 ?_
  case kN => exact fun p hp => N p (hsb p hp)
  case k6 => k_is
  case k7 => k_is
  case k8 => (show dp < 1000; omega)
  case k9 => exact BindsTo.of_eq rfl
  case kB => exact locs rfl
  case c2 => exact rfl
  case c3 => exact rfl
  case c4 => exact rfl
  case c5 => decide
  intro g L' h₁ hg F' N' lt' B' X' T'
  refine shut fun Qf sg sd so tk₀ hQ hQ0 => ?_
  replace ret := fun t h' tk' {Ln : Addr} {mn : Str → Option Value} {nx : List (Addr × Obj)} (Fn : Fr g Ln h' mn) (Nn : News g Ln h' nx) (hx : ∀ p ∈ (lp, listOf vs.toArray kp) :: dl, p ∈ nx) =>
    hQ _ _ _ (ret t h' tk' (pure_back N hsb hg Fn Nn hx) (fr_back F (pure_back N hsb hg Fn Nn hx)) (news_back N (pure_back N hsb hg Fn Nn hx)))
  clear hg B F X N T hl hdl
  obtain ⟨ltp, ltd⟩ := allLt_all lt'
  clear lt'
  replace ltp := ltN ltp
  (try dsimp only)
  (try k_fold)
  have hnI : (2 : Int) ≤ (number : Int) ∧ (number : Int) ≤ 64 := by omega
  iterate 1 (iterate 10 (first | (k_unfold; (try dsimp only)) | (k_end; wrow_close) | walk1 | (dsimp only; walk1) | (leave1; try dsimp only)))
  (rename Fr _ _ _ _ => lF)
  (rename News _ _ _ _ => lN)
  refine kst_prs (σ := Int × Tok) (Str.ofString "part") (fun _ => (lp, listOf vs.toArray kp) :: dl) (fun c => [(Str.ofString "left", Value.int c.1 c.2)]) (fun _ => True) [Str.ofString "root"]
    (fun pre c => MnP number base ps pre c.1) ((number : Int) - 1, _) rfl (fun _ => List.Mem.head _) (fun _ => hD.mono fun p hp => List.mem_cons_of_mem _ hp) lF lN trivial (List.forall_mem_cons.mpr ⟨rfl, fun _ h => nomatch h⟩) (mn_start hn) ?_ ?_
  · rintro ⟨left, tl⟩ pre p post a1 u1 u2 n1 u h tk own kEq kOff kM kT kP kFr kNews
    have kMark := kstMark
    have hpm := part_mem kEq
    obtain ⟨hp1, hp2⟩ := hps p hpm
    dsimp only at kP
    obtain ⟨l, hle, hl1, hl2, hgo⟩ := mn_open kP kEq
    subst hle
    clear lF lN
    replace kNews : News _ _ _ ((a1, prT p u1 u2 n1) :: (lp, listOf vs.toArray kp) :: (dl ++ own)) := fun q hq => (List.mem_cons.mp hq).elim (fun e => e ▸ kNews _ (List.mem_append_left _ kM)) (kNews q)
    have hpI : (2 : Int) ≤ (p.1 : Int) ∧ (p.1 : Int) ≤ 64 := by omega
    (try dsimp only [kstB] at kFr)
    (try dsimp only at kNews)
    (try k_fold)
    k_with "exec While Compare cons nil" => k_while (fun (_ : List Int) left => MnW (stripN l l p.1) p.1 left) (fun (_ : List Int) left => left.toNat) "left"
    k_with "state" => exact mw_start hl1 hl2
    k_with "state" => exact (mw_turn hp1.1 (by assumption) (by assumption)).1
    k_with "state" => exact mw_end (by assumption) (by assumption) rfl kEq hgo hn.1 (by assumption) (by assumption)
    k_with "measure" => exact (mw_turn hp1.1 (by assumption) (by assumption)).2
    k_steps
    · have e := mn_ret1 hn.1 hgo (by assumption)
      (rename News _ _ _ _ => N1)
      have r := fun t tk => ret t _ tk (by k_asm) N1 (fun q hq => by simp only [List.mem_cons, List.mem_append] at hq ⊢; rcases hq with h | h <;> simp [h])
      rw [e] at r
      exact r _ _
    · have e := mn_ret2 hgo (by assumption)
      (rename News _ _ _ _ => N1)
      have r := fun t tk => ret t _ tk (by k_asm) N1 (fun q hq => by simp only [List.mem_cons, List.mem_append] at hq ⊢; rcases hq with h | h <;> simp [h])
      rw [e] at r
      exact r _ _
  · rintro ⟨left, tl⟩ u h tk kT kP kFr kNews
    have kMark := kstMark
    dsimp only at kP
    obtain ⟨l, hle, hgo⟩ := mn_end kP
    subst hle
    clear lF lN
    (try dsimp only [kstB] at kFr)
    (try dsimp only at kNews)
    (try k_fold)
    k_steps
    all_goals (try dsimp only)
    all_goals (rename News _ _ _ _ => N1)
    all_goals (have r := fun t tk => ret t _ tk (by k_asm) N1 (fun q hq => hq))
    · rw [hgo, if_pos ⟨by omega, by assumption⟩] at r
      exact r _ _
    · rw [hgo, if_neg (by rintro ⟨-, q⟩; (rename goesF _ _ = false => q2); rw [q] at q2; cases q2)] at r
      exact r _ _
    · rw [hgo, if_neg (by rintro ⟨q, -⟩; omega)] at r
      exact r _ _
end
end
end Mine
end
-- LW
theorem Mine.atLW : True ∧ True := by
  w_top off
  k_with_none
  k_with "w40" => (k_here; (with_reducible show wpAny _ _ (exec (Stmt.Assign _ (PySem.Expr.ListComp _ [⟨PySem.Expr.Tuple _ _ _, _, _, _⟩] _ _) _) _) _ _ _); k_dflt (refine assign_enum (by k_asm) (by rfl) (by with_unfolding_all rfl) (by with_unfolding_all rfl) (by decide) (by rfl) (by decide) (by rfl) (by rfl) (by decide) (by rfl) (by rfl) ?_))
  k_with "w41" => (k_here; (with_reducible show wpAny _ _ (subscriptTail _ (PySem.Expr.Slice (some _) none (some _) _) (Value.ref _) (Value.ref _)) _ _ _); k_dflt (refine slice_pick (by k_asm) (by k_asm) (by kmk_list) (by l_ints) (by k_extra "short") (by kmk_part) (by kmk_part) (by kmk_part) (by decide) ?_))
  first | (walk1; fail) | exact ⟨trivial, trivial⟩
section
open PySem PySem.W PySem.Spec PySem.Calls PyProof.Rows
set_option maxRecDepth 100000
set_option maxHeartbeats 8000000
namespace Mine
def Gd (y : Value) : Prop := ∃ (n : Int) (t : Tok), y = .int n t ∧ 0 ≤ n ∧ n < 1000000000
theorem four {t1 t2 t3 t4 : Tok} {i : Nat} {v : Value} (h : (#[.int 4 t1, .int 6 t2, .int 0 t3, .int 2 t4] : Array Value)[i]? = some v) : ∃ (c : Int) (t : Tok), v = .int c t ∧ 0 ≤ c ∧ c ≤ 6 ∧ i < 4 := by
  match i, h with
  | 0, h => exact ⟨4, t1, by simpa using h.symm, by decide, by decide, by decide⟩
  | 1, h => exact ⟨6, t2, by simpa using h.symm, by decide, by decide, by decide⟩
  | 2, h => exact ⟨0, t3, by simpa using h.symm, by decide, by decide, by decide⟩
  | 3, h => exact ⟨2, t4, by simpa using h.symm, by decide, by decide, by decide⟩
  | n + 4, h => simp at h
theorem four_list {ys : List Value} (hl : ys.length = 4) (hg : ∀ y ∈ ys, Gd y) : ∃ (d0 : Int) (t0 : Tok) (d1 : Int) (t1 : Tok) (d2 : Int) (t2 : Tok) (d3 : Int) (t3 : Tok), ys = [.int d0 t0, .int d1 t1, .int d2 t2, .int d3 t3] ∧ (0 ≤ d0 ∧ d0 < 1000000000) ∧ (0 ≤ d1 ∧ d1 < 1000000000) ∧ (0 ≤ d2 ∧ d2 < 1000000000) ∧ (0 ≤ d3 ∧ d3 < 1000000000) := by
  match ys, hl with
  | [y0, y1, y2, y3], _ =>
    obtain ⟨d0, t0, e0, h0⟩ := hg y0 (by simp)
    obtain ⟨d1, t1, e1, h1⟩ := hg y1 (by simp)
    obtain ⟨d2, t2, e2, h2⟩ := hg y2 (by simp)
    obtain ⟨d3, t3, e3, h3⟩ := hg y3 (by simp)
    exact ⟨d0, t0, d1, t1, d2, t2, d3, t3, by rw [e0, e1, e2, e3], h0, h1, h2, h3⟩
local macro_rules | `(tactic| walk_at "exec Assign cons ListComp") => `(tactic| k_extra "w40")
local macro_rules | `(tactic| walk_at "call type:enumerate") => `(tactic| (k_here; k_dflt (k_extra "my enum")))
local macro_rules | `(tactic| walk_at "TurnE") => `(tactic| k_dflt (k_extra "my turn"))
local macro_rules | `(tactic| walk_at "CompEnd") => `(tactic| k_dflt (k_extra "my end"))
local macro_rules | `(tactic| walk_at "subscriptTail Name Slice ref ref") => `(tactic| (k_extra "w41"; intro h8 ws8 xs8 hI8 hn8 hm8 F8 N8; (try k_fold)))
local macro_rules | `(tactic| walk_at "binaryOp Mod int int") => `(tactic| (k_here; k_extra "my mod"))
local macro_rules | `(tactic| walk_at "binaryOp Add int int") => `(tactic| (k_here; k_extra "my add"))
local macro_rules | `(tactic| walk_at "call ref") => `(tactic| k_dflt (k_extra "my call"))
local macro_rules | `(tactic| walk_at "CompRest") => `(tactic| (with_unfolding_all first
  | (refine LCg.CompRest.succ ?_; intro v' I' oI' C' oC' D' m' h' tk' E' hv' hC' hx' F' N' off' ne'; lcg_open hv'; clear ne')
  | refine LCg.CompRest.zero ?_))
local macro_rules | `(tactic| walk_at "newList") => `(tactic| (k_here; k_extra "my list"))
local macro_rules | `(tactic| walk_at "binaryOp Mult int ref") => `(tactic| (k_here; k_extra "my mul"))
local macro_rules | `(tactic| walk_at "binaryOp Add ref ref") => `(tactic| (k_here; k_extra "my cat"))
theorem law_holds : PySem.Challenge.rw_wj0026_01.Holds := by
  k_with_none
  k_with "w40" => (k_here; (with_reducible show wpAny _ _ (exec (Stmt.Assign _ (PySem.Expr.ListComp _ [⟨PySem.Expr.Tuple _ _ _, _, _, _⟩] _ _) _) _) _ _ _); k_dflt (refine assign_enum (by k_asm) (by rfl) (by with_unfolding_all rfl) (by with_unfolding_all rfl) (by decide) (by rfl) (by decide) (by rfl) (by rfl) (by decide) (by rfl) (by rfl) ?_))
  k_with "w41" => (k_here; (with_reducible show wpAny _ _ (subscriptTail _ (PySem.Expr.Slice (some _) none (some _) _) (Value.ref _) (Value.ref _)) _ _ _); k_dflt (refine slice_pick (by k_asm) (by k_asm) (by kmk_list) (by l_ints) (by k_extra "short") (by kmk_part) (by kmk_part) (by kmk_part) (by decide) ?_))
  refine hd ?_
  k_go0
  (all_goals try k_fold)
  k_with "my enum" => (refine src_enum (G := Gd) (by rfl) (by k_asm) (by k_asm) (by k_mem) (by rw [PySem.sizeLine_eq]; simp) ?_ ?_; rotate_left; (intro g5 ys5 hl5 hg5; (obtain ⟨d0, t0, d1, t1, d2, t2, d3, t3, hy5, hd0, hd1, hd2, hd3⟩ := four_list hl5 hg5); subst hy5); rotate_left)
  k_with "my turn" => (intro i9 v9 hv9 e9 oe9 I9 oI9 C9 oC9 D9 ys9 m9 h9 tk9 ti9 E9 ce9 cI9 hC9 hx9 hxx9 F9 N9 off9 ne9 offe9; (obtain ⟨c9, tc9, hv9', hc9⟩ := four hv9); subst hv9'; clear hv9; (try dsimp only at F9 N9); (try k_fold))
  k_with "my mod" => ((have zz9 := hd0); with_reducible refine mod_some (by with_unfolding_all first | exact hd0.1 | exact hd1.1 | exact hd2.1) (by omega) ?_; intro rb9 hrb9)
  k_with "my mod" => ((have zz9 := hd0); with_reducible refine mod_some (b := 8) (by with_unfolding_all first | exact hd0.1 | exact hd1.1 | exact hd2.1) (by decide) ?_; intro k8 hk8)
  k_with "my mod" => ((have zz9 := hd0); with_reducible refine mod_some (b := 21) (by with_unfolding_all first | exact hd0.1 | exact hd1.1 | exact hd2.1) (by decide) ?_; intro k21 hk21)
  k_with "short" => (simp only [List.length_map, List.length_take] at *; omega)
  k_with "my end" => ((have zz9 := offe9); refine LCg.CompEnd.intro (by k_asm) (by k_asm) _ (fun p hp => by repeat (first | exact hp | refine List.mem_cons_of_mem _ ?_)) off9 ⟨List.mem_cons_self, fun p hp => List.mem_cons_of_mem _ hp⟩ ⟨_, _, rfl, end_lt hc9 (by assumption) rfl (by assumption)⟩)
  k_with "my add" => ((have zz9 := hrb9); with_reducible refine add_some (by omega) ?_; intro bN hbN)
  k_with "my add" => ((have zz9 := hk21); with_reducible refine add_some (a := 3) (by omega) ?_; intro nN hnN)
  k_with "my call" => ((with_reducible show wpAny _ _ (call (Value.ref 154) _) _ _ _); refine handed_spec (number := nN) (by k_asm) (by k_asm) (by k_asm) (by k_asm) (by k_asm) rfl (by decide) (by decide) (by omega) (by omega) (by with_unfolding_all exact hd3) ?_; intro lQ vQ kQ dQ hQ tkQ KQ FQ NQ AQ DQ; clear KQ AQ; (have hnE : nN = 3 + 2 * k21 := by omega); (have hPS := hand_ok (k := k21) (kind := (k8 : Int)) (more := [d0, d1, d2, d3].getD (Int.toNat 3) 0) (by omega) (by with_unfolding_all exact hd3.1)); (have hPL := hand_len (k := k21) (kind := (k8 : Int)) (more := [d0, d1, d2, d3].getD (Int.toNat 3) 0) (by omega)); rw [← hnE] at hPS hPL; generalize handF nN (k8 : Int) ([d0, d1, d2, d3].getD (Int.toNat 3) 0) = ps at DQ hPS hPL; obtain ⟨dp, edp1, edp2, DP⟩ := dat_pairs DQ; obtain ⟨nw, TB, hnw⟩ : ∃ nw, Tabs nw ∧ ∀ q ∈ nw, q ∈ [(81, tabObj #[]), (88, tabObj #[])] := ⟨_, tabs_start, fun _ h => h⟩; replace NQ := led_cut NQ edp1 hnw (by intro q hq; simp only [List.mem_cons, List.not_mem_nil, or_false] at hq ⊢; rcases hq with e | e <;> simp [e]); clear DQ edp1 hnw; (try dsimp only); (try k_sweep); (try k_fold))
  k_with "my call" => ((with_reducible show wpAny _ _ (call (Value.ref 159) _) _ _ _); refine' words_core (f := 7) (ps := ps) (dl := dp) ?k1 ?k2 ?k3 ?k4 ?k5 ?k6 ?k7 ?k8 ?k9 ?kA ?wH ?wZ ?wI ?wL ?wD DP ?_; (case k1 => k_asm); (case k2 => k_asm); (case k3 => k_asm); (case k4 => k_asm); (case k5 => k_asm); (case k6 => exact rfl); (case k7 => decide); (case k8 => decide); (case k9 => omega); (case kA => omega); (case wH => exact fun p hp => (hPS p hp).words); (case wZ => exact Nat.le_trans (tail_len7 hPS hPL) (by decide)); (case wI => exact fun p hp => (hPS p hp).std); (case wL => exact List.Mem.head _); (case wD => exact fun p hp => by simp [hp]); intro x tx hW tkW HX KW FW NW; clear KW; (have hxl : x.length ≤ 1048576 := Nat.le_trans (wd_len HX) (by have := tail_len7 hPS hPL; omega)); (have hx := HX); unfold WdP at hx; (try dsimp only); (try k_sweep); (try k_fold))
  iterate 16 (iterate 10 (first | (k_unfold; (try dsimp only)) | (k_end; wrow_close) | walk1 | (dsimp only; walk1) | (leave1; try dsimp only)))
  have H1 := head_parse (x := x) (rest := headL nN bN ++ tailL 7 ps) (by rw [hx, List.append_assoc]) (show nN < 65 by omega)
  have hy0 : cods (Txt.slice x none (some (Txt.find x (Str.ofString ")") + 1))) = headL nN nN := by
    have h6 := H1.h6
    have hr := H1.hr
    have hn9 := (head_facts (nN % 5) (Nat.mod_lt _ (by decide)) nN (by omega)).2.2.2.2.1
    rw [headL_mod] at hn9
    rw [h6, slice_to (by omega), hx, List.append_assoc, show ((((headL nN nN).length - 1 : Nat) : Int) + 1).toNat = (headL nN nN).length by omega, List.take_left]
  clear H1
  generalize Txt.slice x none (some (Txt.find x (Str.ofString ")") + 1)) = y at *
  have hyl : 9 ≤ y.length ∧ y.length ≤ 11 := by
    have hn9 := (head_facts (nN % 5) (Nat.mod_lt _ (by decide)) nN (by omega)).2.2.2.2.1
    rw [headL_mod] at hn9
    have := headL_len nN nN
    rw [← cods_length, hy0]
    omega
  obtain ⟨hs1, hs2, hs3, hs4, hs5, hs6⟩ := sp_all (show nN < 45 by omega) hy0
  k_with "my call" => ((with_reducible show wpAny _ _ (call (Value.ref 180) _) _ _ _); refine' ref_sp ?kH ?k1 ?k2 ?k3 ?k4 ?k5 ?k6 ?_; (case kH => with_reducible first | exact hs1 | exact hs2 | exact hs3 | exact hs4 | exact hs5 | exact hs6); (case k1 => k_asm); (case k2 => k_asm); (case k3 => k_asm); (case k4 => k_asm); (case k5 => k_asm); (case k6 => exact rfl); intro tR hR tkR FR NR; (try dsimp only); (try k_sweep); (try k_fold))
  k_with "my end" => ((have zz9 := hs1); refine LCg.CompEnd.intro FR NR _ (fun p hp => hp) (by assumption) (by lcg_src) ?_; clear FR NR; (try dsimp only [List.nil_append, List.cons_append]))
  k_with "my mul" => ((have zz9 := hs1); k_dflt (refine' mul_five ?F ?N ?l ?_; (case F => k_asm); (case N => k_asm); (case l => kmk_list); k_whole); intro D5 h5 F5 N5 hM5; (try dsimp only))
  k_with "my cat" => ((have zz9 := hM5); k_dflt (refine' kmk_add_lit ?F ?N ?a hM5 ?e ?_ ?z; (case F => k_asm); (case N => k_asm); (case a => kmk_list); (case e => exact rfl); (case z => (rw [PySem.sizeLine_eq]; exact Nat.le_of_ble_eq_true rfl)); k_whole); intro D6 h6 F6 N6 l6; clear l6 hM5; (try k_sweep))
  k_with "my list" => ((have zz9 := hs1); k_dflt (refine' newList_K ?k1 ?k2 ?_; (case k1 => k_asm); (case k2 => k_asm); k_whole); intro lL hL FL NL ltL; clear ltL; (try k_sweep))
  k_with "my call" => ((with_reducible show wpAny _ _ (call (Value.ref 173) _) _ _ _); (have hLE : provGo (pvF 7) nN bN (nN - 1) ps = meantF nN bN ps := by subst hnE; exact law_eq (by omega) (by omega) hPS); (rename News _ _ _ _ => NZ); replace NZ : News _ _ _ ((lQ, listOf vQ.toArray kQ) :: (dp ++ nw)) := (fun q hq => NZ q (by repeat (first | exact hq | refine List.mem_cons_of_mem _ ?_))); (have DZ : Dis ((lQ, listOf vQ.toArray kQ) :: dp) nw := dis_kind NZ rfl TB (by rw [List.all_cons, edp2]; rfl)); refine' proved_core (f := 7) (n := nN) (b := bN) (ps := ps) (own := (lQ, listOf vQ.toArray kQ) :: dp) (nw := nw) TB ?k1 ?k2 ?k3 NZ rfl DZ ?k5 rfl ?c1 ?c2 ?kd ?ku ?kn ?kb ?kp ?ki hx hxl ?_; (case k1 => k_asm); (case k2 => k_asm); (case k3 => k_asm); (case k5 => k_asm); (case c1 => assumption); (case c2 => assumption); (case kd => decide); (case ku => decide); (case kn => omega); (case kb => omega); (case kp => exact fun p hp => (hPS p hp).go.1); (case ki => exact fun p hp => (hPS p hp).prv); clear NZ DZ; intro tP nwP hP tkP TBP FP NP DPP; rw [hLE]; clear hLE; (try dsimp only); (try simp only [List.cons_append] at NP); (try k_sweep); (try k_fold))
  k_with "my call" => ((with_reducible show wpAny _ _ (call (Value.ref 187) _) _ _ _); refine' meant_spec (number := nN) (base := bN) (ps := ps) (dl := dp) ?k1 ?k2 ?k3 ?k4 ?k5 rfl ?kd ?ku ?kn ?kb ?kp ?kl ?km DP ?_; (case k1 => k_asm); (case k2 => k_asm); (case k3 => k_asm); (case k4 => k_asm); (case k5 => k_asm); (case kd => decide); (case ku => decide); (case kn => omega); (case kb => omega); (case kp => exact fun p hp => (hPS p hp).mnt); (case kl => exact List.Mem.head _); (case km => exact fun p hp => by simp [hp]); intro tM hM tkM KM FM NM; clear KM; (try dsimp only); (try k_sweep); (try k_fold))
  iterate 22 (iterate 10 (first | (k_unfold; (try dsimp only)) | (k_end; wrow_close) | walk1 | (dsimp only; walk1) | (leave1; try dsimp only)))
  iterate 5 (first | (k_unfold; (try dsimp only)) | (k_end; wrow_close) | walk1 | (dsimp only; walk1) | (leave1; try dsimp only))
  · rw [show (((meantF nN bN ps : Nat) : Int) == ((meantF nN bN ps : Nat) : Int)) = true from beq_self_eq_true _]
    k_end
    kc_close
  · exact grown_of TBP NM (fun q hq => by simp [hq])
end Mine
end
theorem PySem.Challenge.cw_wj0026_01_holds : PySem.Challenge.rw_wj0026_01.Holds :=
  Mine.law_holds
