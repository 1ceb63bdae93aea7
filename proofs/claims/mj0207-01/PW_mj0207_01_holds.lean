import PyProof.Rows.All
import Wide.All
import OpenK.AllK
import Wide.FinOn
import PySem.Challenge.RW_mj0207_01
set_option Elab.async false

section
open PySem PySem.W PyProof.Rows PySem.Calls
namespace Mine
abbrev Pg : Program := PySem.Challenge.pw_mj0207_01

def itemOf : Stmt → Option DefItem
  | .FunctionDef name params body _ _ _ scope _ _ pos => some ⟨name, params, body, scope, pos⟩
  | _ => none
def items : List DefItem := Pg.main.body.filterMap itemOf
def fnNo (n : Nat) : DefItem := (items[n]?).getD ⟨Str.ofString "", ⟨[], [], none, [], [], none, []⟩, [], { kind := .function, names := [], isGenerator := false, isCoroutine := false, more := [] }, ⟨0, 0, 0, 0⟩⟩

def itemNamed (x : Str) : Option DefItem := items.find? (fun e => e.name == x)

/-- A def of the text stands in the heap under its name. -/
def HasDef (mg : Str → Option Value) (h : Heap) (d : DefItem) : Prop :=
  ∃ a o pm cd doc, mg d.name = some (.ref a) ∧ h.get? a = some o ∧ o.data = .func (docDef d.name d.params d.body d.scope pm cd doc) ∧ h.CodeRec cd d.name

def b3Of : Stmt → Option (List (PyData × PyData))
  | .Assign [.Name x _] (.Dict ks vs _) _ => if x == "b3_exceptions" then litPairs ks vs else none
  | _ => none
def b3D : List (PyData × PyData) := (Pg.main.body.findSome? b3Of).getD []
def upFrom (a : Int) (n : Nat) : List Int := (List.range n).map fun (i : Nat) => a + (i : Int)
def b1L : List Int := [173, 847, 6150, 6155, 6156, 6157, 8203, 8204, 8205, 8288, 65279] ++ upFrom 65024 16
def c6L : List Int := upFrom 65529 5
def c7L : List Int := upFrom 12272 12
def c8L : List Int := [832, 833, 8206, 8207] ++ upFrom 8234 5 ++ upFrom 8298 6
def c9L : List Int := [917505] ++ upFrom 917536 96
def setTab : List (Str × List Int) := [("b1_set", b1L), ("c6_set", c6L), ("c7_set", c7L), ("c8_set", c8L), ("c9_set", c9L)]
def HasSet (mg : Str → Option Value) (h : Heap) (p : Str × List Int) : Prop :=
  ∃ a o n, mg p.1 = some (.ref a) ∧ h.get? a = some o ∧ o.IntSetOf (fun i => p.2.contains i) n ∧ n < scanBound

structure Wd (w : World) (mg : Str → Option Value) (h : Heap) : Prop where
  g : h.Ns mainGlobals mg
  b : ∃ mb, h.Ns builtinsNs mb ∧ ∀ x : Str, x ≠ "__name__" → mb x = bootBuiltins x
  nolimit : h.NoLimit
  free : ∀ x : Str, x ∈ (["ord", "chr", "len", "range", "sum", "all", "isinstance", "bool", "set", "list"] : List Str) → mg x = none
  fn : ∀ d ∈ items, HasDef mg h d
  set : ∀ p ∈ setTab, HasSet mg h p
  b3 : ∃ d, mg "b3_exceptions" = some (.ref d) ∧ IntTab Pg w h d b3D
  dots : ∃ t, mg "ELLIPSIS_MARKER" = some (.str "..." t)

theorem Wd.keeps {w : World} {mg : Str → Option Value} {h h' : Heap} (T : Wd w mg h) (hk : ∀ b o, h.get? b = some o → h'.get? b = some o) : Wd w mg h' where
  g := T.g.keeps hk
  b := let ⟨mb, h1, h2⟩ := T.b; ⟨mb, h1.keeps hk, h2⟩
  nolimit := T.nolimit.keeps hk
  free := T.free
  fn := fun d hd => let ⟨a, o, pm, code, doc, h1, h2, h3, h4⟩ := T.fn d hd; ⟨a, o, pm, code, doc, h1, hk _ _ h2, h3, h4.keeps hk⟩
  set := fun p hp => let ⟨a, o, n, h1, h2, r⟩ := T.set p hp; ⟨a, o, n, h1, hk _ _ h2, r⟩
  b3 := let ⟨d, h1, h2⟩ := T.b3; ⟨d, h1, h2.keep hk⟩
  dots := T.dots


section
variable {M : Model} {A : Around} {E : Value → Shared → Prop} {s : Shared} {name : Str} {scope : Scope} {L a : Addr} {cd : Value} {h₀ : Heap} {m : Str → Option Value}
  {w : World} {mg : Str → Option Value} {x : Str} {pos : Pos} {Q : Value → Shared → Prop}

theorem nm_builtin {v : Value} (F : Fr h₀ L s.heap m) (T : Wd w mg h₀) (hx : x ∈ (["ord", "chr", "len", "range", "sum", "all", "isinstance", "bool", "set", "list"] : List Str)) (hv : bootBuiltins x = some v) (h : Q v s)
    (hn : x ≠ "__name__" := by decide +kernel)
    (hk : scope.kind = .function := by rfl) (hl : (envOf name scope L a cd).kindOf x = some .globalImplicit := by rfl) (hd : (x == ("__debug__" : Str)) = false := by decide) :
    wpAny M A (eval (.Name x pos) (envOf name scope L a cd)) Q E s :=
  let ⟨_, hb, hbs⟩ := T.b
  ld_builtin_at F T.g (T.free x hx) hb ((hbs x hn).trans hv) h hk hl hd

theorem nm_def (F : Fr h₀ L s.heap m) (T : Wd w mg h₀) (hfind : (itemNamed x).isSome = true) (h : ∀ f, mg x = some (.ref f) → Q (.ref f) s)
    (hk : scope.kind = .function := by rfl) (hl : (envOf name scope L a cd).kindOf x = some .globalImplicit := by rfl) (hd : (x == ("__debug__" : Str)) = false := by decide) :
    wpAny M A (eval (.Name x pos) (envOf name scope L a cd)) Q E s := by
  obtain ⟨d, hfind⟩ := Option.isSome_iff_exists.mp hfind
  have hn : d.name = x := beq_iff_eq.mp (List.find?_some (p := fun e : DefItem => e.name == x) hfind)
  obtain ⟨f, o, pm, code, doc, h1, h2, h3, h4⟩ := T.fn d (List.mem_of_find?_eq_some hfind)
  exact ld_global_at F T.g (hn ▸ h1) (h f (hn ▸ h1)) hk hl hd
theorem nm_set {ns : List Int} (F : Fr h₀ L s.heap m) (T : Wd w mg h₀) (hp : (x, ns) ∈ setTab)
    (h : ∀ b n, s.heap.SetOf (intKind Pg w) b (fun i => ns.contains i) n → Q (.ref b) s)
    (hk : scope.kind = .function := by rfl) (hl : (envOf name scope L a cd).kindOf x = some .globalImplicit := by rfl) (hd : (x == ("__debug__" : Str)) = false := by decide) :
    wpAny M A (eval (.Name x pos) (envOf name scope L a cd)) Q E s := by
  obtain ⟨b, o, n, h1, h2, h3, h4⟩ := T.set _ hp
  exact ld_global_at F T.g h1 (h b n ((h3 Pg w).setOf (F.keep _ _ h2) h4)) hk hl hd

theorem nm_b3 (F : Fr h₀ L s.heap m) (T : Wd w mg h₀) (hx : x = "b3_exceptions") (h : ∀ b, IntTab Pg w s.heap b b3D → Q (.ref b) s)
    (hk : scope.kind = .function := by rfl) (hl : (envOf name scope L a cd).kindOf x = some .globalImplicit := by rfl) (hd : (x == ("__debug__" : Str)) = false := by decide) :
    wpAny M A (eval (.Name x pos) (envOf name scope L a cd)) Q E s := by
  obtain ⟨b, h1, h2⟩ := T.b3
  exact ld_global_at F T.g (hx ▸ h1) (h b (h2.keep F.keep)) hk hl hd

theorem nm_dots (F : Fr h₀ L s.heap m) (T : Wd w mg h₀) (hx : x = "ELLIPSIS_MARKER") (h : ∀ t, Q (.str "..." t) s)
    (hk : scope.kind = .function := by rfl) (hl : (envOf name scope L a cd).kindOf x = some .globalImplicit := by rfl) (hd : (x == ("__debug__" : Str)) = false := by decide) :
    wpAny M A (eval (.Name x pos) (envOf name scope L a cd)) Q E s := by
  obtain ⟨t, h1⟩ := T.dots
  exact ld_global_at F T.g (hx ▸ h1) (h t) hk hl hd
end

def Keeps (h h' : Heap) : Prop := ∀ b o, h.get? b = some o → h'.get? b = some o
theorem Keeps.refl (h : Heap) : Keeps h h := fun _ _ e => e
theorem Keeps.trans {a b c : Heap} (x : Keeps a b) (y : Keeps b c) : Keeps a c := fun i o e => y i o (x i o e)

/-- Room for n calls more. -/
def Ok (n : Nat) (A : Around) : Prop := A.depth + 3 * n < 900 ∧ A.units + 40 * n < 9000 ∧ A.handled = none
theorem Ok.deeper {n : Nat} {A : Around} (h : Ok (n + 1) A) (e : Env) : Ok n (A.deeper e) := by
  obtain ⟨h1, h2, h3⟩ := h
  refine ⟨?_, ?_, h3⟩
  · show A.depth + 1 + 3 * n < 900; omega
  · show A.units + 3 + 40 * n < 9000; omega
theorem Ok.in1 {n : Nat} {A : Around} (h : Ok (n + 1) A) : Ok n A.in1 := by
  obtain ⟨h1, h2, h3⟩ := h
  refine ⟨?_, ?_, h3⟩
  · show A.depth + 3 * n < 900; omega
  · show A.units + 1 + 40 * n < 9000; omega
theorem Ok.less {n : Nat} {A : Around} (h : Ok (n + 1) A) : Ok n A := ⟨by have := h.1; omega, by have := h.2.1; omega, h.2.2⟩
theorem Ok.of_le {n m : Nat} {A : Around} (h : Ok n A) (hm : m ≤ n) : Ok m A := ⟨by have := h.1; omega, by have := h.2.1; omega, h.2.2⟩

theorem frKept {h₀ h h' : Heap} {L : Addr} {m : Str → Option Value} (F : Fr h₀ L h m) (hk : Keeps h h') : Fr h₀ L h' m := ⟨F.ns.keeps hk, fun b o e => hk b o (F.keep b o e), F.above⟩
theorem newsKept {h₀ h h' : Heap} {L : Addr} {n : List (Addr × Obj)} (N : News h₀ L h n) (hk : Keeps h h') : News h₀ L h' n := fun p hp => ⟨hk _ _ (N p hp).1, (N p hp).2⟩

def Back (h : Heap) (Q : Value → Shared → Prop) (fl : Flow) (s' : Shared) : Prop := Keeps h s'.heap ∧ (Keeps h s'.heap → Q (match fl with | .ret v => v | _ => .none) s')
theorem Back.ret {h : Heap} {Q : Value → Shared → Prop} {v : Value} {s' : Shared} {L : Addr} {m : Str → Option Value} (F : Fr h L s'.heap m) (hq : Keeps h s'.heap → Q v s') : Back h Q (.ret v) s' := ⟨F.keep, hq⟩

theorem call_item {w : World} {A : Around} {E : Value → Shared → Prop} {s : Shared} {mg : Str → Option Value} {Q : Value → Shared → Prop} {x : Str} {d : DefItem} {f : Addr} {vals : List Value} {binds : List (Str × Value)}
    (T : Wd w mg s.heap) (hf : mg x = some (.ref f)) (hfind : itemNamed x = some d) {n : Nat} (hA : Ok (n + 1) A)
    (hbind : ∀ pm cd doc, bindArgs (docDef d.name d.params d.body d.scope pm cd doc) ⟨vals, []⟩ = pure binds)
    (hloc : ∀ x ∈ binds, d.scope.names.lookup x.1 = some .local)
    (h : ∀ h₁ L cd, s.heap.objs.size ≤ L → Fr s.heap L h₁ (fun x => binds.reverse.lookup x) → News s.heap L h₁ [] → Ok n (A.deeper (envOf d.name d.scope L f cd)) → (A.deeper (envOf d.name d.scope L f cd)).handled = none →
      wpAny (model Pg w) (A.deeper (envOf d.name d.scope L f cd)) (execs d.body (envOf d.name d.scope L f cd))
        (Back s.heap Q) (fun _ _ => False)
        { s with heap := h₁, toks := s.toks + binds.length })
    (hco : d.scope.isCoroutine = false := by rfl) (hgen : d.scope.isGenerator = false := by rfl) (hk : d.scope.kind = .function := by rfl)
    (hcell : ∀ x ∈ d.scope.names, x.2 ≠ .cell := by decide) :
    wpAny (model Pg w) A (call (.ref f) vals) Q E s := by
  have hn : d.name = x := beq_iff_eq.mp (List.find?_some (p := fun e : DefItem => e.name == x) hfind)
  obtain ⟨f', o, pm, code, doc, h1, h2, h3, h4⟩ := T.fn d (List.mem_of_find?_eq_some hfind)
  obtain rfl : f' = f := by rw [hn, hf] at h1; injection h1 with h1; injection h1 with h1; exact h1.symm
  refine wpAny_call (call_plain_ret (by have := hA.1; unfold recursionLimit; omega) h2 h3 T.nolimit h4 (hbind _ _ _) hloc (fun h₁ F => ?_) hco hgen hk hcell)
  exact wpAny_mono (h h₁ _ code (Nat.le_refl _) F News.nil (hA.deeper _) hA.2.2) (fun fl s' hh => hh.2 hh.1) fun _ _ hh => hh

theorem callWith_item {M : Model} {A : Around} {E : Value → Shared → Prop} {s : Shared} {w : World} {mg : Str → Option Value} {h₀ : Heap} {x : Str} {f : Addr} {pos : Pos} {env : Env} {e : PySem.Expr} {rest : List PySem.Expr} {Q : Value → Shared → Prop}
    (T : Wd w mg h₀) (hf : mg x = some (.ref f)) (hx : (itemNamed x).isSome = true)
    (h : wpAny M A (spliced (backTo pos (starEach (e :: rest) env))) (fun vs s₁ => Keeps h₀ s₁.heap ∧ wpAny M A (call (.ref f) vs) Q E s₁) E s)
    (he : starEach (e :: rest) env = (false, eval e env) :: starEach rest env := by rfl) :
    wpAny M A (callWith pos (.ref f) [] (backTo pos (starEach (e :: rest) env)) []) Q E s := by
  obtain ⟨d, hfind⟩ := Option.isSome_iff_exists.mp hx
  have hn : d.name = x := beq_iff_eq.mp (List.find?_some (p := fun e : DefItem => e.name == x) hfind)
  obtain ⟨f', o, pm, code, doc, h1, h2, h3, h4⟩ := T.fn d (List.mem_of_find?_eq_some hfind)
  obtain rfl : f' = f := by rw [hn, hf] at h1; injection h1 with h1; injection h1 with h1; exact h1.symm
  exact callWith_def h3 (wpAny_mono h (fun vs s₁ hh => ⟨hh.1 _ _ h2, hh.2⟩) fun _ _ x => x) he

theorem item_tmp {w : World} {A : Around} {E : Value → Shared → Prop} {s : Shared} {value slice : PySem.Expr} {l : Addr} {vs : List Value} {ns : List Int} {k : Int} {u : Tok} {Q : Value → Shared → Prop}
    (hl : s.heap.IsList l vs.toArray) (hi : IntsAre vs ns) (h0 : 0 ≤ k) (h1 : k < ns.length) (hhi : k < 2 ^ 63) (h : ∀ t, Q (.int (ns.getD k.toNat 0) t) s)
    (hs : subscripted slice false (.ref l) (.int k u) = operate [.ref l, .int k u] (getItem (.ref l) (.int k u)) := by with_unfolding_all rfl) :
    wpAny (model Pg w) A (subscriptTail value slice (.ref l) (.int k u)) Q E s := by
  have hlt : k.toNat < ns.length := by omega
  obtain ⟨t, ht⟩ := hi.get k.toNat (ns.getD k.toNat 0) (by rw [List.getD_eq_getElem?_getD, List.getElem?_eq_getElem hlt]; rfl)
  exact tail_any hl.typeIs slot_list_getitem.lookup (wpAny_getItem_list hl h0 hhi (by simpa using ht) (h t)) hs

theorem fmod_lt {k m : Int} (h : 0 < m) : 0 ≤ k.fmod m ∧ k.fmod m < m := by
  rw [Int.fmod_eq_emod_of_nonneg _ (Int.le_of_lt h)]; exact ⟨Int.emod_nonneg _ (by omega), Int.emod_lt_of_pos _ h⟩
def one (i : Int) : Str := ⟨#[i.toNat]⟩

end Mine
end

section
open PySem PySem.W PyProof.Rows PySem.Calls
namespace Mine
set_option maxRecDepth 100000
local macro_rules | `(tactic| walk_at "eval Name") => `(tactic| (refine nm_builtin (by assumption) (by assumption) (by decide +kernel) (by rfl) ?_))
local macro_rules | `(tactic| walk_at "eval Name") => `(tactic| (refine nm_def (by assumption) (by assumption) (by decide +kernel) ?_; intro _ _))

local macro_rules | `(tactic| walk_at "subscriptTail List") => `(tactic| ((with_reducible show wpAny _ _ (subscriptTail _ _ (Value.ref _) (Value.int _ _)) _ _ _); (with_unfolding_all refine' item_tmp ?k1 ?k2 ?k3 ?k4 ?k5 ?_; (case k1 => is_list); (case k2 => l_ints); (case k3 => l_idx); (case k4 => l_idx); (case k5 => l_idx)); intro _))

def nothingL : List Int := [173, 847, 6150, 6155, 6156, 6157, 8203, 8204, 8205, 8288, 65279]
def nothingI (k : Int) : Int := if k.fmod 27 < 11 then nothingL.getD (k.fmod 27).toNat 0 else 65024 + k.fmod 27 - 11
theorem nothing_range : ∀ n : Nat, n < 11 → 0 ≤ nothingL.getD n 0 ∧ nothingL.getD n 0 ≤ 1114111 := by decide

set_option maxHeartbeats 4000000 in
theorem nothing_spec {w : World} {A : Around} {E : Value → Shared → Prop} {s : Shared} {mg : Str → Option Value} {Q : Value → Shared → Prop} {f : Addr} {k : Int} {t : Tok}
    (T : Wd w mg s.heap) (hf : mg "_law_nothing" = some (.ref f)) (hA : Ok 1 A)
    (h : ∀ x u h' tk, x = one (nothingI k) → Keeps s.heap h' → Q (.str x u) { s with heap := h', toks := tk }) :
    wpAny (model Pg w) A (call (.ref f) [.int k t]) Q E s := by
  obtain ⟨d, hd⟩ : ∃ d, d = fnNo 8 := ⟨_, rfl⟩
  have hfind : itemNamed "_law_nothing" = some d := by rw [hd]; rfl
  conv at hd => rhs; whnf
  subst hd
  refine call_item (binds := [("k", .int k t)]) T hf hfind hA (fun _ _ _ => by rfl) (locs rfl) (fun h₁ L cd hL F N hA' hh' => ?_)
  clear hfind
  dsimp only at hA' hh' ⊢
  have hm := fmod_lt (k := k) (m := 27) (by decide)
  repeat' walk1
  · rename_i hlt _
    have := nothing_range (k.fmod 27).toNat (by omega)
    refine chr_of_range this.1 this.2 (Back.ret (by assumption) (fun hk => h _ _ _ _ ?_ hk))
    unfold one nothingI; rw [if_pos hlt]; rfl
  · rename_i hlt
    refine Back.ret (by assumption) (fun hk => h _ _ _ _ ?_ hk)
    unfold one nothingI; rw [if_neg hlt]

def spelledL : List Int := [0, 1, 2, 4, 7, 8, 9, 10, 11, 12]
def spelledI (l how : Int) : Int := if how.fmod 12 = 0 then 97 + l else if how.fmod 12 = 1 then 65 + l else 119808 + 52 * spelledL.getD (how.fmod 12 - 2).toNat 0 + l
theorem spelled_range : ∀ n : Nat, n < 10 → 0 ≤ spelledL.getD n 0 ∧ spelledL.getD n 0 ≤ 12 := by decide

set_option maxHeartbeats 4000000 in
theorem spelled_spec {w : World} {A : Around} {E : Value → Shared → Prop} {s : Shared} {mg : Str → Option Value} {Q : Value → Shared → Prop} {f : Addr} {l k : Int} {t t' : Tok}
    (T : Wd w mg s.heap) (hf : mg "_law_spelled" = some (.ref f)) (hA : Ok 1 A) (h0 : 0 ≤ l) (h1 : l ≤ 1)
    (h : ∀ x u h' tk, x = one (spelledI l k) → Keeps s.heap h' → Q (.str x u) { s with heap := h', toks := tk }) :
    wpAny (model Pg w) A (call (.ref f) [.int l t, .int k t']) Q E s := by
  obtain ⟨d, hd⟩ : ∃ d, d = fnNo 10 := ⟨_, rfl⟩
  have hfind : itemNamed "_law_spelled" = some d := by rw [hd]; rfl
  conv at hd => rhs; whnf
  subst hd
  refine call_item (binds := [("letter", .int l t), ("how", .int k t')]) T hf hfind hA (fun _ _ _ => by rfl) (locs rfl) (fun h₁ L cd hL F N hA' hh' => ?_)
  clear hfind
  dsimp only at hA' hh' ⊢
  have hm := fmod_lt (k := k) (m := 12) (by decide)
  repeat' walk1
  · refine Back.ret (by assumption) (fun hk => h _ _ _ _ ?_ hk)
    unfold one spelledI; rw [if_pos (by assumption)]
  · refine Back.ret (by assumption) (fun hk => h _ _ _ _ ?_ hk)
    unfold one spelledI; rw [if_neg (by assumption), if_pos (by assumption)]
  · have := spelled_range (k.fmod 12 - 2).toNat (by omega)
    have e : [(0:Int), 1, 2, 4, 7, 8, 9, 10, 11, 12].getD (k.fmod 12 - 2).toNat 0 = spelledL.getD (k.fmod 12 - 2).toNat 0 := rfl
    refine chr_of_range (by omega) (by omega) (Back.ret (by assumption) (fun hk => h _ _ _ _ ?_ hk))
    unfold one spelledI; rw [if_neg (show ¬ k.fmod 12 = 0 by assumption), if_neg (show ¬ k.fmod 12 = 1 by assumption)]; rfl


def runsL : List (Int × Int) := [(832, 2), (8206, 2), (8234, 5), (8298, 6), (12272, 12), (64976, 32), (65529, 7), (917505, 1), (917536, 96)]
def scanRuns : List (Int × Int) → Int → Int
  | [], p => 65536 * (1 + p.fdiv 2) + 65534 + p.fmod 2
  | (a, m) :: r, p => if p < m then a + p else scanRuns r (p - m)
def forbiddenI (k : Int) : Int := scanRuns runsL (k.fmod 195)


local macro_rules | `(tactic| walk_at "eval Name") => `(tactic| (refine ld (by assumption) (by ((try dsimp only); (repeat (refine (if_neg (by decide)).trans ?_)); first | exact if_pos rfl | assumption)) ?_))

def tupObj (a m : Int) (t u : Tok) : Obj := { cls := .type "tuple", data := .seq #[.int a t, .int m u] }
theorem runs_range : ∀ j : Nat, j < 9 → ∀ a m : Int, runsL[j]? = some (a, m) → runsL.drop j = (a, m) :: runsL.drop (j + 1) ∧ 0 ≤ a ∧ a + m ≤ 1114111 ∧ 0 ≤ m := by
  intro j hj a m hr
  have : j = 0 ∨ j = 1 ∨ j = 2 ∨ j = 3 ∨ j = 4 ∨ j = 5 ∨ j = 6 ∨ j = 7 ∨ j = 8 := by omega
  rcases this with rfl | rfl | rfl | rfl | rfl | rfl | rfl | rfl | rfl <;> (simp [runsL] at hr; obtain ⟨rfl, rfl⟩ := hr; refine ⟨rfl, ?_, ?_, ?_⟩ <;> decide)

set_option maxHeartbeats 8000000 in
theorem forbidden_loop {w : World} {A : Around} {s : Shared} {hp₂ : Heap} {tk₂ : Nat} {mg : Str → Option Value} {Q : Value → Shared → Prop} {f L : Addr} {cd : Value} {k : Int} {d : DefItem} {news : List (Addr × Obj)} {items : Array Value} {fp : List Addr}
    {tgt iter : PySem.Expr} {body orelse : List Stmt} {pos : Pos} {st1 st2 st4 : Stmt}
    (hd : d = fnNo 9) (hb : d.body = [st1, st2, .For tgt iter body orelse pos, st4])
    (hit : ∀ (j : Nat) (v : Value), items[j]? = some v → ∃ a m t u x, runsL[j]? = some (a, m) ∧ v = .ref x ∧ (x, tupObj a m t u) ∈ news)
    (T : Wd w mg s.heap) (hh' : (A.deeper (envOf d.name d.scope L f cd)).handled = none)
    (h : ∀ x u h' tk, x = one (forbiddenI k) → Keeps s.heap h' → Q (.str x u) { s with heap := h', toks := tk }) :
    ∀ (n j : Nat), n + j = 9 → ∀ (m₁ : Str → Option Value) (p : Int) (t : Tok), m₁ "place" = some (.int p t) → 0 ≤ p → p < 32 + ((runsL.drop j).map (·.2)).sum → scanRuns (runsL.drop j) p = forbiddenI k →
      Unr Pg w (A.deeper (envOf d.name d.scope L f cd)) (fun _ _ => False) s.heap (envOf d.name d.scope L f cd) tgt body
        (fun fl s' => match fl with | .next => wpAny (model Pg w) (A.deeper (envOf d.name d.scope L f cd)) (execs [st4] (envOf d.name d.scope L f cd)) (Back s.heap Q) (fun _ _ => False) s' | fl => Back s.heap Q fl s')
        (fun i v => items[i]? = some v) fp { s with heap := hp₂, toks := tk₂ } n j m₁ news := by
  conv at hd => rhs; whnf
  subst hd
  dsimp only at hb hh' ⊢
  injection hb with e1 hb
  injection hb with e2 hb
  injection hb with e3 hb
  injection hb with e4 hb
  injection e3 with e5 e6 e7 e8
  subst e1 e2 e4 e5 e6 e7 e8
  intro n
  induction n with
  | zero =>
    intro j hj m₁ p t hp h0 hlt hsc
    obtain rfl : j = 9 := by omega
    replace hlt : p < 32 := hlt
    refine Unr.zero fun h' tk F' N' => ?_
    replace F' : Fr s.heap L h' m₁ := F'
    replace N' : News s.heap L h' news := N'
    dsimp only
    have e : scanRuns (runsL.drop 9) p = 65536 * (1 + p.fdiv 2) + 65534 + p.fmod 2 := rfl
    rw [e] at hsc
    have hq : 0 ≤ p.fdiv 2 ∧ p.fdiv 2 < 16 ∧ 0 ≤ p.fmod 2 ∧ p.fmod 2 < 2 := by
      rw [Int.fdiv_eq_ediv_of_nonneg _ (by decide), Int.fmod_eq_emod_of_nonneg _ (by decide)]; omega
    repeat' walk1
    refine Back.ret (by assumption) (fun hk => h _ _ _ _ ?_ hk)
    rw [hsc]; rfl
  | succ n ih =>
    intro j hj m₁ p t hp h0 hlt hsc
    refine Unr.succ fun v h₁ tk₁ own hv hown F' N' => ?_
    replace F' : Fr s.heap L h₁ m₁ := F'
    replace N' : News s.heap L h₁ (own ++ news) := N'
    obtain ⟨a, m, t1, u1, x, hr, rfl, hx⟩ := hit j v hv
    have htup : IsTup h₁ x #[.int a t1, .int m u1] := News.isTup N' (List.mem_append_right _ hx)
    obtain ⟨hdr, ha0, ha1, hm0⟩ := runs_range j (by omega) a m hr
    rw [hdr] at hsc hlt
    replace hsc : (if p < m then a + p else scanRuns (runsL.drop (j + 1)) (p - m)) = forbiddenI k := hsc
    simp only [List.map_cons, List.sum_cons] at hlt
    refine unpackN_ F' N' htup hh' rfl rfl ?_
    intro h₂ F₂ N₂
    repeat' walk1
    · refine Back.ret (by assumption) (fun hk => h _ _ _ _ ?_ hk)
      rw [if_pos (by assumption)] at hsc
      rw [← hsc]; rfl
    · rename_i hge _ _ _
      rw [if_neg hge] at hsc
      exact ih (j + 1) (by omega) _ (p - m) _ (if_pos rfl) (by omega) (by omega) hsc

set_option maxHeartbeats 8000000 in
theorem forbidden_spec {w : World} {A : Around} {E : Value → Shared → Prop} {s : Shared} {mg : Str → Option Value} {Q : Value → Shared → Prop} {f : Addr} {k : Int} {t : Tok}
    (T : Wd w mg s.heap) (hf : mg "_law_forbidden" = some (.ref f)) (hA : Ok 1 A)
    (h : ∀ x u h' tk, x = one (forbiddenI k) → Keeps s.heap h' → Q (.str x u) { s with heap := h', toks := tk }) :
    wpAny (model Pg w) A (call (.ref f) [.int k t]) Q E s := by
  obtain ⟨d, hd⟩ : ∃ d, d = fnNo 9 := ⟨_, rfl⟩
  have hfind : itemNamed "_law_forbidden" = some d := by rw [hd]; rfl
  conv at hd => rhs; whnf
  subst hd
  refine call_item (binds := [("k", .int k t)]) T hf hfind hA (fun _ _ _ => by rfl) (locs rfl) (fun h₁ L cd hL F N hA' hh' => ?_)
  clear hfind
  dsimp only at hA' hh' ⊢
  have hm := fmod_lt (k := k) (m := 195) (by decide)
  repeat' walk1
  rename_i F' N'
  refine For_unr s.heap ?_ (by intro _; rfl)
  walk1
  refine Iter_list_unr hh' (by is_list) (by assumption) (by assumption) (News.ne_locals N' (.head _)) ?_
  refine forbidden_loop (d := fnNo 9) rfl rfl ?_ T hh' h 9 0 rfl _ _ _ rfl hm.1 ?_ rfl
  · intro j v hv
    have hj : j < 9 := by
      rcases Nat.lt_or_ge j 9 with h | h
      · exact h
      · rw [Array.getElem?_eq_none (by simpa using h)] at hv; cases hv
    have : j = 0 ∨ j = 1 ∨ j = 2 ∨ j = 3 ∨ j = 4 ∨ j = 5 ∨ j = 6 ∨ j = 7 ∨ j = 8 := by omega
    rcases this with rfl | rfl | rfl | rfl | rfl | rfl | rfl | rfl | rfl <;> (simp only [List.getElem?_toArray, List.getElem?_cons_zero, List.getElem?_cons_succ, Option.some.injEq] at hv; subst hv; exact ⟨_, _, _, _, _, rfl, rfl, by unfold tupObj; k_mem⟩)
  · exact hm.2

end Mine
end

section
open PySem PySem.W PyProof.Rows PySem.Calls
namespace Mine
set_option maxRecDepth 100000
local macro_rules | `(tactic| walk_at "eval Name") => `(tactic| (refine nm_builtin (by assumption) (by assumption) (by decide +kernel) (by rfl) ?_))
local macro_rules | `(tactic| walk_at "eval Name") => `(tactic| (refine nm_def (by assumption) (by assumption) (by decide +kernel) ?_; intro _ _))
local macro_rules | `(tactic| walk_at "eval Name") => `(tactic| (refine nm_set (by assumption) (by assumption) (by unfold setTab; k_mem) ?_; intro _ _ _))
local macro_rules | `(tactic| walk_at "eval Name") => `(tactic| (refine nm_b3 (by assumption) (by assumption) rfl ?_; intro _ _))
local macro_rules | `(tactic| walk_at "eval Name") => `(tactic| (refine nm_dots (by assumption) (by assumption) rfl ?_; intro _))
local macro_rules | `(tactic| walk_at "compareOp In int ref") => `(tactic| (refine wpAny_inSet_of (knd := intKind Pg _) (intKind_is Pg _ _ _) rfl (by assumption) ?_))

set_option maxHeartbeats 4000000 in
theorem inB1_spec {w : World} {A : Around} {E : Value → Shared → Prop} {s : Shared} {mg : Str → Option Value} {Q : Value → Shared → Prop} {f : Addr} {c : Nat} {t : Tok}
    (T : Wd w mg s.heap) (hf : mg "in_table_b1" = some (.ref f)) (hA : Ok 1 A)
    (h : ∀ b h' tk, b = b1L.contains (c : Int) → Keeps s.heap h' → Q (.bool b) { s with heap := h', toks := tk }) :
    wpAny (model Pg w) A (call (.ref f) [.str ⟨#[c]⟩ t]) Q E s := by
  obtain ⟨d, hd⟩ : ∃ d, d = fnNo 1 := ⟨_, rfl⟩
  have hfind : itemNamed "in_table_b1" = some d := by rw [hd]; rfl
  conv at hd => rhs; whnf
  subst hd
  refine call_item (binds := [("code", .str ⟨#[c]⟩ t)]) T hf hfind hA (fun _ _ _ => by rfl) (locs rfl) (fun h₁ L cd hL F N hA' hh' => ?_)
  clear hfind
  dsimp only at hA' hh' ⊢
  repeat' walk1
  exact Back.ret (by assumption) (fun hk => h _ _ _ rfl hk)

set_option maxHeartbeats 4000000 in
theorem inC6_spec {w : World} {A : Around} {E : Value → Shared → Prop} {s : Shared} {mg : Str → Option Value} {Q : Value → Shared → Prop} {f : Addr} {c : Nat} {t : Tok}
    (T : Wd w mg s.heap) (hf : mg "in_table_c6" = some (.ref f)) (hA : Ok 1 A)
    (h : ∀ b h' tk, b = c6L.contains (c : Int) → Keeps s.heap h' → Q (.bool b) { s with heap := h', toks := tk }) :
    wpAny (model Pg w) A (call (.ref f) [.str ⟨#[c]⟩ t]) Q E s := by
  obtain ⟨d, hd⟩ : ∃ d, d = fnNo 4 := ⟨_, rfl⟩
  have hfind : itemNamed "in_table_c6" = some d := by rw [hd]; rfl
  conv at hd => rhs; whnf
  subst hd
  refine call_item (binds := [("code", .str ⟨#[c]⟩ t)]) T hf hfind hA (fun _ _ _ => by rfl) (locs rfl) (fun h₁ L cd hL F N hA' hh' => ?_)
  clear hfind
  dsimp only at hA' hh' ⊢
  repeat' walk1
  exact Back.ret (by assumption) (fun hk => h _ _ _ rfl hk)

set_option maxHeartbeats 4000000 in
theorem inC7_spec {w : World} {A : Around} {E : Value → Shared → Prop} {s : Shared} {mg : Str → Option Value} {Q : Value → Shared → Prop} {f : Addr} {c : Nat} {t : Tok}
    (T : Wd w mg s.heap) (hf : mg "in_table_c7" = some (.ref f)) (hA : Ok 1 A)
    (h : ∀ b h' tk, b = c7L.contains (c : Int) → Keeps s.heap h' → Q (.bool b) { s with heap := h', toks := tk }) :
    wpAny (model Pg w) A (call (.ref f) [.str ⟨#[c]⟩ t]) Q E s := by
  obtain ⟨d, hd⟩ : ∃ d, d = fnNo 5 := ⟨_, rfl⟩
  have hfind : itemNamed "in_table_c7" = some d := by rw [hd]; rfl
  conv at hd => rhs; whnf
  subst hd
  refine call_item (binds := [("code", .str ⟨#[c]⟩ t)]) T hf hfind hA (fun _ _ _ => by rfl) (locs rfl) (fun h₁ L cd hL F N hA' hh' => ?_)
  clear hfind
  dsimp only at hA' hh' ⊢
  repeat' walk1
  exact Back.ret (by assumption) (fun hk => h _ _ _ rfl hk)

set_option maxHeartbeats 4000000 in
theorem inC8_spec {w : World} {A : Around} {E : Value → Shared → Prop} {s : Shared} {mg : Str → Option Value} {Q : Value → Shared → Prop} {f : Addr} {c : Nat} {t : Tok}
    (T : Wd w mg s.heap) (hf : mg "in_table_c8" = some (.ref f)) (hA : Ok 1 A)
    (h : ∀ b h' tk, b = c8L.contains (c : Int) → Keeps s.heap h' → Q (.bool b) { s with heap := h', toks := tk }) :
    wpAny (model Pg w) A (call (.ref f) [.str ⟨#[c]⟩ t]) Q E s := by
  obtain ⟨d, hd⟩ : ∃ d, d = fnNo 6 := ⟨_, rfl⟩
  have hfind : itemNamed "in_table_c8" = some d := by rw [hd]; rfl
  conv at hd => rhs; whnf
  subst hd
  refine call_item (binds := [("code", .str ⟨#[c]⟩ t)]) T hf hfind hA (fun _ _ _ => by rfl) (locs rfl) (fun h₁ L cd hL F N hA' hh' => ?_)
  clear hfind
  dsimp only at hA' hh' ⊢
  repeat' walk1
  exact Back.ret (by assumption) (fun hk => h _ _ _ rfl hk)

set_option maxHeartbeats 4000000 in
theorem inC9_spec {w : World} {A : Around} {E : Value → Shared → Prop} {s : Shared} {mg : Str → Option Value} {Q : Value → Shared → Prop} {f : Addr} {c : Nat} {t : Tok}
    (T : Wd w mg s.heap) (hf : mg "in_table_c9" = some (.ref f)) (hA : Ok 1 A)
    (h : ∀ b h' tk, b = c9L.contains (c : Int) → Keeps s.heap h' → Q (.bool b) { s with heap := h', toks := tk }) :
    wpAny (model Pg w) A (call (.ref f) [.str ⟨#[c]⟩ t]) Q E s := by
  obtain ⟨d, hd⟩ : ∃ d, d = fnNo 7 := ⟨_, rfl⟩
  have hfind : itemNamed "in_table_c9" = some d := by rw [hd]; rfl
  conv at hd => rhs; whnf
  subst hd
  refine call_item (binds := [("code", .str ⟨#[c]⟩ t)]) T hf hfind hA (fun _ _ _ => by rfl) (locs rfl) (fun h₁ L cd hL F N hA' hh' => ?_)
  clear hfind
  dsimp only at hA' hh' ⊢
  repeat' walk1
  exact Back.ret (by assumption) (fun hk => h _ _ _ rfl hk)

def inC4 (c : Nat) : Bool := if (c : Int) < 64976 then false else if (c : Int) < 65008 then true else [65534, 65535].any fun x => x == Builtin.bitAnd (c : Int) 65535

set_option maxHeartbeats 4000000 in
theorem inC4_spec {w : World} {A : Around} {E : Value → Shared → Prop} {s : Shared} {mg : Str → Option Value} {Q : Value → Shared → Prop} {f : Addr} {c : Nat} {t : Tok}
    (T : Wd w mg s.heap) (hf : mg "in_table_c4" = some (.ref f)) (hA : Ok 1 A)
    (h : ∀ b h' tk, b = inC4 c → Keeps s.heap h' → Q (.bool b) { s with heap := h', toks := tk }) :
    wpAny (model Pg w) A (call (.ref f) [.str ⟨#[c]⟩ t]) Q E s := by
  obtain ⟨d, hd⟩ : ∃ d, d = fnNo 3 := ⟨_, rfl⟩
  have hfind : itemNamed "in_table_c4" = some d := by rw [hd]; rfl
  conv at hd => rhs; whnf
  subst hd
  refine call_item (binds := [("code", .str ⟨#[c]⟩ t)]) T hf hfind hA (fun _ _ _ => by rfl) (locs rfl) (fun h₁ L cd hL F N hA' hh' => ?_)
  clear hfind
  dsimp only at hA' hh' ⊢
  repeat' walk1
  · show Back s.heap Q (.ret _) _
    refine Back.ret (by assumption) (fun hk => h _ _ _ ?_ hk)
    unfold inC4; rw [if_pos (by assumption)]
  · show Back s.heap Q (.ret _) _
    refine Back.ret (by assumption) (fun hk => h _ _ _ ?_ hk)
    unfold inC4; rw [if_neg (by with_reducible assumption), if_pos (by with_reducible assumption)]
  · refine Back.ret (by assumption) (fun hk => h _ _ _ ?_ hk)
    have e1 : ¬ (c : Int) < 64976 := by with_reducible assumption
    have e2 : ¬ (c : Int) < 65008 := by with_reducible assumption
    unfold inC4
    exact ((if_neg e1).trans (if_neg e2)).symm

theorem b3_strs : (b3D.all fun p => match p.2 with | .str _ => true | _ => false) = true := by decide +kernel
theorem lookup_mem {k : PyData} : ∀ {D : List (PyData × PyData)} {d : PyData}, PySem.Spec.lookup k D = some d → ∃ p ∈ D, p.2 = d
  | [], _, h => by cases h
  | (a, b) :: r, d, h => by
    unfold PySem.Spec.lookup at h
    split at h
    · exact ⟨_, .head _, Option.some.inj h⟩
    · obtain ⟨p, hp, e⟩ := lookup_mem h
      exact ⟨p, .tail _ hp, e⟩
theorem look_str {D : List (PyData × PyData)} (hD : (D.all fun p => match p.2 with | .str _ => true | _ => false) = true) {k : PyData} {d : PyData} (h : PySem.Spec.lookup k D = some d) : ∃ x, d = .str x := by
  obtain ⟨p, hp, rfl⟩ := lookup_mem h
  have := List.all_eq_true.mp hD p hp
  cases e : p.2 <;> rw [e] at this <;> first | exact ⟨_, rfl⟩ | cases this
/-- what map_table_b3 makes of the sign c -/
def foldOf (c : Nat) : Str := match PySem.Spec.lookup (.int c) b3D with
  | some (.str x) => x
  | _ => Txt.lower ⟨#[c]⟩

set_option maxHeartbeats 4000000 in
theorem b3_spec {w : World} {A : Around} {E : Value → Shared → Prop} {s : Shared} {mg : Str → Option Value} {Q : Value → Shared → Prop} {f : Addr} {c : Nat} {t : Tok}
    (T : Wd w mg s.heap) (hf : mg "map_table_b3" = some (.ref f)) (hA : Ok 1 A)
    (h : ∀ x u h' tk, x = foldOf c → Keeps s.heap h' → Q (.str x u) { s with heap := h', toks := tk }) :
    wpAny (model Pg w) A (call (.ref f) [.str ⟨#[c]⟩ t]) Q E s := by
  obtain ⟨d, hd⟩ : ∃ d, d = fnNo 2 := ⟨_, rfl⟩
  have hfind : itemNamed "map_table_b3" = some d := by rw [hd]; rfl
  conv at hd => rhs; whnf
  subst hd
  refine call_item (binds := [("code", .str ⟨#[c]⟩ t)]) T hf hfind hA (fun _ _ _ => by rfl) (locs rfl) (fun h₁ L cd hL F N hA' hh' => ?_)
  clear hfind
  dsimp only at hA' hh' ⊢
  repeat' walk1
  rename_i v hv _ _ _
  cases hl : PySem.Spec.lookup (.int c) b3D with
  | none =>
    rw [hl] at hv
    obtain rfl := PyProof.V.Flat.none_inv hv
    repeat' walk1
    refine SCL.lower (by show 1 ≤ _; decide) ?_
    intro _
    refine Back.ret (by assumption) (fun hk => h _ _ _ _ ?_ hk)
    unfold foldOf; rw [hl]
  | some d =>
    rw [hl] at hv
    obtain ⟨x, rfl⟩ := look_str b3_strs hl
    obtain ⟨u, rfl⟩ := PyProof.V.Flat.str_inv hv
    repeat' walk1
    show Back s.heap Q (.ret _) _
    refine Back.ret (by assumption) (fun hk => h _ _ _ _ ?_ hk)
    unfold foldOf; rw [hl]
end Mine
end

section
open PySem PySem.W PyProof.Rows PySem.Calls
namespace Mine
set_option maxRecDepth 100000
local macro_rules | `(tactic| walk_at "eval Name") => `(tactic| (refine nm_builtin (by assumption) (by assumption) (by decide +kernel) (by rfl) ?_))
local macro_rules | `(tactic| walk_at "eval Name") => `(tactic| (refine nm_def (by assumption) (by assumption) (by decide +kernel) ?_; intro _ _))
local macro_rules | `(tactic| walk_at "eval Name") => `(tactic| (refine nm_set (by assumption) (by assumption) (by unfold setTab; k_mem) ?_; intro _ _ _))
local macro_rules | `(tactic| walk_at "eval Name") => `(tactic| (refine nm_b3 (by assumption) (by assumption) rfl ?_; intro _ _))
local macro_rules | `(tactic| walk_at "eval Name") => `(tactic| (refine nm_dots (by assumption) (by assumption) rfl ?_; intro _))
local macro_rules | `(tactic| walk_at "compareOp In int ref") => `(tactic| (refine wpAny_inSet_of (knd := intKind Pg _) (intKind_is Pg _ _ _) rfl (by assumption) ?_))
local macro_rules | `(tactic| walk_at "callWith ref") => `(tactic| (refine callWith_item (by assumption) (by assumption) (by decide +kernel) ?_))
local macro_rules | `(tactic| walk_at "Keeps") => `(tactic| exact Fr.keep (by assumption))
local macro_rules | `(tactic| walk_at "my room") => `(tactic| first | assumption | exact Ok.less (by assumption) | exact Ok.in1 (by assumption) | exact Ok.of_le (by assumption) (by decide))
local macro_rules | `(tactic| walk_at "call ref") => `(tactic| (refine inC4_spec (Wd.keeps (by assumption) (Fr.keep (by assumption))) (by assumption) (by walk_at "my room")  ?_; intro _ _ _ e' hk'; subst e'; (have F' := frKept (by assumption) hk'); (have N' := newsKept (by assumption) hk'); clear hk'))
local macro_rules | `(tactic| walk_at "call ref") => `(tactic| (refine inC6_spec (Wd.keeps (by assumption) (Fr.keep (by assumption))) (by assumption) (by walk_at "my room")  ?_; intro _ _ _ e' hk'; subst e'; (have F' := frKept (by assumption) hk'); (have N' := newsKept (by assumption) hk'); clear hk'))
local macro_rules | `(tactic| walk_at "call ref") => `(tactic| (refine inC7_spec (Wd.keeps (by assumption) (Fr.keep (by assumption))) (by assumption) (by walk_at "my room")  ?_; intro _ _ _ e' hk'; subst e'; (have F' := frKept (by assumption) hk'); (have N' := newsKept (by assumption) hk'); clear hk'))
local macro_rules | `(tactic| walk_at "call ref") => `(tactic| (refine inC8_spec (Wd.keeps (by assumption) (Fr.keep (by assumption))) (by assumption) (by walk_at "my room")  ?_; intro _ _ _ e' hk'; subst e'; (have F' := frKept (by assumption) hk'); (have N' := newsKept (by assumption) hk'); clear hk'))
local macro_rules | `(tactic| walk_at "call ref") => `(tactic| (refine inC9_spec (Wd.keeps (by assumption) (Fr.keep (by assumption))) (by assumption) (by walk_at "my room")  ?_; intro _ _ _ e' hk'; subst e'; (have F' := frKept (by assumption) hk'); (have N' := newsKept (by assumption) hk'); clear hk'))
local macro_rules | `(tactic| walk_at "call ref") => `(tactic| (refine nothing_spec (Wd.keeps (by assumption) (Fr.keep (by assumption))) (by assumption) (by walk_at "my room")  ?_; intro _ _ _ _ e' hk'; subst e'; (have F' := frKept (by assumption) hk'); (have N' := newsKept (by assumption) hk'); clear hk'))
local macro_rules | `(tactic| walk_at "call ref") => `(tactic| (refine forbidden_spec (Wd.keeps (by assumption) (Fr.keep (by assumption))) (by assumption) (by walk_at "my room")  ?_; intro _ _ _ _ e' hk'; subst e'; (have F' := frKept (by assumption) hk'); (have N' := newsKept (by assumption) hk'); clear hk'))
local macro_rules | `(tactic| walk_at "call ref") => `(tactic| (refine spelled_spec (Wd.keeps (by assumption) (Fr.keep (by assumption))) (by assumption) (by walk_at "my room") (by omega) (by omega) ?_; intro _ _ _ _ e' hk'; subst e'; (have F' := frKept (by assumption) hk'); (have N' := newsKept (by assumption) hk'); clear hk'))

local macro_rules | `(tactic| walk_at "binaryOp Mult str int") => `(tactic| (refine SB.mul (mulOk_of 16 1048576 (by show 1 ≤ 16; decide) (by omega) (by omega) (by decide) (by decide)) ?_; intro _ _))
local macro_rules | `(tactic| walk_at "binaryOp Add str str") => `(tactic| (refine add_str ?_ (by rw [sizeLine_eq]; show 1 + 1 ≤ 16777216; decide); intro _ _))

def maskedB (c : Nat) : Bool := inC4 c || c6L.contains (c : Int) || c7L.contains (c : Int) || c8L.contains (c : Int) || c9L.contains (c : Int)

set_option maxHeartbeats 4000000 in
theorem masked_spec {w : World} {A : Around} {E : Value → Shared → Prop} {s : Shared} {mg : Str → Option Value} {Q : Value → Shared → Prop} {f : Addr} {c : Nat} {t : Tok}
    (T : Wd w mg s.heap) (hf : mg "_law_masked" = some (.ref f)) (hA : Ok 2 A) 
    (h : ∀ b h' tk, b = maskedB c → Keeps s.heap h' → Q (.bool b) { s with heap := h', toks := tk }) :
    wpAny (model Pg w) A (call (.ref f) [.str ⟨#[c]⟩ t]) Q E s := by
  obtain ⟨d, hd⟩ : ∃ d, d = fnNo 14 := ⟨_, rfl⟩
  have hfind : itemNamed "_law_masked" = some d := by rw [hd]; rfl
  conv at hd => rhs; whnf
  subst hd
  refine call_item (binds := [("sign", .str ⟨#[c]⟩ t)]) T hf hfind hA (fun _ _ _ => by rfl) (locs rfl) (fun h₁ L cd hL F N hA' hh' => ?_)
  clear hfind
  dsimp only at hA' hh' ⊢
  repeat' walk1
  all_goals (refine Back.ret (by assumption) (fun hk => h _ _ _ ?_ hk); simp only [maskedB, *]; simp)

/-- a piece: the pattern's spelling, the pattern, the text's spelling, the text -/
structure Piece where
  a : Str
  b : Str
  c : Str
  d : Str
def obj4 (a b c d : Str) (t u v z : Tok) : Obj := { cls := .type "list", data := .seq #[.str a t, .str b u, .str c v, .str d z] }
def letterOf (x : Int) : Int := (x.fdiv 8).fmod 2
def moreOf (x : Int) : Int := (x.fdiv 8).fdiv 2
def plainOf (x : Int) : Str := one (97 + letterOf x)
def pieceOf (x : Int) : Piece :=
  if x.fmod 8 = 0 then ⟨one (spelledI (letterOf x) (moreOf x)), plainOf x, one (spelledI (letterOf x) ((moreOf x).fdiv 12)), plainOf x⟩
  else if x.fmod 8 = 1 then ⟨one (forbiddenI ((moreOf x).fdiv 3)), "...", Txt.mul (one (spelledI (letterOf x) (moreOf x))) ((moreOf x).fmod 3), Txt.mul (plainOf x) ((moreOf x).fmod 3)⟩
  else if x.fmod 8 = 2 then ⟨one (forbiddenI (x.fdiv 8)), "...", one (forbiddenI ((x.fdiv 8).fdiv 195)), one (forbiddenI ((x.fdiv 8).fdiv 195))⟩
  else if x.fmod 8 = 3 then ⟨one (nothingI (x.fdiv 8)), "", one (nothingI ((x.fdiv 8).fdiv 27)), ""⟩
  else if x.fmod 8 = 4 then ⟨".", ".", Txt.mul "." (letterOf x), Txt.mul "." (letterOf x)⟩
  else if x.fmod 8 = 5 then ⟨"㏇", "co.", "CO.", "co."⟩
  else if x.fmod 8 = 6 then ⟨"", "", one (spelledI (letterOf x) (moreOf x)), plainOf x⟩
  else ⟨"M" ++ one (spelledI 1 (x.fdiv 8)), "mb", "㎆", "mb"⟩

set_option maxHeartbeats 4000000 in
theorem piece_spec {w : World} {A : Around} {E : Value → Shared → Prop} {s : Shared} {mg : Str → Option Value} {Q : Value → Shared → Prop} {f : Addr} {x : Int} {t : Tok}
    (T : Wd w mg s.heap) (hf : mg "_law_piece" = some (.ref f)) (hA : Ok 2 A) 
    (h : ∀ l a b c d t u v z h' tk, pieceOf x = ⟨a, b, c, d⟩ → Keeps s.heap h' → s.heap.get? l = none → h'.get? l = some (obj4 a b c d t u v z) → Q (.ref l) { s with heap := h', toks := tk }) :
    wpAny (model Pg w) A (call (.ref f) [.int x t]) Q E s := by
  obtain ⟨d, hd⟩ : ∃ d, d = fnNo 11 := ⟨_, rfl⟩
  have hfind : itemNamed "_law_piece" = some d := by rw [hd]; rfl
  conv at hd => rhs; whnf
  subst hd
  refine call_item (binds := [("x", .int x t)]) T hf hfind hA (fun _ _ _ => by rfl) (locs rfl) (fun h₁ L cd hL F N hA' hh' => ?_)
  clear hfind
  dsimp only at hA' hh' ⊢
  have hm8 := fmod_lt (k := x) (m := 8) (by decide)
  have hm2 := fmod_lt (k := x.fdiv 8) (m := 2) (by decide)
  have hm3 := fmod_lt (k := (x.fdiv 8).fdiv 2) (m := 3) (by decide)
  repeat' walk1
  all_goals (refine Back.ret (by assumption) (fun hk => h _ _ _ _ _ _ _ _ _ _ _ ?_ hk (News.fresh (by assumption) (.head _)) (News.get (by assumption) (.head _))))
  all_goals (unfold pieceOf; (repeat (first | rw [if_pos (by with_reducible assumption)] | rw [if_neg (by with_reducible assumption)])); try rfl)
end Mine
end

section
open PySem PySem.W PyProof.Rows PySem.Calls
namespace Mine
set_option maxRecDepth 100000

/-- What a loop walks over, told without the iterator's heap object. -/
def Src (w : World) (A : Around) (xv : Value) (s₁ : Shared) (n : Nat) (P : Nat → Value → Prop) : Prop :=
  ∀ (Q : Value → Shared → Prop) (E : Value → Shared → Prop),
    (∀ I fp St h₂, Walks Pg w A I fp [I] n P St → (∀ i h, St i h → ∃ o, h.get? I = some o) → St 0 h₂ → (∀ b ∈ fp, b < h₂.objs.size) → s₁.heap.objs.size ≤ h₂.objs.size → s₁.heap.get? I = none → Keeps s₁.heap h₂ → Q (.ref I) { s₁ with heap := h₂ }) →
    wpAny (model Pg w) A (pyIter xv) Q E s₁

section
variable {w : World} {A : Around} {s₁ : Shared}
theorem fresh_top (h : Heap) : h.get? h.objs.size = none := Heap.get?_none_of_le (Nat.le_refl _)

theorem Src.list {ax : Addr} {items : Array Value} (hh : A.handled = none) (hl : s₁.heap.IsList ax items) : Src w A (.ref ax) s₁ items.size (fun i v => items[i]? = some v) := by
  intro Q E h
  have hlt : ax < s₁.heap.objs.size := by obtain ⟨_, e, _⟩ := hl; exact Heap.lt_size e
  refine wpAny_pyIter_list hl (h _ _ _ _ (Walks.list hh s₁.heap.objs.size ax (Nat.ne_of_lt hlt) items) (fun i h st => by obtain ⟨o, e, _⟩ := st.1; exact ⟨o, e⟩) ⟨⟨_, Heap.get?_push_size _ rfl, rfl, rfl⟩, hl.push _⟩ ?_ ?_ (fresh_top _) (fun _ _ e => Heap.get?_push_of_some _ e))
  · intro b hb
    rw [Heap.size_push]
    rcases List.mem_cons.mp hb with rfl | hb
    · exact Nat.lt_succ_self _
    · rw [List.mem_singleton.mp hb]; exact Nat.lt_succ_of_lt hlt
  · rw [Heap.size_push]; exact Nat.le_succ _

theorem Src.range {r : Addr} {a b : Int} {t u v : Tok} {n : Nat} (hh : A.handled = none) (hr : IsRange s₁.heap r a b 1 t u v) (hsm : Builtin.Range.small a b 1 = true) (hn : Builtin.Range.rangeSize a b 1 = ((n : Nat) : Int)) :
    Src w A (.ref r) s₁ n (fun i v => i < n ∧ ∃ t, v = .int (a + (i : Int)) t) := by
  intro Q E h
  refine wpAny_pyIter_range hr hsm (h _ _ _ _ (LCg.range_walks hh a n).bound (fun i h st => ⟨_, st⟩) (by show IsRangeIter _ _ _ _ _; rw [hn]; simpa using Heap.get?_push_size _ rfl) ?_ ?_ (fresh_top _) (fun _ _ e => Heap.get?_push_of_some _ e))
  · intro b hb
    rw [Heap.size_push, List.mem_singleton.mp hb]
    exact Nat.lt_succ_self _
  · rw [Heap.size_push]; exact Nat.le_succ _

theorem Src.str {x : Str} {t : Tok} (hh : A.handled = none) : Src w A (.str x t) s₁ x.cps.size (SignAt x) := by
  intro Q E h
  cases ha : x.cps.all (· < 128)
  · refine wpAny_pyIter_wide ha (h _ _ _ _ (Walks.strWide hh s₁.heap.objs.size x t) (fun i h st => let ⟨o, e, _⟩ := st; ⟨o, e⟩) ⟨_, Heap.get?_push_size _ rfl, rfl, rfl⟩ ?_ ?_ (fresh_top _) (fun _ _ e => Heap.get?_push_of_some _ e))
    · intro b hb
      rw [Heap.size_push, List.mem_singleton.mp hb]
      exact Nat.lt_succ_self _
    · rw [Heap.size_push]; exact Nat.le_succ _
  · refine wpAny_pyIter_ascii ha (h _ _ _ _ (Walks.strAscii hh s₁.heap.objs.size x t) (fun i h st => let ⟨o, e, _⟩ := st; ⟨o, e⟩) ⟨_, Heap.get?_push_size _ rfl, rfl, rfl⟩ ?_ ?_ (fresh_top _) (fun _ _ e => Heap.get?_push_of_some _ e))
    · intro b hb
      rw [Heap.size_push, List.mem_singleton.mp hb]
      exact Nat.lt_succ_self _
    · rw [Heap.size_push]; exact Nat.le_succ _
end

theorem keeps_but {h₁ h₂ h : Heap} {I : Addr} (hI : h₁.get? I = none) (hk : Keeps h₁ h₂) (h' : ∀ b o, b ∉ [I] → h₂.get? b = some o → h.get? b = some o) : Keeps h₁ h := fun b o e =>
  h' b o (fun hm => by rw [List.mem_singleton.mp hm, hI] at e; cases e) (hk b o e)

theorem fresh_back {h₁ h₂ : Heap} {D : Addr} (hk : Keeps h₁ h₂) (hD : h₂.get? D = none) : h₁.get? D = none := by
  cases e : h₁.get? D with
  | none => rfl
  | some o => rw [hk _ _ e] at hD; cases hD

section
variable {w : World} {A : Around} {E : Value → Shared → Prop} {s : Shared} {env : Env} {elt iter : PySem.Expr} {x : Str} {px : Pos} {ifs : List PySem.Expr} {scope : Scope} {cl : List (Str × Addr)} {pos : Pos}

def ElEnd (R : Prop) (s₃ s₄ : Shared) : Prop := R ∧ PySem.Keeps s₃ s₄
theorem ElEnd.mk {R : Prop} {s₃ : Shared} {h' : Heap} {tk : Nat} (hk : Keeps s₃.heap h') (hR : R) : ElEnd R s₃ { s₃ with heap := h', toks := tk } := ⟨hR, _, _, rfl, hk⟩
/-- One item of a comprehension: its test and its element, told over a heap that keeps what stood. -/
structure Turn (w : World) (A : Around) (env : Env) (scope : Scope) (cl : List (Str × Addr)) (x : Str) (ifs : List PySem.Expr) (elt : PySem.Expr) (P : Nat → Value → Prop) (pb : Value → Bool) (R : Value → Shared → Shared → Value → Prop) (s₁ : Shared) : Prop where
  tests : ∀ C i v (s₃ : Shared) m E', s₁.heap.objs.size ≤ C → P i v → s₃.heap.Ns C m → m x = some v → Keeps s₁.heap s₃.heap →
    wpAny (model Pg w) A (forIn ifs true fun c r => if r = true then do let ok ← isTrue c (compEnvC scope cl C env) (eval c (compEnvC scope cl C env)); pure (ForInStep.yield ok) else pure (ForInStep.yield r))
      (fun ok s₄ => ElEnd (ok = pb v) s₃ s₄) E' s₃
  elt : ∀ C i v (s₃ : Shared) m E', s₁.heap.objs.size ≤ C → P i v → pb v = true → s₃.heap.Ns C m → m x = some v → Keeps s₁.heap s₃.heap →
    wpAny (model Pg w) A (eval elt (compEnvC scope cl C env)) (fun y s₄ => ElEnd (R v s₃ s₄ y) s₃ s₄) E' s₃

theorem Turn.noTests {P : Nat → Value → Prop} {R : Value → Shared → Shared → Value → Prop} {s₁ : Shared}
    (h : ∀ C i v (s₃ : Shared) m E', s₁.heap.objs.size ≤ C → P i v → s₃.heap.Ns C m → m x = some v → Keeps s₁.heap s₃.heap →
      wpAny (model Pg w) A (eval elt (compEnvC scope cl C env)) (fun y s₄ => ElEnd (R v s₃ s₄ y) s₃ s₄) E' s₃) :
    Turn w A env scope cl x [] elt P (fun _ => true) R s₁ where
  tests := fun C i v s₃ m E' _ _ _ _ _ => wpAny_tests_nil ⟨rfl, _, _, rfl, fun _ _ e => e⟩
  elt := fun C i v s₃ m E' hC hP _ hn hm hk => h C i v s₃ m E' hC hP hn hm hk

def AfterIter (w : World) (A : Around) (env : Env) (scope : Scope) (cl : List (Str × Addr)) (x : Str) (ifs : List PySem.Expr) (elt : PySem.Expr) (pb : Value → Bool) (R : Value → Value → Prop) (Q : Value → Shared → Prop) (xv : Value) (s₁ : Shared) : Prop :=
  ∃ n P, Src w A xv s₁ n P ∧ n ≤ sizeLine ∧ Turn w A env scope cl x ifs elt P pb (fun v _ _ y => R v y) s₁ ∧
      (∀ D h' tk c ys (vs : List Value), s₁.heap.get? D = none → h'.get? D = some { cls := .type "list", data := .seq ys c } → vs.length = n → (∀ j v, vs[j]? = some v → P j v) → Paired R (vs.filter pb) ys.toList →
        Keeps s₁.heap h' → Q (.ref D) { s₁ with heap := h', toks := tk })
def AfterIterO (w : World) (A : Around) (env : Env) (scope : Scope) (cl : List (Str × Addr)) (x : Str) (ifs : List PySem.Expr) (elt : PySem.Expr) (pb : Value → Bool) (G : Value → Array Value → Prop) (Q : Value → Shared → Prop) (xv : Value) (s₁ : Shared) : Prop :=
  ∃ n P, Src w A xv s₁ n P ∧ n ≤ sizeLine ∧
      Turn w A env scope cl x ifs elt P pb (fun v s₃ s₄ y => ∃ T its, y = .ref T ∧ s₃.heap.get? T = none ∧ s₄.heap.IsList T its ∧ G v its) s₁ ∧
      (∀ D h' tk c ys (vs : List Value), s₁.heap.get? D = none → h'.get? D = some { cls := .type "list", data := .seq ys c } → vs.length = n → (∀ j v, vs[j]? = some v → P j v) →
        Paired (fun v y => ∃ T its, y = .ref T ∧ h'.IsList T its ∧ G v its) (vs.filter pb) ys.toList →
        Keeps s₁.heap h' → Q (.ref D) { s₁ with heap := h', toks := tk })
def AfterIterA (w : World) (A : Around) (env : Env) (scope : Scope) (cl : List (Str × Addr)) (x : Str) (ifs : List PySem.Expr) (elt : PySem.Expr) (y : Str) (pb : Value → Bool) (R : Value → Value → Prop) (Q : Flow → Shared → Prop) (xv : Value) (s₁ : Shared) : Prop :=
  ∃ m n P, Src w A xv s₁ n P ∧ n ≤ sizeLine ∧ s₁.heap.Ns env.locals m ∧ Turn w A env scope cl x ifs elt P pb (fun v _ _ y => R v y) s₁ ∧
      (∀ D h' tk ys (vs : List Value), s₁.heap.get? D = none → D ≠ env.locals → h'.IsList D ys → vs.length = n → (∀ j v, vs[j]? = some v → P j v) → Paired R (vs.filter pb) ys.toList →
        h'.Ns env.locals (fun z => if z = y then some (.ref D) else m z) → (∀ b o, b ≠ env.locals → s₁.heap.get? b = some o → h'.get? b = some o) → Q .next { s₁ with heap := h', toks := tk })

theorem comp_rule {Q : Value → Shared → Prop} (pb : Value → Bool) (R : Value → Value → Prop) (hclos : closureFor scope env = pure cl)
    (h : wpAny (model Pg w) A (eval iter env) (AfterIter w A env scope cl x ifs elt pb R Q) E s)
    (hcell : ∀ y ∈ scope.names, y.2 ≠ .cell := by decide) (hkind : scope.kind = .function := by rfl)
    (hnames : ∀ y ∈ scope.names, y.2 = .local → scope.names.lookup y.1 = some .local := by decide) (hx : scope.names.lookup x = some .local := by rfl)
    (hs : ∀ x, foldedSetIterable iter env x = pure x := by intro _; rfl) :
    wpAny (model Pg w) A (eval (.ListComp elt [⟨.Name x px, iter, ifs, 0⟩] scope pos) env) Q E s := by
  refine wpAny_ListComp_free pb R hclos hcell hkind hnames hx (wpAny_mono h (fun xv s₁ h₁ => ?_) fun _ _ e => e) hs
  obtain ⟨n, P, hsrc, hn, ht, hfin⟩ := h₁
  refine hsrc _ _ fun I fp St h₂ W hlive hst hfp hsz hI hk => ?_
  refine ⟨I, fp, [I], n, P, St, rfl, W, hn, hst, hfp, ⟨?_, ?_⟩, ?_⟩
  · intro C i v s₃ m₃ E' hC hP hN hm hk' _
    exact ht.tests C i v s₃ m₃ E' (Nat.le_trans hsz hC) hP hN hm (keeps_but hI hk hk')
  · intro C i v s₃ m₃ E' hC hP hpv hN hm hk' _
    exact ht.elt C i v s₃ m₃ E' (Nat.le_trans hsz hC) hP hpv hN hm (keeps_but hI hk hk')
  · intro D h' tk ys vs hD _ hpl hlen hP hF hk'
    obtain ⟨c, hc⟩ := hpl
    exact hfin D h' tk c ys vs (fresh_back hk hD) hc hlen hP hF (keeps_but hI hk hk')

/-- The elements are new lists. -/
theorem comp_ruleO {Q : Value → Shared → Prop} (pb : Value → Bool) (G : Value → Array Value → Prop) (hclos : closureFor scope env = pure cl)
    (h : wpAny (model Pg w) A (eval iter env) (AfterIterO w A env scope cl x ifs elt pb G Q) E s)
    (hcell : ∀ y ∈ scope.names, y.2 ≠ .cell := by decide) (hkind : scope.kind = .function := by rfl)
    (hnames : ∀ y ∈ scope.names, y.2 = .local → scope.names.lookup y.1 = some .local := by decide) (hx : scope.names.lookup x = some .local := by rfl)
    (hs : ∀ x, foldedSetIterable iter env x = pure x := by intro _; rfl) :
    wpAny (model Pg w) A (eval (.ListComp elt [⟨.Name x px, iter, ifs, 0⟩] scope pos) env) Q E s := by
  refine wpAny_ListComp_freeO pb G hclos hcell hkind hnames hx (wpAny_mono h (fun xv s₁ h₁ => ?_) fun _ _ e => e) hs
  obtain ⟨n, P, hsrc, hn, ht, hfin⟩ := h₁
  refine hsrc _ _ fun I fp St h₂ W hlive hst hfp hsz hI hk => ?_
  refine ⟨I, fp, [I], n, P, St, rfl, W, hn, (fun i h st b hb => by rw [List.mem_singleton.mp hb]; exact hlive i h st), hst, hfp, ⟨?_, ?_⟩, ?_⟩
  · intro C i v s₃ m₃ E' hC hP hN hm hk' _
    exact ht.tests C i v s₃ m₃ E' (Nat.le_trans hsz hC) hP hN hm (keeps_but hI hk hk')
  · intro C i v s₃ m₃ E' hC hP hpv hN hm hk' _
    exact ht.elt C i v s₃ m₃ E' (Nat.le_trans hsz hC) hP hpv hN hm (keeps_but hI hk hk')
  · intro D h' tk ys vs hD _ hpl hlen hP hF _ _ hk'
    obtain ⟨c, hc⟩ := hpl
    exact hfin D h' tk c ys vs (fresh_back hk hD) hc hlen hP (hF.mono fun _ _ hy => by obtain ⟨T, its, e, _, hl, g⟩ := hy; exact ⟨T, its, e, hl, g⟩) (keeps_but hI hk hk')

/-- y = [..] where y is a plain local -/
theorem comp_assign {y : Str} {py spos : Pos} {Q : Flow → Shared → Prop} (pb : Value → Bool) (R : Value → Value → Prop) (hclos : closureFor scope env = pure cl)
    (hsw : swapsWith (.ListComp elt [⟨.Name x px, iter, ifs, 0⟩] scope pos) (some (.Name y py)) spos.line env = pure true)
    (hy : env.kindOf y = some .local) (hp : (env.scope.kind == .class || (env.scope.kind == .module && env.locals != env.globals)) = false)
    (h : wpAny (model Pg w) A (eval iter env) (AfterIterA w A env scope cl x ifs elt y pb R Q) E s)
    (hcell : ∀ y ∈ scope.names, y.2 ≠ .cell := by decide) (hkind : scope.kind = .function := by rfl)
    (hnames : ∀ y ∈ scope.names, y.2 = .local → scope.names.lookup y.1 = some .local := by decide) (hx : scope.names.lookup x = some .local := by rfl)
    (hs : ∀ x, foldedSetIterable iter env x = pure x := by intro _; rfl) :
    wpAny (model Pg w) A (exec (.Assign [.Name y py] (.ListComp elt [⟨.Name x px, iter, ifs, 0⟩] scope pos) spos) env) Q E s := by
  refine wpAny_Assign_ListComp_free pb R hsw hclos hcell hkind hnames hx hy hp (wpAny_mono h (fun xv s₁ h₁ => ?_) fun _ _ e => e) hs
  obtain ⟨m, n, P, hsrc, hn, hL, ht, hfin⟩ := h₁
  refine hsrc _ _ fun I fp St h₂ W hlive hst hfp hsz hI hk => ?_
  have hLI : env.locals ≠ I := by rintro e; obtain ⟨o, _, _, ho, _⟩ := hL; rw [e, hI] at ho; cases ho
  refine ⟨I, fp, [I], n, P, St, m, rfl, W, hn, hst, hfp, (fun hm => hLI (List.mem_singleton.mp hm)), hL.keeps hk, ⟨?_, ?_⟩, ?_⟩
  · intro C i v s₃ m₃ E' hC hP hN hm hk' _
    exact ht.tests C i v s₃ m₃ E' (Nat.le_trans hsz hC) hP hN hm (keeps_but hI hk hk')
  · intro C i v s₃ m₃ E' hC hP hpv hN hm hk' _
    exact ht.elt C i v s₃ m₃ E' (Nat.le_trans hsz hC) hP hpv hN hm (keeps_but hI hk hk')
  · intro D h' tk ys vs hD hlD _ hlen hP hF hN hk'
    refine hfin D h' tk ys vs (fresh_back hk hD) ?_ hlD hlen hP hF hN (fun b o hb e => hk' b o hb (fun hm => by rw [List.mem_singleton.mp hm, hI] at e; cases e) (hk b o e))
    rintro rfl
    obtain ⟨o, _, _, ho, _⟩ := hL
    rw [fresh_back hk hD] at ho; cases ho
end

section
variable {M : Model} {A : Around} {E : Value → Shared → Prop} {s : Shared} {env : Env} {scope : Scope} {cl : List (Str × Addr)} {C : Addr} {hb : Heap} {m : Str → Option Value} {w : World} {mg : Str → Option Value} {x : Str} {pos : Pos} {v : Value} {Q : Value → Shared → Prop}

theorem cnm_loc (K : Keeps hb s.heap) (hn : hb.Ns C m) (hv : m x = some v) (h : Q v s)
    (hk : (compEnvC scope cl C env).scope.kind = .function := by rfl) (hl : (compEnvC scope cl C env).kindOf x = some .local := by rfl) (hd : (x == ("__debug__" : Str)) = false := by decide) :
    wpAny M A (eval (.Name x pos) (compEnvC scope cl C env)) Q E s := wpAny_Name (wpAny_loadName_local hk hl (hn.keeps K) hv h) hd
theorem cnm_cell {c : Addr} (K : Keeps hb s.heap) (hc : cl.lookup x = some c) (hv : hb.IsCell c (some v)) (h : Q v s)
    (hk : (compEnvC scope cl C env).scope.kind = .function := by rfl) (hl : (compEnvC scope cl C env).kindOf x = some .cell := by rfl) (hd : (x == ("__debug__" : Str)) = false := by decide) :
    wpAny M A (eval (.Name x pos) (compEnvC scope cl C env)) Q E s := wpAny_Name (wpAny_loadName_cell hk hl hc (hv.keeps K) h) hd
theorem cnm_builtin (K : Keeps hb s.heap) (T : Wd w mg hb) (hg : env.globals = mainGlobals) (hbl : env.builtins = builtinsNs) (hx : x ∈ (["ord", "chr", "len", "range", "sum", "all", "isinstance", "bool", "set", "list"] : List Str)) (hv : bootBuiltins x = some v) (h : Q v s)
    (hn : x ≠ "__name__" := by decide +kernel)
    (hk : (compEnvC scope cl C env).scope.kind = .function := by rfl) (hl : (compEnvC scope cl C env).kindOf x = some .globalImplicit := by rfl) (hd : (x == ("__debug__" : Str)) = false := by decide) :
    wpAny M A (eval (.Name x pos) (compEnvC scope cl C env)) Q E s :=
  let ⟨_, hB, hbs⟩ := T.b
  Name_function_global hk hl (loadGlobal_builtin (env := compEnvC scope cl C env) (by show s.heap.Ns env.globals _; rw [hg]; exact T.g.keeps K) (T.free x hx) (by show s.heap.Ns env.builtins _; rw [hbl]; exact hB.keeps K) ((hbs x hn).trans hv) h) hd
theorem cnm_def (K : Keeps hb s.heap) (T : Wd w mg hb) (hg : env.globals = mainGlobals) (hfind : (itemNamed x).isSome = true) (h : ∀ f, mg x = some (.ref f) → Q (.ref f) s)
    (hk : (compEnvC scope cl C env).scope.kind = .function := by rfl) (hl : (compEnvC scope cl C env).kindOf x = some .globalImplicit := by rfl) (hd : (x == ("__debug__" : Str)) = false := by decide) :
    wpAny M A (eval (.Name x pos) (compEnvC scope cl C env)) Q E s := by
  obtain ⟨d, hfind⟩ := Option.isSome_iff_exists.mp hfind
  have hn : d.name = x := beq_iff_eq.mp (List.find?_some (p := fun e : DefItem => e.name == x) hfind)
  obtain ⟨f, o, pm, code, doc, h1, h2, h3, h4⟩ := T.fn d (List.mem_of_find?_eq_some hfind)
  exact Name_function_global hk hl (loadGlobal_global (env := compEnvC scope cl C env) (by show s.heap.Ns env.globals _; rw [hg]; exact T.g.keeps K) (hn ▸ h1) (h f (hn ▸ h1))) hd
end

/-- A call of a def that has cells. -/
theorem call_itemC {w : World} {A : Around} {E : Value → Shared → Prop} {s : Shared} {mg : Str → Option Value} {Q : Value → Shared → Prop} {x : Str} {d : DefItem} {f : Addr} {vals : List Value} {binds : List (Str × Value)}
    (T : Wd w mg s.heap) (hf : mg x = some (.ref f)) (hfind : itemNamed x = some d) {n : Nat} (hA : Ok (n + 1) A)
    (hbind : ∀ pm cd doc, bindArgs (docDef d.name d.params d.body d.scope pm cd doc) ⟨vals, []⟩ = pure binds)
    (hkind : ∀ L : Nat, ∀ x ∈ binds, d.scope.names.lookup x.1 = some .local ∨ (d.scope.names.lookup x.1 = some .cell ∧ ((cellsFrom (L + 1) d.scope.names []).lookup x.1).isSome = true))
    (hnd : ((cellsFrom 0 d.scope.names []).map (·.1)).Nodup)
    (h : ∀ h₁ tk L cd cells, s.heap.objs.size ≤ L → Fr s.heap L h₁ (bindL (envOfC d.name d.scope L f cd).kindOf binds fun _ => none) → News s.heap L h₁ cells →
      CellsAre (bindC (envOfC d.name d.scope L f cd).kindOf binds fun _ => none) (cellsFrom (L + 1) d.scope.names []) cells → Ok n (A.deeper (envOfC d.name d.scope L f cd)) → (A.deeper (envOfC d.name d.scope L f cd)).handled = none →
      wpAny (model Pg w) (A.deeper (envOfC d.name d.scope L f cd)) (execs d.body (envOfC d.name d.scope L f cd)) (Back s.heap Q) (fun _ _ => False) { s with heap := h₁, toks := tk })
    (hco : d.scope.isCoroutine = false := by rfl) (hgen : d.scope.isGenerator = false := by rfl) (hk : d.scope.kind = .function := by rfl) :
    wpAny (model Pg w) A (call (.ref f) vals) Q E s := by
  have hn : d.name = x := beq_iff_eq.mp (List.find?_some (p := fun e : DefItem => e.name == x) hfind)
  obtain ⟨f', o, pm, code, doc, h1, h2, h3, h4⟩ := T.fn d (List.mem_of_find?_eq_some hfind)
  obtain rfl : f' = f := by rw [hn, hf] at h1; injection h1 with h1; injection h1 with h1; exact h1.symm
  refine wpAny_call (call_cellsN_ret (by have := hA.1; unfold recursionLimit; omega) h2 h3 T.nolimit h4 (hbind _ _ _) (hkind _) hnd (fun h₁ tk cells F N X => ?_) hco hgen hk)
  exact wpAny_mono (h h₁ tk _ code cells (Nat.le_refl _) F N X (hA.deeper _) hA.2.2) (fun fl s' hh => hh.2 hh.1) fun _ _ hh => hh
section
variable {M : Model} {A : Around} {E : Value → Shared → Prop} {s : Shared} {name : Str} {scope : Scope} {L a : Addr} {cd : Value} {h₀ : Heap} {m : Str → Option Value}
  {w : World} {mg : Str → Option Value} {x : Str} {pos : Pos} {Q : Value → Shared → Prop}

theorem nmC_builtin {v : Value} (F : Fr h₀ L s.heap m) (T : Wd w mg h₀) (hx : x ∈ (["ord", "chr", "len", "range", "sum", "all", "isinstance", "bool", "set", "list"] : List Str)) (hv : bootBuiltins x = some v) (h : Q v s)
    (hn : x ≠ "__name__" := by decide +kernel)
    (hk : (envOfC name scope L a cd).scope.kind = .function := by rfl) (hl : (envOfC name scope L a cd).kindOf x = some .globalImplicit := by rfl) (hd : (x == ("__debug__" : Str)) = false := by decide) :
    wpAny M A (eval (.Name x pos) (envOfC name scope L a cd)) Q E s :=
  let ⟨_, hb, hbs⟩ := T.b
  Name_function_global hk hl (loadGlobal_builtin (env := envOfC name scope L a cd) (T.g.keeps F.keep) (T.free x hx) (hb.keeps F.keep) ((hbs x hn).trans hv) h) hd

theorem nmC_def (F : Fr h₀ L s.heap m) (T : Wd w mg h₀) (hfind : (itemNamed x).isSome = true) (h : ∀ f, mg x = some (.ref f) → Q (.ref f) s)
    (hk : (envOfC name scope L a cd).scope.kind = .function := by rfl) (hl : (envOfC name scope L a cd).kindOf x = some .globalImplicit := by rfl) (hd : (x == ("__debug__" : Str)) = false := by decide) :
    wpAny M A (eval (.Name x pos) (envOfC name scope L a cd)) Q E s := by
  obtain ⟨d, hfind⟩ := Option.isSome_iff_exists.mp hfind
  have hn : d.name = x := beq_iff_eq.mp (List.find?_some (p := fun e : DefItem => e.name == x) hfind)
  obtain ⟨f, o, pm, code, doc, h1, h2, h3, h4⟩ := T.fn d (List.mem_of_find?_eq_some hfind)
  exact Name_function_global hk hl (loadGlobal_global (env := envOfC name scope L a cd) (T.g.keeps F.keep) (hn ▸ h1) (h f (hn ▸ h1))) hd
end
theorem slice_k {w : World} {A : Around} {E : Value → Shared → Prop} {s : Shared} {value slice : PySem.Expr} {l : Addr} {items : Array Value} {vl vu : Value} {lo hi : Option Int} {Q : Value → Shared → Prop}
    (hl : s.heap.IsList l items) (pl : IsPart vl lo) (pu : IsPart vu hi) (hsz : items.size ≤ sizeLine)
    (h : ∀ D h', s.heap.get? D = none → Keeps s.heap h' → h'.get? D = some { cls := .type "list", data := .seq (slicePick items lo hi none) } → Q (.ref D) { s with heap := h' })
    (hs : subscripted slice false (.ref l) (.ref s.heap.objs.size) = operate [.ref s.heap.objs.size, .ref l] (getItem (.ref l) (.ref s.heap.objs.size)) := by with_unfolding_all rfl)
    (ht : ∀ r, letTemporaryGo value (.ref l) r = pure () := by intro _; with_unfolding_all rfl) :
    wpAny (model Pg w) A (subscriptTail value slice (.ref l) (.ref s.heap.objs.size)) Q E { s with heap := s.heap.push { cls := .type "slice", data := .fields #[vl, vu, .none] } } := by
  refine subscriptTail_ops (Heap.IsList.typeIs (s := { s with heap := s.heap.push { cls := .type "slice", data := .fields #[vl, vu, .none] } }) (hl.push _)) list_getitem_lookup
    (wpAny_getItem_list_slice (hl.push _) (Heap.IsSliceOf.new ..) pl pu .none (by simp) ?_ hsz) hs ht
  refine h _ _ (Heap.get?_none_of_le ?_) (fun _ _ e => Heap.get?_push_of_some _ (Heap.get?_push_of_some _ e)) (Heap.get?_push_size _ rfl)
  rw [Heap.size_push]; exact Nat.le_succ _
theorem add_k {w : World} {A : Around} {E : Value → Shared → Prop} {s : Shared} {l b : Addr} {vs ws : List Value} {Q : Value → Shared → Prop} (hl : s.heap.IsList l vs.toArray) (hb : s.heap.IsList b ws.toArray) (hsz : vs.length + ws.length ≤ sizeLine)
    (h : ∀ D h', s.heap.get? D = none → Keeps s.heap h' → h'.get? D = some { cls := .type "list", data := .seq (vs ++ ws).toArray } → Q (.ref D) { s with heap := h' }) :
    wpAny (model Pg w) A (binaryOp .Add (.ref l) (.ref b)) Q E s := by
  obtain ⟨⟨c1, d1, p1, s1⟩, g1, rfl, n1, rfl⟩ := hl
  obtain ⟨⟨c2, d2, p2, s2⟩, g2, rfl, n2, rfl⟩ := hb
  refine concat_meets ⟨_, g1, rfl⟩ ⟨_, g2, rfl⟩ noFill_list_add seq_list_add PySem.F.slot_list_add PySem.F.entry_list_add (PySem.F.args_list_add_2 _ _) (list_addW l b vs.toArray ws.toArray n1 n2 d1 d2 s1 s2 (by simpa using hsz)) ⟨g1, g2, ?_⟩
  refine h _ _ (fresh_top _) (fun _ _ e => Heap.get?_push_of_some _ e) ((Heap.get?_push_size _ rfl).trans ?_)
  simp
end Mine
end

section
open PySem PySem.W PyProof.Rows PySem.Calls
namespace Mine
set_option maxRecDepth 100000
local macro_rules | `(tactic| walk_at "eval Name") => `(tactic| (refine nm_builtin (by assumption) (by assumption) (by decide +kernel) (by rfl) ?_))
local macro_rules | `(tactic| walk_at "eval Name") => `(tactic| (refine nm_def (by assumption) (by assumption) (by decide +kernel) ?_; intro _ _))
local macro_rules | `(tactic| walk_at "eval Name") => `(tactic| (refine nm_dots (by assumption) (by assumption) rfl ?_; intro _))
local macro_rules | `(tactic| walk_at "eval Name") => `(tactic| (refine nmC_builtin (by assumption) (by assumption) (by decide +kernel) (by rfl) ?_))
local macro_rules | `(tactic| walk_at "eval Name") => `(tactic| (refine nmC_def (by assumption) (by assumption) (by decide +kernel) ?_; intro _ _))
local macro_rules | `(tactic| walk_at "eval Name") => `(tactic| (refine cnm_def (by assumption) (by assumption) rfl (by decide +kernel) ?_; intro _ _))
local macro_rules | `(tactic| walk_at "eval Name") => `(tactic| (refine cnm_builtin (by assumption) (by assumption) rfl rfl (by decide +kernel) (by rfl) ?_))
local macro_rules | `(tactic| walk_at "eval Name") => `(tactic| (refine cnm_cell (by assumption) (by rfl) (by assumption) ?_))
local macro_rules | `(tactic| walk_at "eval Name") => `(tactic| (refine cnm_loc (by assumption) (by assumption) (by assumption) ?_))
local macro_rules | `(tactic| walk_at "callWith ref") => `(tactic| (refine callWith_item (by assumption) (by assumption) (by decide +kernel) ?_))
local macro_rules | `(tactic| walk_at "Keeps") => `(tactic| first | exact Fr.keep (by assumption) | assumption)
local macro_rules | `(tactic| walk_at "my room") => `(tactic| first | assumption | exact Ok.less (by assumption) | exact Ok.in1 (by assumption) | exact Ok.of_le (by assumption) (by decide))
section

def toL (x : Str) : List Nat := x.cps.toList
def ofL (l : List Nat) : Str := ⟨l.toArray⟩
theorem toL_ofL (l : List Nat) : toL (ofL l) = l := rfl
theorem ofL_toL (x : Str) : ofL (toL x) = x := rfl
theorem length_toL (x : Str) : (toL x).length = x.length := by unfold toL; rw [Array.length_toList]; rfl

def IsPiece (p : Piece) (its : Array Value) : Prop := ∃ t u v z, its = #[.str p.a t, .str p.b u, .str p.c v, .str p.d z]
def PieceAt (h : Heap) (p : Piece) (y : Value) : Prop := ∃ T its, y = .ref T ∧ h.IsList T its ∧ IsPiece p its
def PiecesAt (h : Heap) (l : Addr) (ps : List Piece) : Prop := ∃ ys : List Value, h.IsList l ys.toArray ∧ Paired (PieceAt h) ps ys
def Piece.at (p : Piece) : Nat → Str
  | 0 => p.a
  | 1 => p.b
  | 2 => p.c
  | _ => p.d
def Small (ps : List Piece) : Prop := ps.length ≤ 12 ∧ ∀ p ∈ ps, ∀ k, (p.at k).length ≤ 4
def colOf (k : Nat) (ps : List Piece) : Str := ofL (ps.flatMap fun p => toL (p.at k))

theorem PieceAt.keeps {h h' : Heap} {p : Piece} {y : Value} (x : PieceAt h p y) (hk : Keeps h h') : PieceAt h' p y :=
  let ⟨T, its, e, hl, r⟩ := x; ⟨T, its, e, hl.at fun o e => hk _ o e, r⟩
theorem PiecesAt.keeps {h h' : Heap} {l : Addr} {ps : List Piece} (x : PiecesAt h l ps) (hk : Keeps h h') : PiecesAt h' l ps :=
  let ⟨ys, hl, r⟩ := x; ⟨ys, hl.at fun o e => hk _ o e, r.mono fun _ _ y => y.keeps hk⟩
theorem paired_take {α β : Type} {F : α → β → Prop} : ∀ {l : List α} {r : List β}, Paired F l r → ∀ n, Paired F (l.take n) (r.take n)
  | _, _, _, 0 => .nil
  | _, _, .nil, _ + 1 => .nil
  | _, _, .cons a b, n + 1 => .cons a (paired_take b n)
theorem paired_get {α β : Type} {F : α → β → Prop} : ∀ {l : List α} {r : List β}, Paired F l r → ∀ (j : Nat) (v : β), r[j]? = some v → ∃ a, l[j]? = some a ∧ F a v
  | _, _, .nil, _, _, h => by cases h
  | _, _, .cons a b, 0, _, h => by simp at h; subst h; exact ⟨_, rfl, a⟩
  | _, _, .cons a b, j + 1, v, h => by
    obtain ⟨a', h1, h2⟩ := paired_get b j v (by simpa using h)
    exact ⟨a', by simpa using h1, h2⟩
theorem paired_len {α β : Type} {F : α → β → Prop} : ∀ {l : List α} {r : List β}, Paired F l r → l.length = r.length
  | _, _, .nil => rfl
  | _, _, .cons _ b => by simp [paired_len b]
theorem getElem?_ext' {α : Type} {l r : List α} (hn : l.length = r.length) (h : ∀ (j : Nat) (v : α), l[j]? = some v → r[j]? = some v) : l = r := by
  apply List.ext_getElem? 
  intro j
  cases e : l[j]? with
  | some v => exact (h j v e).symm
  | none =>
    rw [List.getElem?_eq_none_iff] at e
    exact (List.getElem?_eq_none_iff.mpr (hn ▸ e)).symm
/-- from the values walked over, and what each gives, the values of a mapped list -/
theorem paired_strs {α : Type} {R : Value → Value → Prop} {G : α → Value → Prop} {g : α → Str} (hR : ∀ a v y, G a v → R v y → ∃ t, y = .str (g a) t) :
    ∀ {as : List α} {vs ys : List Value}, Paired G as vs → Paired R vs ys → StrsAre ys (as.map g)
  | _, _, _, .nil, .nil => .nil
  | _, _, _, .cons a b, .cons c d => by
    obtain ⟨t, rfl⟩ := hR _ _ _ a c
    exact .cons _ _ (paired_strs hR b d)
theorem join_flat' : ∀ l : List Str, Str.join ⟨#[]⟩ l = ofL (l.flatMap toL)
  | [] => rfl
  | a :: r => by
    rw [PyProof.Rows.join_nil_cons, join_flat' r]
    show (⟨a.cps ++ (List.flatMap toL r).toArray⟩ : Str) = ⟨(toL a ++ List.flatMap toL r).toArray⟩
    congr 1
    show _ = (a.cps.toList ++ _).toArray
    simp
theorem join_flat (l : List Str) : Txt.join ⟨#[]⟩ l = ofL (l.flatMap toL) := (beq_iff_eq.mp (join_plain_closes _ l)).trans (join_flat' l)
theorem small_sum {ps : List Piece} (h : Small ps) (n k : Nat) : ((((ps.take n).map fun p => p.at k)).map (·.length)).sum ≤ 48 := by
  have key : ∀ l : List Piece, (∀ p ∈ l, ∀ k, (p.at k).length ≤ 4) → (((l.map fun p => p.at k)).map (·.length)).sum ≤ 4 * l.length := by
    intro l
    induction l with
    | nil => intro _; simp
    | cons a r ih =>
      intro hl
      have h1 := ih fun p hp => hl p (List.mem_cons_of_mem _ hp)
      have h2 := hl a List.mem_cons_self k
      simp only [List.map_cons, List.sum_cons, List.length_cons]
      omega
  have h1 := key (ps.take n) fun p hp => h.2 p (List.mem_of_mem_take hp)
  have h2 := h.1
  rw [List.length_take] at h1
  omega
theorem small_col {ps : List Piece} (h : Small ps) (n k : Nat) : (colOf k (ps.take n)).length ≤ 48 := by
  have h1 := small_sum h n k
  have : (colOf k (ps.take n)).length = ((((ps.take n).map fun p => p.at k)).map (·.length)).sum := by
    show (List.toArray _).size = _
    rw [List.size_toArray, List.length_flatMap]
    simp only [List.map_map]
    rfl
  omega

theorem filter_tt {α : Type} (l : List α) : l.filter (fun _ => true) = l := List.filter_eq_self.mpr fun _ _ => rfl
theorem item_any {w : World} {A : Around} {E : Value → Shared → Prop} {s : Shared} {value slice : PySem.Expr} {l : Addr} {its : Array Value} {k : Int} {u : Tok} {v : Value} {Q : Value → Shared → Prop}
    (hl : s.heap.IsList l its) (h0 : 0 ≤ k) (hhi : k < 2 ^ 63) (hx : its[k.toNat]? = some v) (h : Q v s)
    (hs : subscripted slice false (.ref l) (.int k u) = operate [.ref l, .int k u] (getItem (.ref l) (.int k u)) := by with_unfolding_all rfl) :
    wpAny (model Pg w) A (subscriptTail value slice (.ref l) (.int k u)) Q E s :=
  tail_any hl.typeIs slot_list_getitem.lookup (wpAny_getItem_list hl h0 hhi hx h) hs

set_option maxHeartbeats 4000000 in
theorem column_spec {w : World} {A : Around} {E : Value → Shared → Prop} {s : Shared} {mg : Str → Option Value} {Q : Value → Shared → Prop} {f : Addr} {l : Addr} {k n : Int} {t u : Tok} {ps : List Piece}
    (T : Wd w mg s.heap) (hf : mg "_law_column" = some (.ref f)) (hA : Ok 2 A) (hk0 : 0 ≤ k) (hk4 : k < 4) (hn0 : 0 ≤ n) (hps : PiecesAt s.heap l ps) (hsm : Small ps)
    (h : ∀ x u h' tk, x = colOf k.toNat (ps.take n.toNat) → Keeps s.heap h' → Q (.str x u) { s with heap := h', toks := tk }) :
    wpAny (model Pg w) A (call (.ref f) [.ref l, .int k t, .int n u]) Q E s := by
  obtain ⟨d, hd⟩ : ∃ d, d = fnNo 17 := ⟨_, rfl⟩
  have hfind : itemNamed "_law_column" = some d := by rw [hd]; rfl
  conv at hd => rhs; whnf
  subst hd
  refine call_itemC (binds := [("pieces", .ref l), ("which", .int k t), ("count", .int n u)]) T hf hfind hA (fun _ _ _ => by rfl) (fun L => by intro x hx; simp only [List.mem_cons, List.not_mem_nil, or_false] at hx; rcases hx with rfl | rfl | rfl <;> first | exact Or.inl rfl | exact Or.inr ⟨rfl, rfl⟩) (by decide) (fun h₁ tk L cd cells hL F N X hA' hh' => ?_)
  clear hfind
  dsimp only at hA' hh' ⊢
  obtain ⟨oc, rfl, hoc⟩ := X.one
  replace hoc : oc.data = .cell (some (.int k t)) := hoc
  replace F : Fr s.heap L h₁ (fun y => if y = "count" then some (.int n u) else if y = "pieces" then some (.ref l) else none) := F
  clear X
  obtain ⟨ys, hl, hpair⟩ := hps
  have hl' := hl.at fun o e => F.keep _ o e
  have hys : ys.length ≤ 12 := by rw [← paired_len hpair]; exact hsm.1
  repeat' walk1
  refine comp_rule (cl := [("which", L + 1)]) (fun _ => true) (fun v y => ∀ p, PieceAt s.heap p v → ∃ t, y = .str (p.at k.toNat) t) rfl ?_
  repeat' walk1
  rename_i h₂ F₂ N₂
  have hsl : slicePick ys.toArray none (some n) none = (ys.take n.toNat).toArray := by
    have e := slicePick_upto' ys.toArray n.toNat
    rw [Int.toNat_of_nonneg hn0] at e
    exact e
  rw [hsl] at N₂
  have hp2 := paired_take hpair n.toNat
  refine ⟨_, _, Src.list hh' (News.isList N₂ (.head _)), ?_, Turn.noTests ?_, ?_⟩
  · rw [List.size_toArray, List.length_take]; unfold sizeLine; omega
  · intro C i v s₃ m E' hC hP hn hm hk
    have hcl : s₃.heap.IsCell (L + 1) (some (.int k t)) := ⟨oc, hk _ _ (N₂.get (.tail _ (.head _))), hoc⟩
    have K : Keeps s₃.heap s₃.heap := Keeps.refl _
    obtain ⟨p, hp, T', its, rfl, hT, t1, t2, t3, t4, rfl⟩ := paired_get hp2 i v (by simpa using hP)
    have hT3 := hT.at fun o e => hk _ o (F₂.keep _ o e)
    repeat' walk1
    have hk' : k = 0 ∨ k = 1 ∨ k = 2 ∨ k = 3 := by omega
    rcases hk' with rfl | rfl | rfl | rfl <;> refine item_any hT3 (by decide) (by decide) rfl ?_ <;> refine ElEnd.mk K (fun p' hp' => ?_) <;> (
      obtain ⟨T'', its', e1, hT', t1', t2', t3', t4', rfl⟩ := hp'
      cases e1
      obtain ⟨o1, g1, _, n1, d1⟩ := hT
      obtain ⟨o2, g2, _, n2, d2⟩ := hT'
      rw [g1] at g2
      cases g2
      rw [d1] at d2
      injection d2 with d2 _
      simp only [Array.mk.injEq, List.cons.injEq, Value.str.injEq] at d2
      simp only [Piece.at, d2]
      exact ⟨_, rfl⟩)
  · intro D h₃ tk₃ c ys₃ vs hD hDl hlen hvs hR hk
    have hvs' : vs = ys.take n.toNat := getElem?_ext' (by rw [hlen]; simp) (fun j v hj => by simpa using hvs j v hj)
    subst hvs'
    have F₃ := frKept F₂ hk
    rw [filter_tt] at hR
    have hst := paired_strs (g := fun p : Piece => p.at k.toNat) (G := PieceAt s.heap) (fun p v y hp hR => hR p hp) hp2 hR
    have hsum := small_sum hsm n.toNat k.toNat
    repeat' walk1
    refine join_list ⟨_, hDl, rfl, c, rfl⟩ hst (by show _ + _ * 0 ≤ _; omega) ?_
    intro t' k'
    repeat' walk1
    refine Back.ret F₃ (fun hk => h _ _ _ _ ?_ hk)
    show Txt.join ⟨#[]⟩ _ = _
    rw [join_flat, List.flatMap_map]
    rfl
end

section
local macro_rules | `(tactic| walk_at "call ref") => `(tactic| (refine inB1_spec (Wd.keeps (by assumption) (by assumption)) (by assumption) (by walk_at "my room")  ?_; intro _ _ _ e' hk'; subst e'; (have K' := Keeps.trans (by assumption) hk'); clear hk'))
local macro_rules | `(tactic| walk_at "call ref") => `(tactic| (refine b3_spec (Wd.keeps (by assumption) (by assumption)) (by assumption) (by walk_at "my room")  ?_; intro _ _ _ _ e' hk'; subst e'; (have K' := Keeps.trans (by assumption) hk'); clear hk'))

def keepB (c : Nat) : Bool := !b1L.contains (c : Int)
def prepL (l : List Nat) : List Nat := (l.filter keepB).flatMap fun c => toL (foldOf c)
def signKept : Value → Bool
  | .str y _ => keepB (y.cps.getD 0 0)
  | _ => false
theorem signs_paired {x : Str} {vs : List Value} (hlen : vs.length = x.cps.size) (h : ∀ (j : Nat) (v : Value), vs[j]? = some v → SignAt x j v) : Paired (fun (c : Nat) v => ∃ u, v = .str ⟨#[c]⟩ u) (toL x) vs := by
  have key : ∀ (l : List Nat) (vs : List Value), vs.length = l.length → (∀ (j : Nat) (v : Value), vs[j]? = some v → ∃ (c : Nat) (u : Tok), l[j]? = some c ∧ v = .str ⟨#[c]⟩ u) → Paired (fun (c : Nat) v => ∃ u, v = .str ⟨#[c]⟩ u) l vs := by
    intro l
    induction l with
    | nil => intro vs hv _; cases vs with | nil => exact .nil | cons a r => simp at hv
    | cons c r ih =>
      intro vs hv hh
      cases vs with
      | nil => simp at hv
      | cons v vr =>
        obtain ⟨c', u, e1, e2⟩ := hh 0 v rfl
        simp at e1
        subst e1
        exact .cons ⟨u, e2⟩ (ih vr (by simpa using hv) fun j w hw => by simpa using hh (j + 1) w (by simpa using hw))
  refine key (toL x) vs (by rw [hlen]; unfold toL; simp) fun j v hj => ?_
  obtain ⟨c, u, e1, e2⟩ := h j v hj
  exact ⟨c, u, by unfold toL; simpa using e1, e2⟩
theorem signs_kept : ∀ {l : List Nat} {vs : List Value}, Paired (fun (c : Nat) v => ∃ u, v = .str ⟨#[c]⟩ u) l vs → Paired (fun (c : Nat) v => ∃ u, v = .str ⟨#[c]⟩ u) (l.filter keepB) (vs.filter signKept)
  | _, _, .nil => .nil
  | c :: l, _, .cons (b := v) ⟨u, e⟩ r => by
    subst e
    have ih := signs_kept r
    have e : signKept (.str ⟨#[c]⟩ u) = keepB c := rfl
    cases hc : keepB c with
    | true => rw [List.filter_cons_of_pos hc, List.filter_cons_of_pos (e.trans hc)]; exact .cons ⟨u, rfl⟩ ih
    | false => rw [List.filter_cons_of_neg (by rw [hc]; decide), List.filter_cons_of_neg (by rw [e, hc]; decide)]; exact ih
theorem sum_len_flat {α : Type} (g : α → Str) : ∀ l : List α, ((l.map g).map (·.length)).sum = (l.flatMap fun c => toL (g c)).length
  | [] => rfl
  | a :: l => by
    have h : (toL (g a)).length = (g a).length := length_toL _
    simp only [List.map_cons, List.sum_cons, List.flatMap_cons, List.length_append, sum_len_flat g l, h]

set_option maxHeartbeats 4000000 in
theorem prepared_spec {w : World} {A : Around} {E : Value → Shared → Prop} {s : Shared} {mg : Str → Option Value} {Q : Value → Shared → Prop} {f : Addr} {z : Str} {t : Tok}
    (T : Wd w mg s.heap) (hf : mg "_law_prepared" = some (.ref f)) (hA : Ok 3 A) (hz : z.length ≤ 1000) (hz2 : (prepL (toL z)).length ≤ 1000)
    (h : ∀ x u h' tk, x = ofL (prepL (toL z)) → Keeps s.heap h' → Q (.str x u) { s with heap := h', toks := tk }) :
    wpAny (model Pg w) A (call (.ref f) [.str z t]) Q E s := by
  obtain ⟨d, hd⟩ : ∃ d, d = fnNo 16 := ⟨_, rfl⟩
  have hfind : itemNamed "_law_prepared" = some d := by rw [hd]; rfl
  conv at hd => rhs; whnf
  subst hd
  refine call_item (binds := [("text", .str z t)]) T hf hfind hA (fun _ _ _ => by rfl) (locs rfl) (fun h₁ L cd hL F N hA' hh' => ?_)
  clear hfind
  dsimp only at hA' hh' ⊢
  iterate 7 walk1
  refine comp_rule (cl := []) signKept (fun v y => ∃ (c : Nat) (u t : Tok), v = .str ⟨#[c]⟩ u ∧ y = .str (foldOf c) t) rfl ?_
  walk1
  refine ⟨_, _, Src.str hh', ?_, ⟨?_, ?_⟩, ?_⟩
  · have : z.cps.size = z.length := rfl
    unfold sizeLine; omega
  · intro C i v s₃ m E' hC hP hn hm hk
    have K : Keeps s₃.heap s₃.heap := Keeps.refl _
    have T₃ : Wd w mg s₃.heap := T.keeps (Keeps.trans F.keep hk)
    obtain ⟨c, u', _, rfl⟩ := hP
    refine wpAny_tests_one ?_
    repeat' walk1
    all_goals exact ElEnd.mk (by assumption) rfl
  · intro C i v s₃ m E' hC hP _ hn hm hk
    have K : Keeps s₃.heap s₃.heap := Keeps.refl _
    have T₃ : Wd w mg s₃.heap := T.keeps (Keeps.trans F.keep hk)
    obtain ⟨c, u', _, rfl⟩ := hP
    repeat' walk1
    exact ElEnd.mk (by assumption) ⟨_, _, _, rfl, rfl⟩
  · intro D h₃ tk₃ c ys₃ vs hD hDl hlen hvs hR hk
    have F₃ := frKept F hk
    have hpp := signs_kept (signs_paired hlen hvs)
    have hst := paired_strs (g := foldOf) (fun c v y hp hR => by
      obtain ⟨u, rfl⟩ := hp
      obtain ⟨c', u', t', e, rfl⟩ := hR
      cases e
      exact ⟨_, rfl⟩) hpp hR
    have hsum := sum_len_flat foldOf ((toL z).filter keepB)
    unfold prepL at hz2
    repeat' walk1
    refine join_list ⟨_, hDl, rfl, c, rfl⟩ hst (by show _ + _ * 0 ≤ _; omega) ?_
    intro t' k'
    repeat' walk1
    refine Back.ret F₃ (fun hk => h _ _ _ _ ?_ hk)
    show Txt.join ⟨#[]⟩ _ = _
    rw [join_flat, List.flatMap_map]
    rfl
end

section
local macro_rules | `(tactic| walk_at "call ref") => `(tactic| (refine inB1_spec (Wd.keeps (by assumption) (Fr.keep (by assumption))) (by assumption) (by walk_at "my room")  ?_; intro _ _ _ e' hk'; subst e'; (have F' := frKept (by assumption) hk'); (have N' := newsKept (by assumption) hk'); clear hk'))
local macro_rules | `(tactic| walk_at "call ref") => `(tactic| (refine b3_spec (Wd.keeps (by assumption) (Fr.keep (by assumption))) (by assumption) (by walk_at "my room")  ?_; intro _ _ _ _ e' hk'; subst e'; (have F' := frKept (by assumption) hk'); (have N' := newsKept (by assumption) hk'); clear hk'))
local macro_rules | `(tactic| walk_at "call ref") => `(tactic| (refine masked_spec (Wd.keeps (by assumption) (Fr.keep (by assumption))) (by assumption) (by walk_at "my room")  ?_; intro _ _ _ e' hk'; subst e'; (have F' := frKept (by assumption) hk'); (have N' := newsKept (by assumption) hk'); clear hk'))

local macro_rules | `(tactic| walk_at "eval Name") => `(tactic| (refine ld (by assumption) (by ((try dsimp only); (repeat (refine (if_neg (by decide)).trans ?_)); first | with_reducible assumption | exact if_pos rfl)) ?_))
theorem Iter_str_unr {w : World} {A : Around} {s : Shared} {env : Env} {h₀ : Heap} {E : Value → Shared → Prop} {Q : Flow → Shared → Prop} {nx : Str} {px : Pos} {body : List Stmt} {m : Str → Option Value} {news : List (Addr × Obj)} {x : Str} {t : Tok}
    (hh : A.handled = none) (F : Fr h₀ env.locals s.heap m) (N : News h₀ env.locals s.heap news)
    (h : ∀ h₂, Unr Pg w A E h₀ env (.Name nx px) body Q (SignAt x) [s.heap.objs.size] { s with heap := h₂ } x.cps.size 0 m news) :
    wpAny (model Pg w) A (pyIter (.str x t)) (fun it s₂ => UnrAt Pg w A h₀ env (.Name nx px) body Q E it s₂) E s := by
  refine wpAny_pyIter_str fun o St W hst => ?_
  refine ⟨s.heap.objs.size, [s.heap.objs.size], [s.heap.objs.size], x.cps.size, _, _, m, news, rfl, W A hh, ?_, ?_, ?_, hst, F.push _, fun p hp => ⟨Heap.get?_push_of_some _ (N p hp).1, (N p hp).2⟩, fun i s' v Q' st hQ' => ?_, h _⟩
  · intro hm
    exact absurd F.ns.lt ((List.mem_singleton.mp hm) ▸ Nat.lt_irrefl _)
  · intro b hb
    rw [List.mem_singleton.mp hb]
    exact Heap.get?_none_of_le (Nat.le_of_lt (Nat.lt_of_le_of_lt F.above F.ns.lt))
  · intro p hp hI
    exact absurd (Heap.lt_size (N p hp).1) ((List.mem_singleton.mp hI) ▸ Nat.lt_irrefl _)
  · unfold letOwnedTupleGo
    exact wpAny_pure hQ'

def patOf (c : Nat) : List Nat := if maskedB c = true then [46, 46, 46] else if keepB c = true then toL (foldOf c) else []
def patL (l : List Nat) : List Nat := l.flatMap patOf
theorem patL_snoc (l : List Nat) (j : Nat) (c : Nat) (h : l[j]? = some c) : patL (l.take (j + 1)) = patL (l.take j) ++ patOf c := by
  unfold patL
  rw [List.take_add_one, h]
  simp
theorem patL_le (l : List Nat) (j : Nat) : (patL (l.take j)).length ≤ (patL l).length := by
  unfold patL
  conv => rhs; rw [← List.take_append_drop j l]
  rw [List.flatMap_append, List.length_append]
  omega
theorem some_str {x y : Str} {t : Tok} (e : x = y) : some (Value.str x t) = some (Value.str y t) := by rw [e]
theorem app_ofL (x y : List Nat) : ofL x ++ ofL y = ofL (x ++ y) := by
  show (⟨x.toArray ++ y.toArray⟩ : Str) = _
  unfold ofL
  congr 1
  simp

set_option maxHeartbeats 8000000 in
theorem pattern_loop {w : World} {A : Around} {s : Shared} {hp₂ : Heap} {tk₂ : Nat} {mg : Str → Option Value} {Q : Value → Shared → Prop} {f L : Addr} {cd : Value} {z : Str} {d : DefItem} {news : List (Addr × Obj)} {fp : List Addr}
    {tgt iter : PySem.Expr} {body orelse : List Stmt} {pos : Pos} {st1 st3 : Stmt}
    (hd : d = fnNo 15) (hb : d.body = [st1, .For tgt iter body orelse pos, st3])
    (T : Wd w mg s.heap) (hA' : Ok 2 (A.deeper (envOf d.name d.scope L f cd))) (hh' : (A.deeper (envOf d.name d.scope L f cd)).handled = none) (hz : (patL (toL z)).length ≤ 1000)
    (h : ∀ x u h' tk, x = ofL (patL (toL z)) → Keeps s.heap h' → Q (.str x u) { s with heap := h', toks := tk }) :
    ∀ (n j : Nat), n + j = z.cps.size → ∀ (m₁ : Str → Option Value) (t : Tok), m₁ "pattern" = some (.str (ofL (patL ((toL z).take j))) t) →
      Unr Pg w (A.deeper (envOf d.name d.scope L f cd)) (fun _ _ => False) s.heap (envOf d.name d.scope L f cd) tgt body
        (fun fl s' => match fl with | .next => wpAny (model Pg w) (A.deeper (envOf d.name d.scope L f cd)) (execs [st3] (envOf d.name d.scope L f cd)) (Back s.heap Q) (fun _ _ => False) s' | fl => Back s.heap Q fl s')
        (SignAt z) fp { s with heap := hp₂, toks := tk₂ } n j m₁ news := by
  conv at hd => rhs; whnf
  subst hd
  dsimp only at hb hh' hA' ⊢
  injection hb with e1 hb
  injection hb with e3 hb
  injection hb with e4 hb
  injection e3 with e5 e6 e7 e8
  subst e1 e4 e5 e6 e7 e8
  intro n
  induction n with
  | zero =>
    intro j hj m₁ t hp
    refine Unr.zero fun h' tk F' N' => ?_
    replace F' : Fr s.heap L h' m₁ := F'
    replace N' : News s.heap L h' news := N'
    dsimp only
    have e : (toL z).take j = toL z := by
      apply List.take_of_length_le
      rw [length_toL]
      show z.cps.size ≤ j
      omega
    rw [e] at hp
    repeat' walk1
    exact Back.ret (by assumption) (fun hk => h _ _ _ _ rfl hk)
  | succ n ih =>
    intro j hj m₁ t hp
    refine Unr.succ fun v h₁ tk₁ own hv hown F' N' => ?_
    replace F' : Fr s.heap L h₁ m₁ := F'
    replace N' : News s.heap L h₁ (own ++ news) := N'
    obtain ⟨c, u, hc, rfl⟩ := hv
    have hc' : (toL z)[j]? = some c := by unfold toL; simpa using hc
    have hsn := patL_snoc _ _ _ hc'
    have hle := patL_le (toL z) (j + 1)
    have hle0 := patL_le (toL z) j
    repeat' walk1
    · rename_i hmask
      have e : patOf c = [46, 46, 46] := if_pos hmask
      rw [e] at hsn
      refine add_str ?_ (by rw [sizeLine_eq]; show (toL (ofL _)).length + 3 ≤ _; rw [toL_ofL]; omega)
      intro _ _
      repeat' walk1
      refine ih (j + 1) (by omega) _ _ ((if_pos rfl).trans (some_str ?_))
      rw [hsn, ← app_ofL]
      rfl
    · rename_i hmask _ _ _ _ _ _ hb1
      have e : patOf c = [] := by
        unfold patOf keepB
        rw [if_neg (by rw [hmask]; decide), if_neg (by rw [hb1]; decide)]
      rw [e, List.append_nil] at hsn
      refine ih (j + 1) (by omega) _ _ ((if_neg (by decide)).trans (hp.trans (some_str ?_)))
      rw [hsn]
    · rename_i hmask _ _ _ _ _ _ hb1 _ _ _ _ _ _ _
      have e : patOf c = toL (foldOf c) := by
        unfold patOf keepB
        rw [if_neg (by rw [hmask]; decide), if_pos (by rw [hb1]; decide)]
      rw [e] at hsn
      rw [hsn, List.length_append] at hle
      refine add_str ?_ (by rw [sizeLine_eq]; show (toL (ofL _)).length + (toL (foldOf c)).length ≤ _; rw [toL_ofL]; omega)
      intro _ _
      repeat' walk1
      refine ih (j + 1) (by omega) _ _ ((if_pos rfl).trans (some_str ?_))
      rw [hsn, ← app_ofL]
      rfl

set_option maxHeartbeats 4000000 in
theorem pattern_spec {w : World} {A : Around} {E : Value → Shared → Prop} {s : Shared} {mg : Str → Option Value} {Q : Value → Shared → Prop} {f : Addr} {z : Str} {t : Tok}
    (T : Wd w mg s.heap) (hf : mg "_law_pattern" = some (.ref f)) (hA : Ok 3 A) (hz : (patL (toL z)).length ≤ 1000)
    (h : ∀ x u h' tk, x = ofL (patL (toL z)) → Keeps s.heap h' → Q (.str x u) { s with heap := h', toks := tk }) :
    wpAny (model Pg w) A (call (.ref f) [.str z t]) Q E s := by
  obtain ⟨d, hd⟩ : ∃ d, d = fnNo 15 := ⟨_, rfl⟩
  have hfind : itemNamed "_law_pattern" = some d := by rw [hd]; rfl
  conv at hd => rhs; whnf
  subst hd
  refine call_item (binds := [("spelling", .str z t)]) T hf hfind hA (fun _ _ _ => by rfl) (locs rfl) (fun h₁ L cd hL F N hA' hh' => ?_)
  clear hfind
  dsimp only at hA' hh' ⊢
  iterate 5 walk1
  refine For_unr s.heap ?_ (by intro _; rfl)
  walk1
  refine Iter_str_unr hh' (by assumption) (by assumption) ?_
  intro h₂
  exact pattern_loop (d := fnNo 15) rfl rfl T hA' hh' hz h _ 0 rfl _ _ rfl
end

section
local macro_rules | `(tactic| walk_at "call ref") => `(tactic| (refine spelled_spec (Wd.keeps (by assumption) (Fr.keep (by assumption))) (by assumption) (by walk_at "my room") (by omega) (by omega) ?_; intro _ _ _ _ e' hk'; subst e'; (have F' := frKept (by assumption) hk'); (have N' := newsKept (by assumption) hk'); clear hk'))

def frontOf (z : Int) : List Piece :=
  if z.fmod 4 = 0 then [⟨"A⿰\u200b", "a...", "a", "a"⟩, ⟨"A", "a", "A", "a"⟩]
  else if z.fmod 4 = 1 then [⟨⟨#[917569]⟩, "...", "B", "b"⟩]
  else if z.fmod 4 = 2 then []
  else [⟨"A", "a", one (spelledI ((z.fdiv 4).fmod 2) z), one (97 + (z.fdiv 4).fmod 2)⟩]

set_option maxHeartbeats 4000000 in
theorem front_spec {w : World} {A : Around} {E : Value → Shared → Prop} {s : Shared} {mg : Str → Option Value} {Q : Value → Shared → Prop} {f : Addr} {z : Int} {t : Tok}
    (T : Wd w mg s.heap) (hf : mg "_law_front" = some (.ref f)) (hA : Ok 2 A) 
    (h : ∀ l h' tk, PiecesAt h' l (frontOf z) → Keeps s.heap h' → Q (.ref l) { s with heap := h', toks := tk }) :
    wpAny (model Pg w) A (call (.ref f) [.int z t]) Q E s := by
  obtain ⟨d, hd⟩ : ∃ d, d = fnNo 12 := ⟨_, rfl⟩
  have hfind : itemNamed "_law_front" = some d := by rw [hd]; rfl
  conv at hd => rhs; whnf
  subst hd
  refine call_item (binds := [("total", .int z t)]) T hf hfind hA (fun _ _ _ => by rfl) (locs rfl) (fun h₁ L cd hL F N hA' hh' => ?_)
  clear hfind
  dsimp only at hA' hh' ⊢
  have hm4 := fmod_lt (k := z) (m := 4) (by decide)
  have hm2 := fmod_lt (k := z.fdiv 4) (m := 2) (by decide)
  repeat' walk1
  all_goals (refine Back.ret (by assumption) (fun hk => h _ _ _ ?_ hk))
  all_goals (unfold frontOf; (repeat (first | rw [if_pos (by with_reducible assumption)] | rw [if_neg (by with_reducible assumption)])))
  · refine ⟨[_, _], News.isList (by assumption) (.head _), .cons ⟨_, _, rfl, News.isList (by assumption) (by k_mem), _, _, _, _, rfl⟩ (.cons ⟨_, _, rfl, News.isList (by assumption) (by k_mem), _, _, _, _, rfl⟩ .nil)⟩
  · refine ⟨[_], News.isList (by assumption) (.head _), .cons ⟨_, _, rfl, News.isList (by assumption) (by k_mem), _, _, _, _, rfl⟩ .nil⟩
  · refine ⟨[], News.isList (by assumption) (.head _), .nil⟩
  · refine ⟨[_], News.isList (by assumption) (.head _), .cons ⟨_, _, rfl, News.isList (by assumption) (by k_mem), _, _, _, _, rfl⟩ .nil⟩

local macro_rules | `(tactic| walk_at "call ref") => `(tactic| (refine front_spec (Wd.keeps (by assumption) (Fr.keep (by assumption))) (by assumption) (by walk_at "my room") ?_; intro _ _ _ hpf' hk'; (have F' := frKept (by assumption) hk'); (have N' := newsKept (by assumption) hk')))

local macro_rules | `(tactic| walk_at "subscriptTail Name Slice ref ref") => `(tactic| (refine slice_k (by assumption) (by first | exact .none | exact .int _ _) (by first | exact .none | exact .int _ _) (by (try simp only [List.size_toArray]); unfold sizeLine; omega) ?_; intro D' h' hD' hk' hg'; (have F' := frKept (by assumption) hk'); (have N' := newsKept (by assumption) hk')))

theorem paired_append {α β : Type} {F : α → β → Prop} : ∀ {l l' : List α} {r r' : List β}, Paired F l r → Paired F l' r' → Paired F (l ++ l') (r ++ r')
  | _, _, _, _, .nil, h => h
  | _, _, _, _, .cons a b, h => .cons a (paired_append b h)
theorem paired_ints {β : Type} {R : Value → β → Prop} {F : Piece → β → Prop} {g : Int → Piece} : ∀ {vs : List Value} {ns : List Int} {ys : List β}, IntsAre vs ns → Paired R vs ys → (∀ x t v y, v = .int x t → R v y → F (g x) y) → Paired F (ns.map g) ys
  | _, _, _, .nil, .nil, _ => .nil
  | _, _, _, .cons n t r, .cons a b, h => .cons (h n t _ _ rfl a) (paired_ints r b h)

set_option maxHeartbeats 4000000 in
theorem pieces_spec {w : World} {A : Around} {E : Value → Shared → Prop} {s : Shared} {mg : Str → Option Value} {Q : Value → Shared → Prop} {f : Addr} {a : Addr} {vs : List Value} {ns : List Int}
    (T : Wd w mg s.heap) (hf : mg "_law_pieces" = some (.ref f)) (hA : Ok 3 A) (hl : s.heap.IsList a vs.toArray) (hi : IntsAre vs ns) (hlen : ns.length ≤ 63)
    (h : ∀ l h' tk, PiecesAt h' l (frontOf ns.sum ++ (ns.take 10).map pieceOf) → Keeps s.heap h' → Q (.ref l) { s with heap := h', toks := tk }) :
    wpAny (model Pg w) A (call (.ref f) [.ref a]) Q E s := by
  obtain ⟨d, hd⟩ : ∃ d, d = fnNo 13 := ⟨_, rfl⟩
  have hfind : itemNamed "_law_pieces" = some d := by rw [hd]; rfl
  conv at hd => rhs; whnf
  subst hd
  refine call_item (binds := [("script", .ref a)]) T hf hfind hA (fun _ _ _ => by rfl) (locs rfl) (fun h₁ L cd hL F N hA' hh' => ?_)
  clear hfind
  dsimp only at hA' hh' ⊢
  have hl' := hl.at fun o e => F.keep _ o e
  repeat' walk1
  refine sum_listG (s₀ := s) F hh' hl hi ?_
  rintro s' tk' ⟨⟨h₂, tk₂, rfl⟩, hns, hkp, hab⟩
  have F₂ : Fr s.heap L h₂ _ := ⟨hns, hkp, hab⟩
  have N₂ : News s.heap L h₂ [] := News.nil
  clear hl' F N
  have hl' := hl.at fun o e => F₂.keep _ o e
  iterate 4 walk1
  rename_i l₃ h₃ tk₃ hpf hk₃ F₃ N₃
  have hl₃ := hl.at fun o e => F₃.keep _ o e
  refine comp_ruleO (cl := []) (fun _ => true) (fun v its => ∃ (x : Int) (t : Tok), v = .int x t ∧ IsPiece (pieceOf x) its) rfl ?_
  have hvl : vs.length ≤ 63 := by rw [hi.length]; exact hlen
  repeat' walk1
  rename_i D₄ h₄ hD₄ hk₄ hg₄ F₄ N₄
  have hsl : slicePick vs.toArray none (some 10) none = (vs.take 10).toArray := slicePick_upto' vs.toArray 10
  rw [hsl] at hg₄
  have hi10 := IntsAre.take hi 10
  refine ⟨_, _, Src.list hh' ⟨_, hg₄, rfl, _, rfl⟩, ?_, Turn.noTests ?_, ?_⟩
  · rw [List.size_toArray, List.length_take]; unfold sizeLine; omega
  · intro C i v s₅ m E' hC hP hn hm hk
    have K : Keeps s₅.heap s₅.heap := Keeps.refl _
    have T₅ : Wd w mg s₅.heap := T.keeps (Keeps.trans F₄.keep hk)
    obtain ⟨x, t, rfl, _⟩ := IntsAre.at hi10 i v (by simpa using hP)
    repeat' walk1
    refine piece_spec T₅ (by assumption) (by walk_at "my room") ?_
    intro l a b c d t1 t2 t3 t4 h' tk' hp hk' hl0 hl1
    refine ElEnd.mk hk' ⟨l, _, rfl, hl0, ⟨_, hl1, rfl, _, rfl⟩, x, t, rfl, t1, t2, t3, t4, ?_⟩
    rw [hp]
  · intro D h₅ tk₅ c ys₅ ws hD hDl hlen5 hws hR hk
    have hws' : ws = vs.take 10 := getElem?_ext' (by rw [hlen5]; simp) (fun j v hj => by simpa using hws j v hj)
    subst hws'
    have F₅ := frKept F₄ hk
    have N₅ := newsKept N₄ hk
    rw [filter_tt] at hR
    obtain ⟨yf, hyl, hyp⟩ := PiecesAt.keeps hpf (Keeps.trans hk₄ hk)
    have hyfl : yf.length ≤ 2 := by
      rw [← paired_len hyp]
      unfold frontOf
      repeat' split
      all_goals simp
    have hysl : ys₅.toList.length ≤ 63 := by
      have e := paired_len hR
      rw [List.length_take] at e
      omega
    refine add_k hyl (ws := ys₅.toList) ⟨_, hDl, rfl, c, rfl⟩ (by unfold sizeLine; omega) ?_
    intro D₆ h₆ hD₆ hk₆ hg₆
    refine Back.ret (frKept F₅ hk₆) (fun hk => h _ _ _ ⟨yf ++ ys₅.toList, ⟨_, hg₆, rfl, _, rfl⟩, ?_⟩ hk)
    refine paired_append (hyp.mono fun _ _ y => y.keeps hk₆) ?_
    exact paired_ints hi10 hR fun x t v y hv hy => by
      subst hv
      obtain ⟨T', its, rfl, hT', x', t', e, hp⟩ := hy
      cases e
      exact ⟨T', its, rfl, hT'.at fun o e => hk₆ _ o e, hp⟩
end

section

structure Fit (h₀ : Heap) (L : Nat) (h : Heap) (vw vg : Value) (vr vp : Option Value) : Prop where
  F : Fr h₀ L h (fun _ => none)
  w : h.IsCell (L + 1) (some vw)
  g : h.IsCell (L + 2) (some vg)
  r : h.IsCell (L + 3) vr
  p : h.IsCell (L + 4) vp
def Whole (h₀ : Heap) (L : Addr) (h : Heap) (al : List (Addr × Obj)) : Prop := ∀ b o, b ≠ L → h.get? b = some o → h₀.get? b = none → (b, o) ∈ al
theorem whole {h₀ : Heap} {L : Addr} {h : Heap} : ∃ al, News h₀ L h al ∧ Whole h₀ L h al :=
  ⟨ownOf h₀ ((List.range h.objs.size).filter (fun b => decide (b ≠ L))) h, news_ownOf (by simp), fun b o hb e hn => mem_ownOf (by simp only [List.mem_filter, List.mem_range, decide_eq_true_eq]; exact ⟨Heap.lt_size e, hb⟩) hn e⟩
/-- what stood, other than the frame's own object, still stands -/
def KeepsBut (L : Addr) (h h' : Heap) : Prop := ∀ b o, b ≠ L → h.get? b = some o → h'.get? b = some o
theorem Whole.keeps {h₀ : Heap} {L : Addr} {h h' : Heap} {m m' : Str → Option Value} {al al' : List (Addr × Obj)} (W : Whole h₀ L h al) (F : Fr h₀ L h m) (F' : Fr h₀ L h' m') (N : News h₀ L h' al') (hs : ∀ p ∈ al, p ∈ al') : KeepsBut L h h' := by
  intro b o hb e
  cases hn : h₀.get? b with
  | some o₀ =>
    have e1 := F.keep b o₀ hn
    rw [e] at e1
    cases e1
    exact F'.keep b o hn
  | none => exact (N _ (hs _ (W b o hb e hn))).1
theorem KeepsBut.list {L : Addr} {h h' : Heap} {m : Str → Option Value} {r : Addr} {its : Array Value} (K : KeepsBut L h h') (hn : h.Ns L m) (hl : h.IsList r its) : h'.IsList r its := by
  obtain ⟨o, e, hc, n, hd⟩ := hl
  refine ⟨o, K r o (fun q => ?_) e, hc, n, hd⟩
  obtain ⟨o', es, ep, e', hd', _⟩ := hn
  rw [q, e'] at e
  cases e
  rw [hd] at hd'
  cases hd'
theorem Fit.keeps {h₀ : Heap} {L : Nat} {h h' : Heap} {vw vg : Value} {vr vp : Option Value} (X : Fit h₀ L h vw vg vr vp) (F' : Fr h₀ L h' (fun _ => none)) (K : KeepsBut L h h') : Fit h₀ L h' vw vg vr vp where
  F := F'
  w := let ⟨o, e, d⟩ := X.w; ⟨o, K _ o (Nat.ne_of_gt (Nat.lt_add_of_pos_right (by decide))) e, d⟩
  g := let ⟨o, e, d⟩ := X.g; ⟨o, K _ o (Nat.ne_of_gt (Nat.lt_add_of_pos_right (by decide))) e, d⟩
  r := let ⟨o, e, d⟩ := X.r; ⟨o, K _ o (Nat.ne_of_gt (Nat.lt_add_of_pos_right (by decide))) e, d⟩
  p := let ⟨o, e, d⟩ := X.p; ⟨o, K _ o (Nat.ne_of_gt (Nat.lt_add_of_pos_right (by decide))) e, d⟩
theorem above_none {h₀ h : Heap} {L : Nat} {m : Str → Option Value} (F : Fr h₀ L h m) (k : Nat) : h₀.get? (L + k) = none := Heap.get?_none_of_le (Nat.le_trans F.above (Nat.le_add_right _ _))
theorem Fit.open {h₀ : Heap} {L : Nat} {h : Heap} {vw vg : Value} {vr vp : Option Value} (X : Fit h₀ L h vw vg vr vp) :
    ∃ al ow og or op, News h₀ L h al ∧ Whole h₀ L h al ∧ (L + 1, ow) ∈ al ∧ ow.data = .cell (some vw) ∧ (L + 2, og) ∈ al ∧ og.data = .cell (some vg) ∧ (L + 3, or) ∈ al ∧ or.data = .cell vr ∧ (L + 4, op) ∈ al ∧ op.data = .cell vp := by
  obtain ⟨al, N, W⟩ := whole (h₀ := h₀) (L := L) (h := h)
  obtain ⟨ow, e1, d1⟩ := X.w
  obtain ⟨og, e2, d2⟩ := X.g
  obtain ⟨or, e3, d3⟩ := X.r
  obtain ⟨op, e4, d4⟩ := X.p
  exact ⟨al, ow, og, or, op, N, W, W _ _ (Nat.ne_of_gt (Nat.lt_add_of_pos_right (by decide))) e1 (above_none X.F 1), d1, W _ _ (Nat.ne_of_gt (Nat.lt_add_of_pos_right (by decide))) e2 (above_none X.F 2), d2,
    W _ _ (Nat.ne_of_gt (Nat.lt_add_of_pos_right (by decide))) e3 (above_none X.F 3), d3, W _ _ (Nat.ne_of_gt (Nat.lt_add_of_pos_right (by decide))) e4 (above_none X.F 4), d4⟩
theorem cell_same {h h' : Heap} {c b : Addr} {v : Option Value} (x : h.IsCell b v) (hs : Heap.SameBut c h h') (hb : b ≠ c) : h'.IsCell b v := let ⟨o, e, d⟩ := x; ⟨o, (hs.2 b hb).trans e, d⟩
theorem list_same {h h' : Heap} {c r : Addr} {its : Array Value} {v : Option Value} (x : h.IsList r its) (hc : h.IsCell c v) (hs : ∀ b o, b ≠ c → h.get? b = some o → h'.get? b = some o) : h'.IsList r its := by
  obtain ⟨o, e, hcl, n, hd⟩ := x
  refine ⟨o, hs r o (fun q => ?_) e, hcl, n, hd⟩
  obtain ⟨o', e', hd'⟩ := hc
  rw [q, e'] at e
  cases e
  rw [hd] at hd'
  cases hd'
section
variable {M : Model} {A : Around} {E : Value → Shared → Prop} {s : Shared} {name : Str} {scope : Scope} {L : Nat} {a : Addr} {cd : Value} {h₀ : Heap} {vw vg v : Value} {vr vp : Option Value} {Q : Unit → Shared → Prop}
theorem Fit.stRow (X : Fit h₀ L s.heap vw vg vr vp)
    (h : ∀ h', Fit h₀ L h' vw vg (some v) vp → (∀ b o, b ≠ L + 3 → s.heap.get? b = some o → h'.get? b = some o) → Q () { s with heap := h' })
    (hk : (envOfC name scope L a cd).scope.kind = .function := by rfl) (hl : (envOfC name scope L a cd).kindOf "row" = some .cell := by rfl) (hc : (envOfC name scope L a cd).cells.lookup ("row" : Str) = some (L + 3) := by rfl) :
    wpAny M A (storeName (envOfC name scope L a cd) "row" v) Q E s :=
  wpAny_storeName_cell hk hl hc X.r fun h' hv hs => h h'
    ⟨⟨X.F.ns.sameBut hs (by simp), fun b o e => (hs.2 b (fun q => by rw [q, above_none X.F 3] at e; cases e)).trans (X.F.keep b o e), X.F.above⟩,
      cell_same X.w hs (by simp), cell_same X.g hs (by simp), hv, cell_same X.p hs (by simp)⟩ fun b o hb e => (hs.2 b hb).trans e
theorem Fit.stPlace (X : Fit h₀ L s.heap vw vg vr vp)
    (h : ∀ h', Fit h₀ L h' vw vg vr (some v) → (∀ b o, b ≠ L + 4 → s.heap.get? b = some o → h'.get? b = some o) → Q () { s with heap := h' })
    (hk : (envOfC name scope L a cd).scope.kind = .function := by rfl) (hl : (envOfC name scope L a cd).kindOf "place" = some .cell := by rfl) (hc : (envOfC name scope L a cd).cells.lookup ("place" : Str) = some (L + 4) := by rfl) :
    wpAny M A (storeName (envOfC name scope L a cd) "place" v) Q E s :=
  wpAny_storeName_cell hk hl hc X.p fun h' hv hs => h h'
    ⟨⟨X.F.ns.sameBut hs (by simp), fun b o e => (hs.2 b (fun q => by rw [q, above_none X.F 4] at e; cases e)).trans (X.F.keep b o e), X.F.above⟩,
      cell_same X.w hs (by simp), cell_same X.g hs (by simp), cell_same X.r hs (by simp), hv⟩ fun b o hb e => (hs.2 b hb).trans e
end
def bools (bs : List Bool) : List Value := bs.map Value.bool

theorem rep_flat (n : Nat) : (List.replicate ((n : Int)).toNat (#[Value.bool false] : Array Value).toList).flatten = bools (List.replicate n false) := by
  rw [Int.toNat_natCast]
  induction n with
  | zero => rfl
  | succ n ih => rw [List.replicate_succ, List.flatten_cons, ih]; rfl
theorem rep_len (n : Nat) : (List.replicate ((n : Int)).toNat (#[Value.bool false] : Array Value).toList).flatten.length = n := by
  rw [rep_flat]; simp [bools]
set_option maxHeartbeats 4000000 in
theorem fits_start {w : World} {A : Around} {s : Shared} {mg : Str → Option Value} {Q : Value → Shared → Prop} {f : Addr} {L : Nat} {cd : Value} {want got : Str} {d : DefItem} {h₁ : Heap} {tk₁ : Nat}
    {t u : Tok} {st0 st1 : Stmt} {rest : List Stmt}
    (hd : d = fnNo 18) (hb : d.body = st0 :: st1 :: rest) (T : Wd w mg s.heap) (hg : got.length ≤ 1000)
    (X : Fit s.heap L h₁ (.str want t) (.str got u) none none)
    (h : ∀ h₂ tk₂ r z, Fit s.heap L h₂ (.str want t) (.str got u) (some (.ref r)) (some (.int 0 z)) → h₂.IsList r (bools (true :: List.replicate got.length false)).toArray →
      wpAny (model Pg w) (A.deeper (envOfC d.name d.scope L f cd)) (execs rest (envOfC d.name d.scope L f cd)) (Back s.heap Q) (fun _ _ => False) { s with heap := h₂, toks := tk₂ }) :
    wpAny (model Pg w) (A.deeper (envOfC d.name d.scope L f cd)) (execs (st0 :: st1 :: rest) (envOfC d.name d.scope L f cd)) (Back s.heap Q) (fun _ _ => False) { s with heap := h₁, toks := tk₁ } := by
  conv at hd => rhs; whnf
  subst hd
  dsimp only at hb h ⊢
  injection hb with e1 hb
  injection hb with e2 hb
  subst e1 e2
  clear hb
  obtain ⟨al, ow, og, or, op, N, W, hmw, how, hmg, hog, hmr, hor, hmp, hop⟩ := X.open
  have F := X.F
  repeat' (first | ((with_reducible show wpAny _ _ (eval (Expr.Name (Str.ofString "range") _) _) _ _ _); refine nmC_builtin (v := .type "range") (by assumption) (by assumption) (by decide +kernel) (by rfl) ?_) | ((with_reducible show wpAny _ _ (eval (Expr.Name (Str.ofString "want") _) _) _ _ _); refine ldCN (by assumption) rfl (by first | exact hmw | exact .tail _ hmw | exact .tail _ (.tail _ hmw) | exact .tail _ (.tail _ (.tail _ hmw)) | exact .tail _ (.tail _ (.tail _ (.tail _ hmw)))) how ?_) | ((with_reducible show wpAny _ _ (eval (Expr.Name (Str.ofString "got") _) _) _ _ _); refine ldCN (by assumption) rfl (by first | exact hmg | exact .tail _ hmg | exact .tail _ (.tail _ hmg) | exact .tail _ (.tail _ (.tail _ hmg)) | exact .tail _ (.tail _ (.tail _ (.tail _ hmg)))) hog ?_) | ((with_reducible show wpAny _ _ (eval (Expr.Name (Str.ofString "row") _) _) _ _ _); refine ldCN (by assumption) rfl (by first | exact hmr | exact .tail _ hmr | exact .tail _ (.tail _ hmr) | exact .tail _ (.tail _ (.tail _ hmr)) | exact .tail _ (.tail _ (.tail _ (.tail _ hmr)))) hor ?_) | ((with_reducible show wpAny _ _ (eval (Expr.Name (Str.ofString "place") _) _) _ _ _); refine ldCN (by assumption) rfl (by first | exact hmp | exact .tail _ hmp | exact .tail _ (.tail _ hmp) | exact .tail _ (.tail _ (.tail _ hmp)) | exact .tail _ (.tail _ (.tail _ (.tail _ hmp)))) hop ?_) | walk1)
  rename_i h₂ F₂ N₂ _ hl₂ _
  have hl₁ := News.isList N₂ (.tail _ (.head _))
  refine add_k (vs := [.bool true]) (by exact hl₁) (by exact hl₂) (by rw [rep_len]; unfold sizeLine; simp only [List.length_cons, List.length_nil]; omega) ?_
  intro D h₃ hD hk₃ hg₃
  have F₃ := frKept F₂ hk₃
  have N₃ := newsKept N₂ hk₃
  have X₃ := X.keeps F₃ (W.keeps F F₃ N₃ (fun p hp => .tail _ (.tail _ hp)))
  have hl₃ : h₃.IsList D (bools (true :: List.replicate got.length false)).toArray := ⟨_, hg₃, rfl, 0, by rw [rep_flat]; rfl⟩
  refine Fit.stRow (by exact X₃) ?_
  intro h₄ X₄ k₄
  iterate 3 walk1
  refine Fit.stPlace (by exact X₄) ?_
  intro h₅ X₅ k₅
  exact h _ _ _ _ X₅ (list_same (list_same hl₃ X₃.r k₄) X₄.p k₅)
end

section

def dotsRow (r : List Bool) : List Bool := (List.range r.length).map fun j => (r.take (j + 1)).contains true
def signRow (g : List Nat) (c : Nat) (r : List Bool) : List Bool := false :: (List.range g.length).map fun j => r.getD j false && (g.getD j 0 == c)
def FitNext (s : Shared) (L : Nat) (vw vg : Value) (P : Int → List Bool → Prop) (fl : Flow) (s' : Shared) : Prop :=
  fl = .next ∧ ∃ h₂ tk₂ r₂ z₂ p₂ bs₂, s' = { s with heap := h₂, toks := tk₂ } ∧ Fit s.heap L h₂ vw vg (some (.ref r₂)) (some (.int p₂ z₂)) ∧ h₂.IsList r₂ (bools bs₂).toArray ∧ P p₂ bs₂

theorem bools_len (bs : List Bool) : (bools bs).length = bs.length := by simp [bools]
theorem range_k {w : World} {A : Around} {E : Value → Shared → Prop} {s : Shared} {n : Int} {t : Tok} {Q : Value → Shared → Prop}
    (h : ∀ r h' tk, s.heap.get? r = none → Keeps s.heap h' → IsRange h' r 0 n 1 s.toks t (s.toks + 1) → Q (.ref r) { s with heap := h', toks := tk }) : wpAny (model Pg w) A (call (.type "range") [.int n t]) Q E s :=
  call_range_1 (h _ _ _ (fresh_top _) (fun _ _ e => Heap.get?_push_of_some _ e) (IsRange.new ..))
theorem Fit.mono {h₀ : Heap} {L : Nat} {h h' : Heap} {vw vg : Value} {vr vp : Option Value} (X : Fit h₀ L h vw vg vr vp) (K : Keeps h h') : Fit h₀ L h' vw vg vr vp := X.keeps (frKept X.F K) fun b o _ e => K b o e
def isTrueV : Value → Bool
  | .bool b => b == true
  | _ => false
theorem any_bools : ∀ bs : List Bool, (bools bs).any isTrueV = bs.contains true
  | [] => rfl
  | b :: r => by
    have ih := any_bools r
    unfold bools at ih ⊢
    rw [List.map_cons, List.any_cons, List.contains_cons, ih]
    cases b <;> rfl
theorem in_bools {w : World} {A : Around} {E : Value → Shared → Prop} {s : Shared} {l : Addr} {bs : List Bool} {Q : Value → Shared → Prop} (hl : s.heap.IsList l (bools bs).toArray) (h : Q (.bool (bs.contains true)) s) :
    wpAny (model Pg w) A (compareOp .In (.bool true) (.ref l)) Q E s := by
  refine SeqAt.in_listAt isTrueV hl (fun y hy => ?_) ?_
  · obtain ⟨b, _, rfl⟩ := List.mem_map.mp (show y ∈ bools bs by simpa using hy)
    exact SeqAt.EqAt.bool_bool b true
  · rw [← Array.any_toList]
    show Q (.bool ((bools bs).any isTrueV)) s
    rw [any_bools]; exact h
theorem slice_bools (bs : List Bool) (i : Nat) : slicePick (bools bs).toArray none (some (0 + (i : Int) + 1)) none = (bools (bs.take (i + 1))).toArray := by
  have e := slicePick_upto' (bools bs).toArray (i + 1)
  have e2 : ((i + 1 : Nat) : Int) = 0 + (i : Int) + 1 := by omega
  rw [e2] at e
  rw [e]
  show ((bools bs).take (i + 1)).toArray = _
  unfold bools
  rw [List.map_take]
theorem paired_rows {g : Nat → Bool} {n n' : Nat} {vs ys : List Value} (hlen : vs.length = n) (hvs : ∀ (j : Nat) (v : Value), vs[j]? = some v → j < n' ∧ ∃ t, v = .int (0 + (j : Int)) t) (hR : Paired (fun v y => ∃ (j : Nat) (t : Tok), v = .int j t ∧ y = .bool (g j)) vs ys) :
    ys = bools ((List.range n).map g) := by
  have hl := paired_len hR
  refine getElem?_ext' (by rw [← hl, hlen]; simp [bools]) fun j y hj => ?_
  obtain ⟨v, hv, j', t', e, rfl⟩ := paired_get hR j y hj
  obtain ⟨_, t, rfl⟩ := hvs j v hv
  injection e with e _
  obtain rfl : j = j' := by omega
  have hlt : j < n := by rw [← hlen]; exact (List.getElem?_eq_some_iff.mp hv).1
  unfold bools
  simp [hlt]
local macro_rules | `(tactic| walk_at "subscriptTail Name Slice ref ref") => `(tactic| (refine slice_k (by assumption) (by first | exact .none | exact .int _ _) (by first | exact .none | exact .int _ _) (by rw [List.size_toArray, bools_len]; unfold sizeLine; omega) ?_; intro D' h' hD' hk' hg'; (have K' := Keeps.trans (by assumption) hk')))
theorem item_beq (x y : Str) (i j : Nat) (hi : i < x.length) (hj : j < y.length) : ((toL x).getD i 0 == (toL y).getD j 0) = (Txt.item x i == Txt.item y j) := by
  have key : ∀ (x : Str) (i : Nat), i < x.length → Txt.item x i = ⟨#[(toL x).getD i 0]⟩ := by
    intro x i hi
    unfold Txt.item Txt.charAt
    rw [seqIndex_at (by omega) (by omega)]
    have hi' : i < x.cps.size := hi
    show (⟨#[(x.cps[((i : Nat) : Int).toNat]?).getD 0]⟩ : Str) = _
    rw [Int.toNat_natCast]
    unfold toL
    rw [List.getD_eq_getElem?_getD]
    simp
  rw [key x i hi, key y j hj]
  generalize (toL x).getD i 0 = a
  generalize (toL y).getD j 0 = b
  by_cases h : a = b
  · subst h; rw [beq_self_eq_true, beq_self_eq_true]
  · rw [beq_eq_false_iff_ne.mpr h]
    symm
    rw [beq_eq_false_iff_ne]
    intro e
    injection e with e
    simp at e
    exact h e
local macro_rules | `(tactic| walk_at "call type:range") => `(tactic| (refine range_k ?_; intro _ _ _ _ _ _))
set_option maxHeartbeats 4000000 in
theorem fits_turn {w : World} {A : Around} {s : Shared} {mg : Str → Option Value} {f : Addr} {L : Nat} {cd : Value} {want got : Str} {d : DefItem} {h₁ : Heap} {tk₁ : Nat}
    {t u z : Tok} {test : PySem.Expr} {body orelse : List Stmt} {pos : Pos} {st3 : Stmt} {r : Addr} {p : Int} {bs : List Bool}
    (hd : d = fnNo 18) (hb : d.body.drop 2 = [.While test body orelse pos, st3]) (T : Wd w mg s.heap) (hw : want.length ≤ 1000) (hg : got.length ≤ 1000) (hh' : (A.deeper (envOfC d.name d.scope L f cd)).handled = none)
    (X : Fit s.heap L h₁ (.str want t) (.str got u) (some (.ref r)) (some (.int p z))) (hr : h₁.IsList r (bools bs).toArray) (hbl : bs.length = got.length + 1) (hp0 : 0 ≤ p) (hp1 : p < want.length) :
    wpAny (model Pg w) (A.deeper (envOfC d.name d.scope L f cd)) (execs body (envOfC d.name d.scope L f cd))
      (FitNext s L (.str want t) (.str got u) fun p₂ bs₂ => if Txt.slice want (some p) (some (p + 3)) = "..." then p₂ = p + 3 ∧ bs₂ = dotsRow bs else p₂ = p + 1 ∧ bs₂ = signRow (toL got) ((toL want).getD p.toNat 0) bs)
      (fun _ _ => False) { s with heap := h₁, toks := tk₁ } := by
  conv at hd => rhs; whnf
  subst hd
  dsimp only [List.drop] at hb hh' ⊢
  injection hb with e1 hb
  injection e1 with f1 f2 f3 f4
  subst f1 f2 f3
  clear hb
  obtain ⟨al, ow, og, or, op, N, W, hmw, how, hmg, hog, hmr, hor, hmp, hop⟩ := X.open
  have F := X.F
  iterate 30 (try (first | ((with_reducible show wpAny _ _ (eval (Expr.Name (Str.ofString "want") _) _) _ _ _); refine ldCN (by assumption) rfl (by first | exact hmw | exact .tail _ hmw | exact .tail _ (.tail _ hmw) | exact .tail _ (.tail _ (.tail _ hmw)) | exact .tail _ (.tail _ (.tail _ (.tail _ hmw)))) how ?_) | ((with_reducible show wpAny _ _ (eval (Expr.Name (Str.ofString "got") _) _) _ _ _); refine ldCN (by assumption) rfl (by first | exact hmg | exact .tail _ hmg | exact .tail _ (.tail _ hmg) | exact .tail _ (.tail _ (.tail _ hmg)) | exact .tail _ (.tail _ (.tail _ (.tail _ hmg)))) hog ?_) | ((with_reducible show wpAny _ _ (eval (Expr.Name (Str.ofString "row") _) _) _ _ _); refine ldCN (by assumption) rfl (by first | exact hmr | exact .tail _ hmr | exact .tail _ (.tail _ hmr) | exact .tail _ (.tail _ (.tail _ hmr)) | exact .tail _ (.tail _ (.tail _ (.tail _ hmr)))) hor ?_) | ((with_reducible show wpAny _ _ (eval (Expr.Name (Str.ofString "place") _) _) _ _ _); refine ldCN (by assumption) rfl (by first | exact hmp | exact .tail _ hmp | exact .tail _ (.tail _ hmp) | exact .tail _ (.tail _ (.tail _ hmp)) | exact .tail _ (.tail _ (.tail _ (.tail _ hmp)))) hop ?_) | walk1))
  · rename_i h₂ _ _ F₂ N₂ _ hsl
    have hcond : Txt.slice want (some p) (some (p + 3)) = "..." := beq_iff_eq.mp hsl
    have K₂ := W.keeps X.F F₂ N₂ (fun p hp => hp)
    have hr₂ := K₂.list X.F.ns hr
    have X₂ := X.keeps F₂ K₂
    refine comp_rule (cl := [("row", L + 3)]) (fun _ => true) (fun v y => ∃ (j : Nat) (t : Tok), v = .int j t ∧ y = .bool ((bs.take (j + 1)).contains true)) rfl ?_
    repeat' (first | ((with_reducible show wpAny _ _ (eval (Expr.Name (Str.ofString "range") _) _) _ _ _); refine nmC_builtin (v := .type "range") (by assumption) (by assumption) (by decide +kernel) (by rfl) ?_) | ((with_reducible show wpAny _ _ (eval (Expr.Name (Str.ofString "want") _) _) _ _ _); refine ldCN (by assumption) rfl (by first | exact hmw | exact .tail _ hmw | exact .tail _ (.tail _ hmw) | exact .tail _ (.tail _ (.tail _ hmw)) | exact .tail _ (.tail _ (.tail _ (.tail _ hmw)))) how ?_) | ((with_reducible show wpAny _ _ (eval (Expr.Name (Str.ofString "got") _) _) _ _ _); refine ldCN (by assumption) rfl (by first | exact hmg | exact .tail _ hmg | exact .tail _ (.tail _ hmg) | exact .tail _ (.tail _ (.tail _ hmg)) | exact .tail _ (.tail _ (.tail _ (.tail _ hmg)))) hog ?_) | ((with_reducible show wpAny _ _ (eval (Expr.Name (Str.ofString "row") _) _) _ _ _); refine ldCN (by assumption) rfl (by first | exact hmr | exact .tail _ hmr | exact .tail _ (.tail _ hmr) | exact .tail _ (.tail _ (.tail _ hmr)) | exact .tail _ (.tail _ (.tail _ (.tail _ hmr)))) hor ?_) | ((with_reducible show wpAny _ _ (eval (Expr.Name (Str.ofString "place") _) _) _ _ _); refine ldCN (by assumption) rfl (by first | exact hmp | exact .tail _ hmp | exact .tail _ (.tail _ hmp) | exact .tail _ (.tail _ (.tail _ hmp)) | exact .tail _ (.tail _ (.tail _ (.tail _ hmp)))) hop ?_) | walk1)
    refine len_list (by exact hr₂) (by rw [List.size_toArray, bools_len]; omega) ?_
    walk1
    refine range_k ?_
    intro r₃ h₃ tk₃ _ K₃ hR
    rw [List.size_toArray, bools_len] at hR
    refine ⟨_, _, Src.range hh' hR (small_one (by omega) (by omega) (by omega) (by omega)) (rangeSize_nat _ _), ?_, Turn.noTests ?_, ?_⟩
    · unfold sizeLine; omega
    · intro C i v s₃ m E' hC hP hn hm hk
      have K : Keeps s₃.heap s₃.heap := Keeps.refl _
      obtain ⟨hi, tj, rfl⟩ := hP
      have hcr : s₃.heap.IsCell (L + 3) (some (.ref r)) := X₂.r.keeps (Keeps.trans K₃ hk)
      have hr₃ : s₃.heap.IsList r (bools bs).toArray := hr₂.at fun o e => hk _ o (K₃ _ o e)
      repeat' walk1
      rename_i D₄ h₄ _ _ hg₄ K₄
      rw [slice_bools] at hg₄
      refine in_bools ⟨_, hg₄, rfl, _, rfl⟩ ?_
      exact ElEnd.mk K₄ ⟨i, tj, by rw [Int.zero_add], rfl⟩
    · intro D h₄ tk₄ c ys₄ vs hD hDl hlen hvs hRR hk
      rw [filter_tt] at hRR
      have hys := paired_rows (n := bs.length) (by rw [hlen]; omega) hvs hRR
      have X₄ := X₂.mono (Keeps.trans K₃ hk)
      refine Fit.stRow (by exact X₄) ?_
      intro h₅ X₅ k₅
      have hl₅ : h₅.IsList D (bools (dotsRow bs)).toArray := list_same ⟨_, hDl, rfl, c, by rw [← Array.toArray_toList (xs := ys₄), hys]; rfl⟩ X₄.r k₅
      obtain ⟨al, ow, og, or, op, N, W, hmw, how, hmg, hog, hmr, hor, hmp, hop⟩ := X₅.open
      have F := X₅.F
      iterate 6 (first | ((with_reducible show wpAny _ _ (eval (Expr.Name (Str.ofString "want") _) _) _ _ _); refine ldCN (by assumption) rfl (by first | exact hmw | exact .tail _ hmw | exact .tail _ (.tail _ hmw) | exact .tail _ (.tail _ (.tail _ hmw)) | exact .tail _ (.tail _ (.tail _ (.tail _ hmw)))) how ?_) | ((with_reducible show wpAny _ _ (eval (Expr.Name (Str.ofString "got") _) _) _ _ _); refine ldCN (by assumption) rfl (by first | exact hmg | exact .tail _ hmg | exact .tail _ (.tail _ hmg) | exact .tail _ (.tail _ (.tail _ hmg)) | exact .tail _ (.tail _ (.tail _ (.tail _ hmg)))) hog ?_) | ((with_reducible show wpAny _ _ (eval (Expr.Name (Str.ofString "row") _) _) _ _ _); refine ldCN (by assumption) rfl (by first | exact hmr | exact .tail _ hmr | exact .tail _ (.tail _ hmr) | exact .tail _ (.tail _ (.tail _ hmr)) | exact .tail _ (.tail _ (.tail _ (.tail _ hmr)))) hor ?_) | ((with_reducible show wpAny _ _ (eval (Expr.Name (Str.ofString "place") _) _) _ _ _); refine ldCN (by assumption) rfl (by first | exact hmp | exact .tail _ hmp | exact .tail _ (.tail _ hmp) | exact .tail _ (.tail _ (.tail _ hmp)) | exact .tail _ (.tail _ (.tail _ (.tail _ hmp)))) hop ?_) | walk1)
      refine Fit.stPlace (by exact X₅) ?_
      intro h₆ X₆ k₆
      repeat' walk1
      exact ⟨rfl, _, _, _, _, _, _, rfl, X₆, list_same hl₅ X₅.p k₆, (if_pos hcond).mpr ⟨rfl, rfl⟩⟩
  · rename_i h₂ _ _ F₂ N₂ _ hsl
    have hcond : ¬ Txt.slice want (some p) (some (p + 3)) = "..." := fun e => by rw [e] at hsl; revert hsl; decide +kernel
    have K₂ := W.keeps X.F F₂ N₂ (fun p hp => hp)
    have hr₂ := K₂.list X.F.ns hr
    have X₂ := X.keeps F₂ K₂
    iterate 8 (first | ((with_reducible show wpAny _ _ (eval (Expr.Name (Str.ofString "want") _) _) _ _ _); refine ldCN (by assumption) rfl (by first | exact hmw | exact .tail _ hmw | exact .tail _ (.tail _ hmw) | exact .tail _ (.tail _ (.tail _ hmw)) | exact .tail _ (.tail _ (.tail _ (.tail _ hmw)))) how ?_) | ((with_reducible show wpAny _ _ (eval (Expr.Name (Str.ofString "got") _) _) _ _ _); refine ldCN (by assumption) rfl (by first | exact hmg | exact .tail _ hmg | exact .tail _ (.tail _ hmg) | exact .tail _ (.tail _ (.tail _ hmg)) | exact .tail _ (.tail _ (.tail _ (.tail _ hmg)))) hog ?_) | ((with_reducible show wpAny _ _ (eval (Expr.Name (Str.ofString "row") _) _) _ _ _); refine ldCN (by assumption) rfl (by first | exact hmr | exact .tail _ hmr | exact .tail _ (.tail _ hmr) | exact .tail _ (.tail _ (.tail _ hmr)) | exact .tail _ (.tail _ (.tail _ (.tail _ hmr)))) hor ?_) | ((with_reducible show wpAny _ _ (eval (Expr.Name (Str.ofString "place") _) _) _ _ _); refine ldCN (by assumption) rfl (by first | exact hmp | exact .tail _ hmp | exact .tail _ (.tail _ hmp) | exact .tail _ (.tail _ (.tail _ hmp)) | exact .tail _ (.tail _ (.tail _ (.tail _ hmp)))) hop ?_) | walk1)
    rename_i h₃ F₃ N₃
    have K₃ := W.keeps X.F F₃ N₃ (fun p hp => .tail _ hp)
    have hr₃ := K₃.list X.F.ns hr
    have X₃ := X.keeps F₃ K₃
    have hlf := News.isList N₃ (.head _)
    refine comp_rule (cl := [("want", L + 1), ("row", L + 3), ("place", L + 4), ("got", L + 2)]) (fun _ => true) (fun v y => ∃ (j : Nat) (t : Tok), v = .int j t ∧ y = .bool (bs.getD j false && ((toL got).getD j 0 == (toL want).getD p.toNat 0))) rfl ?_
    repeat' (first | ((with_reducible show wpAny _ _ (eval (Expr.Name (Str.ofString "range") _) _) _ _ _); refine nmC_builtin (v := .type "range") (by assumption) (by assumption) (by decide +kernel) (by rfl) ?_) | ((with_reducible show wpAny _ _ (eval (Expr.Name (Str.ofString "want") _) _) _ _ _); refine ldCN (by assumption) rfl (by first | exact hmw | exact .tail _ hmw | exact .tail _ (.tail _ hmw) | exact .tail _ (.tail _ (.tail _ hmw)) | exact .tail _ (.tail _ (.tail _ (.tail _ hmw)))) how ?_) | ((with_reducible show wpAny _ _ (eval (Expr.Name (Str.ofString "got") _) _) _ _ _); refine ldCN (by assumption) rfl (by first | exact hmg | exact .tail _ hmg | exact .tail _ (.tail _ hmg) | exact .tail _ (.tail _ (.tail _ hmg)) | exact .tail _ (.tail _ (.tail _ (.tail _ hmg)))) hog ?_) | ((with_reducible show wpAny _ _ (eval (Expr.Name (Str.ofString "row") _) _) _ _ _); refine ldCN (by assumption) rfl (by first | exact hmr | exact .tail _ hmr | exact .tail _ (.tail _ hmr) | exact .tail _ (.tail _ (.tail _ hmr)) | exact .tail _ (.tail _ (.tail _ (.tail _ hmr)))) hor ?_) | ((with_reducible show wpAny _ _ (eval (Expr.Name (Str.ofString "place") _) _) _ _ _); refine ldCN (by assumption) rfl (by first | exact hmp | exact .tail _ hmp | exact .tail _ (.tail _ hmp) | exact .tail _ (.tail _ (.tail _ hmp)) | exact .tail _ (.tail _ (.tail _ (.tail _ hmp)))) hop ?_) | walk1)
    rename_i r₄ h₄ tk₄ _ K₄ hR
    refine ⟨_, _, Src.range hh' hR (small_one (by omega) (by omega) (by omega) (by omega)) (rangeSize_nat _ _), ?_, Turn.noTests ?_, ?_⟩
    · unfold sizeLine; omega
    · intro C i v s₅ m E' hC hP hn hm hk
      have K : Keeps s₅.heap s₅.heap := Keeps.refl _
      obtain ⟨hi, tj, rfl⟩ := hP
      have hcr : s₅.heap.IsCell (L + 3) (some (.ref r)) := X₃.r.keeps (Keeps.trans K₄ hk)
      have hcw : s₅.heap.IsCell (L + 1) (some (.str want t)) := X₃.w.keeps (Keeps.trans K₄ hk)
      have hcg : s₅.heap.IsCell (L + 2) (some (.str got u)) := X₃.g.keeps (Keeps.trans K₄ hk)
      have hcp : s₅.heap.IsCell (L + 4) (some (.int p z)) := X₃.p.keeps (Keeps.trans K₄ hk)
      have hr₅ : s₅.heap.IsList r (bools bs).toArray := hr₃.at fun o e => hk _ o (K₄ _ o e)
      have hil : i < got.length := by omega
      have hx : (bools bs).toArray[(0 + (i : Int)).toNat]? = some (.bool (bs.getD i false)) := by
        have e : (0 + (i : Int)).toNat = i := by omega
        rw [e, List.getElem?_toArray]
        unfold bools
        rw [List.getElem?_map, List.getElem?_eq_getElem (by omega), List.getD_eq_getElem?_getD, List.getElem?_eq_getElem (by omega)]
        rfl
      iterate 4 walk1
      refine item_any hr₅ (by omega) (by omega) hx ?_
      repeat' walk1
      · rename_i hb _ _
        refine ElEnd.mk K ⟨i, tj, by rw [Int.zero_add], ?_⟩
        rw [hb, Bool.true_and, item_beq got want i p.toNat hil (by omega)]
        congr 2
        · rw [Int.zero_add]
        · rw [Int.toNat_of_nonneg hp0]
      · rename_i hb
        refine ElEnd.mk K ⟨i, tj, by rw [Int.zero_add], ?_⟩
        rw [hb, Bool.false_and]
    · intro D h₅ tk₅ c ys₅ vs hD hDl hlen hvs hRR hk
      rw [filter_tt] at hRR
      have hys := paired_rows (n := got.length) (by rw [hlen]; omega) hvs hRR
      have X₅ := X₃.mono (Keeps.trans K₄ hk)
      have hlf₅ := hlf.at fun o e => hk _ o (K₄ _ o e)
      refine add_k (vs := [.bool false]) (ws := ys₅.toList) (by exact hlf₅) ⟨_, hDl, rfl, c, rfl⟩ (by rw [hys, bools_len]; unfold sizeLine; simp only [List.length_cons, List.length_nil, List.length_map, List.length_range]; omega) ?_
      intro D₆ h₆ hD₆ hk₆ hg₆
      have X₆ := X₅.mono hk₆
      refine Fit.stRow (by exact X₆) ?_
      intro h₇ X₇ k₇
      have hl₇ : h₇.IsList D₆ (bools (signRow (toL got) ((toL want).getD p.toNat 0) bs)).toArray := list_same ⟨_, hg₆, rfl, _, by rw [hys]; unfold signRow; rw [length_toL]; rfl⟩ X₆.r k₇
      obtain ⟨al, ow, og, or, op, N, W, hmw, how, hmg, hog, hmr, hor, hmp, hop⟩ := X₇.open
      have F := X₇.F
      iterate 6 (first | ((with_reducible show wpAny _ _ (eval (Expr.Name (Str.ofString "want") _) _) _ _ _); refine ldCN (by assumption) rfl (by first | exact hmw | exact .tail _ hmw | exact .tail _ (.tail _ hmw) | exact .tail _ (.tail _ (.tail _ hmw)) | exact .tail _ (.tail _ (.tail _ (.tail _ hmw)))) how ?_) | ((with_reducible show wpAny _ _ (eval (Expr.Name (Str.ofString "got") _) _) _ _ _); refine ldCN (by assumption) rfl (by first | exact hmg | exact .tail _ hmg | exact .tail _ (.tail _ hmg) | exact .tail _ (.tail _ (.tail _ hmg)) | exact .tail _ (.tail _ (.tail _ (.tail _ hmg)))) hog ?_) | ((with_reducible show wpAny _ _ (eval (Expr.Name (Str.ofString "row") _) _) _ _ _); refine ldCN (by assumption) rfl (by first | exact hmr | exact .tail _ hmr | exact .tail _ (.tail _ hmr) | exact .tail _ (.tail _ (.tail _ hmr)) | exact .tail _ (.tail _ (.tail _ (.tail _ hmr)))) hor ?_) | ((with_reducible show wpAny _ _ (eval (Expr.Name (Str.ofString "place") _) _) _ _ _); refine ldCN (by assumption) rfl (by first | exact hmp | exact .tail _ hmp | exact .tail _ (.tail _ hmp) | exact .tail _ (.tail _ (.tail _ hmp)) | exact .tail _ (.tail _ (.tail _ (.tail _ hmp)))) hop ?_) | walk1)
      refine Fit.stPlace (by exact X₇) ?_
      intro h₈ X₈ k₈
      repeat' walk1
      exact ⟨rfl, _, _, _, _, _, _, rfl, X₈, list_same hl₇ X₇.p k₈, (if_neg hcond).mpr ⟨rfl, rfl⟩⟩
end

section

def fitsL (g : List Nat) : List Nat → List Bool → List Bool
  | [], r => r
  | c :: w, r => if (c :: w).take 3 = [46, 46, 46] then fitsL g (w.drop 2) (dotsRow r) else fitsL g w (signRow g c r)
termination_by l => l.length
decreasing_by
  · simp; omega
  · simp
open PySem.Builtin PySem.Builtin.Str in
theorem slice_over {x : Str} {i j : Int} (h : (x.length : Int) ≤ j) : Txt.slice x (some i) (some j) = Txt.slice x (some i) (some (x.length : Int)) := by
  show StrLaws.sliceText x (some i) (some j) = StrLaws.sliceText x (some i) (some (x.length : Int))
  unfold StrLaws.sliceText
  have a1 : ¬ j < 0 := by omega
  have a2 : ¬ ((x.length : Int) < 0) := by omega
  have e1 : max (0 : Int) (min j (x.length : Int)) = x.length := by omega
  have e2 : max (0 : Int) (min (x.length : Int) (x.length : Int)) = x.length := by omega
  have e : strSliceIndices (some i) (some j) 1 x.length = strSliceIndices (some i) (some (x.length : Int)) 1 x.length := by
    simp [strSliceIndices, a1, a2, e1, e2]
  rw [e]
theorem slice_take (x : Str) (p : Int) (h0 : 0 ≤ p) (h1 : p < x.length) : Txt.slice x (some p) (some (p + 3)) = ofL (((toL x).drop p.toNat).take 3) := by
  have hl : (x.cps.toList.length : Int) = x.length := by rw [Array.length_toList]; rfl
  by_cases h : p + 3 ≤ x.length
  · have e := beq_iff_eq.mp (slice_closes (x := x) (i := p) (j := p + 3) ⟨h0, by omega, by omega⟩)
    rw [e]
    have e3 : (p + 3 - p).toNat = 3 := by omega
    rw [e3]; rfl
  · rw [slice_over (by omega)]
    have e := beq_iff_eq.mp (slice_closes (x := x) (i := p) (j := x.length) ⟨h0, by omega, by omega⟩)
    rw [e]
    show ofL _ = ofL _
    congr 1
    have hd : ((toL x).drop p.toNat).length = (x.length - p).toNat := by rw [List.length_drop, length_toL]; omega
    show ((toL x).drop p.toNat).take _ = _
    rw [List.take_of_length_le (by omega), List.take_of_length_le (by omega)]
theorem slice3 (x : Str) (p : Int) (h0 : 0 ≤ p) (h1 : p < x.length) : (Txt.slice x (some p) (some (p + 3)) = "...") ↔ ((toL x).drop p.toNat).take 3 = [46, 46, 46] := by
  rw [slice_take x p h0 h1]
  constructor
  · intro e
    have := congrArg toL e
    rw [toL_ofL] at this
    exact this
  · intro e
    rw [e]
    rfl
theorem dots_len (r : List Bool) : (dotsRow r).length = r.length := by simp [dotsRow]
theorem sign_len (g : List Nat) (c : Nat) (r : List Bool) : (signRow g c r).length = g.length + 1 := by simp [signRow]
set_option maxHeartbeats 4000000 in
theorem fits_loop {w : World} {A : Around} {s : Shared} {mg : Str → Option Value} {Q : Value → Shared → Prop} {f : Addr} {L : Nat} {cd : Value} {want got : Str} {d : DefItem} {h₁ : Heap} {tk₁ : Nat}
    {t u z : Tok} {test : PySem.Expr} {body : List Stmt} {pos : Pos} {st3 : Stmt} {r : Addr} {bs : List Bool}
    (hd : d = fnNo 18) (hb : d.body.drop 2 = [.While test body [] pos, st3]) (T : Wd w mg s.heap) (hw : want.length ≤ 1000) (hg : got.length ≤ 1000) (hh' : (A.deeper (envOfC d.name d.scope L f cd)).handled = none)
    (X : Fit s.heap L h₁ (.str want t) (.str got u) (some (.ref r)) (some (.int 0 z))) (hr : h₁.IsList r (bools bs).toArray) (hbl : bs.length = got.length + 1)
    (h : ∀ l h' tk, h'.IsList l (bools (fitsL (toL got) (toL want) bs)).toArray → Keeps s.heap h' → Q (.ref l) { s with heap := h', toks := tk }) :
    wpAny (model Pg w) (A.deeper (envOfC d.name d.scope L f cd)) (execs [.While test body [] pos, st3] (envOfC d.name d.scope L f cd)) (Back s.heap Q) (fun _ _ => False) { s with heap := h₁, toks := tk₁ } := by
  have turn := fun (h₂ : Heap) (tk₂ : Nat) (r₂ : Addr) (p₂ : Int) (bs₂ : List Bool) (z₂ : Tok) X hr hbl hp0 hp1 => fits_turn (w := w) (A := A) (s := s) (mg := mg) (f := f) (cd := cd) (want := want) (got := got) (h₁ := h₂) (tk₁ := tk₂) (t := t) (u := u) (z := z₂) (r := r₂) (p := p₂) (bs := bs₂) (L := L) hd hb T hw hg hh' X hr hbl hp0 hp1
  have hd' := hd
  conv at hd => rhs; whnf
  subst hd
  dsimp only [List.drop] at hb hh' turn ⊢
  injection hb with e1 hb
  injection hb with e2 hb
  injection e1 with f1 f2 f3 f4
  subst f1 e2
  walk1
  refine wpAny_While (codeAny_whileLoop (fun n s' => ∃ (h₂ : Heap) (tk₂ : Nat) (r₂ : Addr) (p₂ : Nat) (bs₂ : List Bool) (z₂ : Tok), s' = { s with heap := h₂, toks := tk₂ } ∧ Fit s.heap L h₂ (.str want t) (.str got u) (some (.ref r₂)) (some (.int p₂ z₂)) ∧ h₂.IsList r₂ (bools bs₂).toArray ∧ bs₂.length = got.length + 1 ∧ p₂ ≤ want.length ∧ n = want.length - p₂ ∧ fitsL (toL got) ((toL want).drop p₂) bs₂ = fitsL (toL got) (toL want) bs) ?_ want.length ⟨h₁, _, r, 0, bs, z, rfl, X, hr, hbl, Nat.zero_le _, rfl, by rw [List.drop_zero]⟩)
  rintro n s' ⟨h₂, tk₂, r₂, p₂, bs₂, z₂, rfl, X₂, hr₂, hbl₂, hp₂, rfl, hres⟩
  obtain ⟨al, ow, og, or, op, N, W, hmw, how, hmg, hog, hmr, hor, hmp, hop⟩ := X₂.open
  have F := X₂.F
  repeat' (first | ((with_reducible show wpAny _ _ (eval (Expr.Name (Str.ofString "range") _) _) _ _ _); refine nmC_builtin (v := .type "range") (by assumption) (by assumption) (by decide +kernel) (by rfl) ?_) | ((with_reducible show wpAny _ _ (eval (Expr.Name (Str.ofString "want") _) _) _ _ _); refine ldCN (by assumption) rfl (by first | exact hmw | exact .tail _ hmw | exact .tail _ (.tail _ hmw) | exact .tail _ (.tail _ (.tail _ hmw)) | exact .tail _ (.tail _ (.tail _ (.tail _ hmw)))) how ?_) | ((with_reducible show wpAny _ _ (eval (Expr.Name (Str.ofString "got") _) _) _ _ _); refine ldCN (by assumption) rfl (by first | exact hmg | exact .tail _ hmg | exact .tail _ (.tail _ hmg) | exact .tail _ (.tail _ (.tail _ hmg)) | exact .tail _ (.tail _ (.tail _ (.tail _ hmg)))) hog ?_) | ((with_reducible show wpAny _ _ (eval (Expr.Name (Str.ofString "row") _) _) _ _ _); refine ldCN (by assumption) rfl (by first | exact hmr | exact .tail _ hmr | exact .tail _ (.tail _ hmr) | exact .tail _ (.tail _ (.tail _ hmr)) | exact .tail _ (.tail _ (.tail _ (.tail _ hmr)))) hor ?_) | ((with_reducible show wpAny _ _ (eval (Expr.Name (Str.ofString "place") _) _) _ _ _); refine ldCN (by assumption) rfl (by first | exact hmp | exact .tail _ hmp | exact .tail _ (.tail _ hmp) | exact .tail _ (.tail _ (.tail _ hmp)) | exact .tail _ (.tail _ (.tail _ (.tail _ hmp)))) hop ?_) | walk1)
  · rename_i hlt
    have hlt' : p₂ < want.length := by omega
    refine wpAny_mono (turn _ _ _ _ _ _ X₂ hr₂ hbl₂ (by omega) (by omega)) (fun fl s₃ hq => ?_) fun _ _ x => x.elim
    obtain ⟨rfl, h₃, tk₃, r₃, z₃, p₃, bs₃, rfl, X₃, hr₃, hP⟩ := hq
    have hdr : (toL want).drop p₂ = (toL want).getD p₂ 0 :: (toL want).drop (p₂ + 1) := by
      have hl : p₂ < (toL want).length := by rw [length_toL]; exact hlt'
      rw [List.drop_eq_getElem_cons hl, List.getD_eq_getElem?_getD, List.getElem?_eq_getElem hl]
      rfl
    have hs3 := slice3 want p₂ (by omega) (by omega)
    rw [Int.toNat_natCast] at hs3
    rw [hdr, fitsL] at hres
    by_cases hc : ((toL want).drop p₂).take 3 = [46, 46, 46]
    · rw [if_pos (hs3.mpr hc)] at hP
      obtain ⟨rfl, rfl⟩ := hP
      rw [hdr] at hc
      rw [if_pos hc, List.drop_drop] at hres
      have hlen : p₂ + 3 ≤ want.length := by
        have e := congrArg List.length hc
        rw [← hdr, List.length_take, List.length_drop, length_toL] at e
        simp at e
        omega
      have e3 : (p₂ : Int) + 3 = ((p₂ + 3 : Nat) : Int) := by omega
      rw [e3] at X₃
      exact ⟨want.length - (p₂ + 3), by omega, h₃, tk₃, r₃, p₂ + 3, dotsRow bs₂, z₃, rfl, X₃, hr₃, by rw [dots_len]; exact hbl₂, hlen, rfl, by rw [← hres]⟩
    · rw [if_neg (fun e => hc (hs3.mp e))] at hP
      obtain ⟨rfl, rfl⟩ := hP
      rw [hdr] at hc
      rw [if_neg hc] at hres
      have e3 : (p₂ : Int) + 1 = ((p₂ + 1 : Nat) : Int) := by omega
      rw [e3] at X₃
      rw [Int.toNat_natCast] at hr₃
      exact ⟨want.length - (p₂ + 1), by omega, h₃, tk₃, r₃, p₂ + 1, _, z₃, rfl, X₃, hr₃, by rw [sign_len, length_toL], by omega, rfl, hres⟩
  · rename_i hge
    have e : (toL want).drop p₂ = [] := List.drop_of_length_le (by rw [length_toL]; omega)
    rw [e, fitsL] at hres
    show Back s.heap Q (.ret _) _
    exact Back.ret F (fun hk => h _ _ _ (by rw [← hres]; exact hr₂) hk)

set_option maxHeartbeats 4000000 in
theorem fits_spec {w : World} {A : Around} {E : Value → Shared → Prop} {s : Shared} {mg : Str → Option Value} {Q : Value → Shared → Prop} {f : Addr} {want got : Str} {t u : Tok}
    (T : Wd w mg s.heap) (hf : mg "_law_fits" = some (.ref f)) (hA : Ok 1 A) (hw : want.length ≤ 1000) (hg : got.length ≤ 1000)
    (h : ∀ l h' tk, h'.IsList l (bools (fitsL (toL got) (toL want) (true :: List.replicate got.length false))).toArray → Keeps s.heap h' → Q (.ref l) { s with heap := h', toks := tk }) :
    wpAny (model Pg w) A (call (.ref f) [.str want t, .str got u]) Q E s := by
  obtain ⟨d, hd⟩ : ∃ d, d = fnNo 18 := ⟨_, rfl⟩
  have hfind : itemNamed "_law_fits" = some d := by rw [hd]; rfl
  conv at hd => rhs; whnf
  subst hd
  refine call_itemC (binds := [("want", .str want t), ("got", .str got u)]) T hf hfind hA (fun _ _ _ => by rfl) (fun L => by intro x hx; simp only [List.mem_cons, List.not_mem_nil, or_false] at hx; rcases hx with rfl | rfl <;> first | exact Or.inl rfl | exact Or.inr ⟨rfl, rfl⟩) (by decide) (fun h₁ tk L cd cells hL F N X hA' hh' => ?_)
  clear hfind
  dsimp only at hA' hh' ⊢
  obtain ⟨op, or, og, ow, rfl, hop, hor, hog, how⟩ : ∃ op or og ow, cells = [(L + 4, op), (L + 3, or), (L + 2, og), (L + 1, ow)] ∧ op.data = .cell none ∧ or.data = .cell none ∧ og.data = .cell (some (.str got u)) ∧ ow.data = .cell (some (.str want t)) := by
    cases X with
    | cons a X => cases X with
      | cons b X => cases X with
        | cons c X => cases X with
          | cons d X => cases X; exact ⟨_, _, _, _, rfl, a, b, c, d⟩
  have X₁ : Fit s.heap L h₁ (.str want t) (.str got u) none none := ⟨F, ⟨ow, N.get (by simp), how⟩, ⟨og, N.get (by simp), hog⟩, ⟨or, N.get (by simp), hor⟩, ⟨op, N.get (by simp), hop⟩⟩
  refine fits_start (d := fnNo 18) rfl rfl T hg X₁ ?_
  intro h₂ tk₂ r z X₂ hl₂
  exact fits_loop (d := fnNo 18) rfl rfl T hw hg hh' X₂ hl₂ (by simp) h
end

section

local macro_rules | `(tactic| walk_at "unpackItems ref") => `(tactic| (refine unpackItemsN_ (by assumption) (by assumption) (News.isTup (by assumption) (.head _)) (by assumption) (by rfl) ?_; intro _ _ _))
local macro_rules | `(tactic| walk_at "eval Name") => `(tactic| (refine ld (by assumption) (by ((try dsimp only); (repeat (refine (if_neg (by decide)).trans ?_)); first | with_reducible assumption | exact if_pos rfl)) ?_))

def find4 (x y : Str) (i j : Int) : Int := match Builtin.Str.occurrences x y (fromIndex x.length i) (min (fromIndex x.length j) x.length) 1 with
  | k :: _ => (k : Int)
  | [] => -1
open PySem.Builtin PySem.Builtin.Str in
theorem gives_find4 (x y : Str) (i j : Int) (t u v z : Tok) : Gives («str.find» ⟨[.str x t, .str y u, .int i v, .int j z], []⟩) (.int (find4 x y i j)) := by
  show Gives (match occurrences x y (fromIndex x.length i) (min (fromIndex x.length j) x.length) 1 with | k :: _ => retInt k | [] => (do rule "str.find.not-found"; retInt (-1))) _
  unfold find4
  cases occurrences x y (fromIndex x.length i) (min (fromIndex x.length j) x.length) 1 with
  | nil => exact .rule (.of_eq rfl)
  | cons k _ => exact .of_eq rfl
theorem args_find4 (a b c d : Value) : argsOk "str.find" ⟨[a, b, c, d], []⟩ := by unfold argsOk; kernel_rfl
theorem call_find4 {w : World} {A : Around} {E : Value → Shared → Prop} {s : Shared} {x y : Str} {t u v z : Tok} {i j : Int} {Q : Value → Shared → Prop}
    (hq : Q (.int (find4 x y i j) s.toks) { s with toks := s.toks + 1 }) : wpAny (model Pg w) A (call (.builtin "str.find") [.str x t, .str y u, .int i v, .int j z]) Q E s :=
  call_gives F.slot_str_find (typeIs_str _ _ _) F.entry_str_find (args_find4 _ _ _ _) (gives_find4 x y i j t u v z) hq
local macro_rules | `(tactic| walk_at "call builtin:str.find") => `(tactic| refine call_find4 ?_)

def loopB (g : Str) (e : Int) : List Str → Int → Bool
  | [], _ => true
  | w :: ws, p => if find4 g w p e < 0 then false else loopB g e ws (find4 g w p e + w.length)

set_option maxHeartbeats 8000000 in
theorem match_loop {w : World} {A : Around} {s : Shared} {hp₂ : Heap} {tk₂ : Nat} {mg : Str → Option Value} {Q : Value → Shared → Prop} {f L : Addr} {cd : Value} {got : Str} {d : DefItem} {news : List (Addr × Obj)} {fp : List Addr}
    {tgt iter : PySem.Expr} {body orelse : List Stmt} {pos : Pos} {st1 st2 st3 st4 st5 st6 st7 st8 st9 st11 : Stmt} {vs : List Value} {ws : List Str} {e : Int} {u z : Tok} {b₀ : Bool}
    (hd : d = fnNo 0) (hb : d.body = [st1, st2, st3, st4, st5, st6, st7, st8, st9, .For tgt iter body orelse pos, st11])
    (T : Wd w mg s.heap) (hh' : (A.deeper (envOf d.name d.scope L f cd)).handled = none) (hvs : StrsAre vs ws) (hws : ∀ y ∈ ws, y.length ≤ 1000)
    (h : ∀ b h' tk, b = b₀ → Keeps s.heap h' → Q (.bool b) { s with heap := h', toks := tk }) :
    ∀ (n j : Nat), n + j = ws.length → ∀ (m₁ : Str → Option Value) (p : Int) (t : Tok), m₁ "startpos" = some (.int p t) → m₁ "got" = some (.str got u) → m₁ "endpos" = some (.int e z) → loopB got e (ws.drop j) p = b₀ →
      Unr Pg w (A.deeper (envOf d.name d.scope L f cd)) (fun _ _ => False) s.heap (envOf d.name d.scope L f cd) tgt body
        (fun fl s' => match fl with | .next => wpAny (model Pg w) (A.deeper (envOf d.name d.scope L f cd)) (execs [st11] (envOf d.name d.scope L f cd)) (Back s.heap Q) (fun _ _ => False) s' | fl => Back s.heap Q fl s')
        (fun i v => vs.toArray[i]? = some v) fp { s with heap := hp₂, toks := tk₂ } n j m₁ news := by
  conv at hd => rhs; whnf
  subst hd
  dsimp only at hb hh' ⊢
  injection hb with e1 hb
  injection hb with e2 hb
  injection hb with e3 hb
  injection hb with e4 hb
  injection hb with e5 hb
  injection hb with e6 hb
  injection hb with e7 hb
  injection hb with e8 hb
  injection hb with e9 hb
  injection hb with e10 hb
  injection hb with e11 hb
  injection e10 with f1 f2 f3 f4
  subst e11 f1 f2 f3 f4
  clear e1 e2 e3 e4 e5 e6 e7 e8 e9
  intro n
  induction n with
  | zero =>
    intro j hj m₁ p t hp hg he hres
    refine Unr.zero fun h' tk F' N' => ?_
    replace F' : Fr s.heap L h' m₁ := F'
    replace N' : News s.heap L h' news := N'
    dsimp only
    rw [List.drop_of_length_le (by omega)] at hres
    repeat' walk1
    exact Back.ret (by assumption) (fun hk => h _ _ _ hres hk)
  | succ n ih =>
    intro j hj m₁ p t hp hg he hres
    refine Unr.succ fun v h₁ tk₁ own hv hown F' N' => ?_
    replace F' : Fr s.heap L h₁ m₁ := F'
    replace N' : News s.heap L h₁ (own ++ news) := N'
    obtain ⟨y, t', rfl, hy⟩ : ∃ y t', v = .str y t' ∧ ws[j]? = some y := by
      have key : ∀ {vs : List Value} {ws : List Str}, StrsAre vs ws → ∀ (j : Nat) (v : Value), vs[j]? = some v → ∃ y t', v = .str y t' ∧ ws[j]? = some y := by
        intro vs ws hs
        induction hs with
        | nil => intro j v hv; cases hv
        | cons y t r ih =>
          intro j v hv
          cases j with
          | zero => simp at hv; subst hv; exact ⟨y, t, rfl, rfl⟩
          | succ j => simpa using ih j v (by simpa using hv)
      exact key hvs j v (by simpa using hv)
    have hdr : ws.drop j = y :: ws.drop (j + 1) := by
      obtain ⟨hlt, hget⟩ := List.getElem?_eq_some_iff.mp hy
      rw [List.drop_eq_getElem_cons hlt, hget]
    rw [hdr] at hres
    unfold loopB at hres
    have hyl := hws y (List.mem_of_getElem? hy)
    repeat' walk1
    · rename_i hneg
      rw [if_pos hneg] at hres
      exact Back.ret (by assumption) (fun hk => h _ _ _ hres hk)
    · rename_i hneg _ _ _
      rw [if_neg hneg] at hres
      exact ih (j + 1) (by omega) _ _ _ (if_pos rfl) ((if_neg (by decide)).trans ((if_neg (by decide)).trans ((if_neg (by decide)).trans hg))) ((if_neg (by decide)).trans ((if_neg (by decide)).trans ((if_neg (by decide)).trans he))) hres

open PySem.Builtin.Str in
theorem split_more {x : Str} (h : (occurrences x "..." 0 x.length 1).isEmpty = false) : Txt.split x "..." = partsBetween x (occurrences x "..." 0 x.length (x.length + 1)) 3 ∧ 2 ≤ (Txt.split x "...").length := by
  have h1 : occurrences x "..." 0 x.length 1 ≠ [] := by intro e; rw [e] at h; cases h
  have h2 : ∃ i r, occurrences x "..." 0 x.length (x.length + 1) = i :: r ∧ StrLaws.At x "..." x.length i := by
    rcases StrLaws.occ_head x "..." 1 (Nat.le_refl _) with ⟨e, _⟩ | ⟨i, r, e, hi, _⟩
    · exact absurd e h1
    · rcases StrLaws.occ_head x "..." (x.length + 1) (by omega) with ⟨_, e'⟩ | ⟨i', r', e', hi', _⟩
      · exact absurd hi (e' i)
      · exact ⟨i', r', e', hi'⟩
  obtain ⟨i, r, e, hi⟩ := h2
  have hk : Builtin.Str.strKind (Str.ofString "...") = 1 := by decide +kernel
  have hl : (Str.ofString "...").length = 3 := rfl
  have e1 : Txt.split x "..." = partsBetween x (occurrences x "..." 0 x.length (x.length + 1)) 3 := by
    unfold Txt.split
    rw [if_neg, if_neg, hl]
    · rw [e]; simp
    · rw [hk, hl]
      have h3 := hi.1
      rw [hl] at h3
      have h4 : 1 ≤ Builtin.Str.strKind x := by
        unfold Builtin.Str.strKind
        split
        · decide
        · split <;> decide
      simp only [Bool.or_eq_true, decide_eq_true_eq]
      omega
  refine ⟨e1, ?_⟩
  rw [e1, e]
  unfold partsBetween
  simp
open PySem.Builtin.Str in
theorem parts_small (x : Str) (cuts : List Nat) (k : Nat) : ∀ y ∈ partsBetween x cuts k, y.length ≤ x.length := by
  intro y hy
  unfold partsBetween at hy
  obtain ⟨⟨i, j⟩, _, rfl⟩ := List.mem_map.mp hy
  show (strSub x i j).length ≤ x.length
  unfold strSub
  show (Array.extract _ _ _).size ≤ _
  rw [Array.size_extract]
  show min j x.length - i ≤ _
  omega

theorem StrsAre_len : ∀ {vs : List Value} {ws : List Str}, StrsAre vs ws → vs.length = ws.length
  | _, _, .nil => rfl
  | _, _, .cons _ _ r => by simp [StrsAre_len r]
def tailB (g : Str) (ws : List Str) (p e : Int) : Bool := if p > e then false else loopB g e ws p
def lastB (g : Str) (ws : List Str) (p : Int) : Bool :=
  match ws.getLast? with
  | none => false
  | some y => if y.length = 0 then tailB g ws p g.length else if Txt.endswith g y = true then tailB g ws.dropLast p (g.length - y.length) else false
def firstB (g : Str) : List Str → Bool
  | [] => false
  | y :: ws => if y.length = 0 then lastB g (y :: ws) 0 else if Txt.startswith g y = true then lastB g ws y.length else false
def matchB (x g : Str) : Bool := if (Builtin.Str.occurrences x "..." 0 x.length 1).isEmpty = true then x == g else firstB g (Txt.split x "...")

set_option maxHeartbeats 8000000 in
theorem match_tail {w : World} {A : Around} {s : Shared} {mg : Str → Option Value} {Q : Value → Shared → Prop} {f L : Addr} {cd : Value} {got : Str} {d : DefItem} {news : List (Addr × Obj)} {h₁ : Heap} {tk₁ : Nat} {m₁ : Str → Option Value}
    {vs : List Value} {ws : List Str} {p e : Int} {D : Addr} {t u z : Tok}
    (hd : d = fnNo 0) (T : Wd w mg s.heap) (hh' : (A.deeper (envOf d.name d.scope L f cd)).handled = none) (hvs : StrsAre vs ws) (hws : ∀ y ∈ ws, y.length ≤ 1000)
    (F : Fr s.heap L h₁ m₁) (N : News s.heap L h₁ news) (hD : h₁.IsList D vs.toArray) (hDL : D ≠ L)
    (m1 : m₁ "startpos" = some (.int p t)) (m2 : m₁ "got" = some (.str got u)) (m3 : m₁ "endpos" = some (.int e z)) (m4 : m₁ "ws" = some (.ref D))
    (h : ∀ b h' tk, b = tailB got ws p e → Keeps s.heap h' → Q (.bool b) { s with heap := h', toks := tk }) :
    wpAny (model Pg w) (A.deeper (envOf d.name d.scope L f cd)) (execs (d.body.drop 8) (envOf d.name d.scope L f cd)) (Back s.heap Q) (fun _ _ => False) { s with heap := h₁, toks := tk₁ } := by
  have hd' := hd
  conv at hd => rhs; whnf
  subst hd
  dsimp only [List.drop] at hh' ⊢
  unfold tailB at h
  repeat' walk1
  · rename_i hlt
    refine Back.ret (by assumption) (fun hk => h _ _ _ ?_ hk)
    rw [if_pos (by omega)]
  · rename_i hlt
    rw [if_neg (by omega)] at h
    refine For_unr s.heap ?_ (by intro _; rfl)
    walk1
    refine Iter_list_unr hh' hD (by assumption) (by assumption) hDL ?_
    exact match_loop (d := fnNo 0) rfl rfl T hh' hvs hws h vs.toArray.size 0 (by rw [List.size_toArray]; exact StrsAre_len hvs) _ _ _ m1 m2 m3 rfl
end

section

local macro_rules | `(tactic| walk_at "unpackItems ref") => `(tactic| (refine unpackItemsN_ (by assumption) (by assumption) (News.isTup (by assumption) (.head _)) (by assumption) (by rfl) ?_; intro _ _ _))
local macro_rules | `(tactic| walk_at "eval Name") => `(tactic| (refine ld (by assumption) (by ((try dsimp only); (repeat (refine (if_neg (by decide)).trans ?_)); first | with_reducible assumption | exact if_pos rfl)) ?_))
theorem item_last {w : World} {A : Around} {E : Value → Shared → Prop} {s : Shared} {value slice : PySem.Expr} {l : Addr} {vs : List Value} {u : Tok} {v : Value} {Q : Value → Shared → Prop}
    (hl : s.heap.IsList l vs.toArray) (hx : vs.getLast? = some v) (h : Q v s)
    (hs : subscripted slice false (.ref l) (.int (-1) u) = operate [.ref l, .int (-1) u] (getItem (.ref l) (.int (-1) u)) := by with_unfolding_all rfl) :
    wpAny (model Pg w) A (subscriptTail value slice (.ref l) (.int (-1) u)) Q E s := by
  have hn : vs ≠ [] := by intro e; rw [e] at hx; cases hx
  have hp : 0 < vs.length := List.length_pos_iff.mpr hn
  refine tail_any hl.typeIs slot_list_getitem.lookup (wpAny_getItem_list_neg hl (by decide) (by rw [List.size_toArray]; omega) (by decide) ?_ h) hs
  rw [List.size_toArray]
  have e : ((-1 : Int) + (vs.length : Int)).toNat = vs.length - 1 := by omega
  rw [e, List.getElem?_toArray, ← List.getLast?_eq_getElem?]
  exact hx
theorem strs_last : ∀ {vs : List Value} {ws : List Str} {y : Str}, StrsAre vs ws → ws.getLast? = some y → ∃ t, vs.getLast? = some (.str y t)
  | _, _, _, .nil, h => by cases h
  | _, _, _, .cons a t .nil, h => by simp at h; subst h; exact ⟨t, rfl⟩
  | _, _, _, .cons a t (.cons b t' r), h => by
    obtain ⟨t'', e⟩ := strs_last (.cons b t' r) (by simpa using h)
    exact ⟨t'', by simpa using e⟩
theorem erase_last {α : Type} : ∀ (l : List α), l ≠ [] → l.eraseIdx (l.length - 1) = l.dropLast
  | [], h => absurd rfl h
  | [a], _ => rfl
  | a :: b :: r, _ => by
    have := erase_last (b :: r) (by simp)
    simp only [List.length_cons, Nat.add_sub_cancel, List.eraseIdx_cons_succ, List.dropLast_cons_cons] at this ⊢
    rw [← this]
theorem strs_dropLast : ∀ {vs : List Value} {ws : List Str}, StrsAre vs ws → StrsAre vs.dropLast ws.dropLast
  | _, _, .nil => .nil
  | _, _, .cons a t .nil => .nil
  | _, _, .cons a t (.cons b t' r) => .cons a t (strs_dropLast (.cons b t' r))
local macro_rules | `(tactic| walk_at "loadName") => `(tactic| (refine ldn (by assumption) (by ((try dsimp only); (repeat (refine (if_neg (by decide)).trans ?_)); first | with_reducible assumption | exact if_pos rfl)) ?_))
local macro_rules | `(tactic| walk_at "delItem ref int") => `(tactic| (refine delItem_head (by assumption) (by assumption) (by intro _ hp'; cases hp') (by decide) (by assumption) ?_ (by rw [List.size_toArray]; unfold sizeLine; omega); intro _ _ _))
set_option maxHeartbeats 8000000 in
theorem match_last {w : World} {A : Around} {s : Shared} {mg : Str → Option Value} {Q : Value → Shared → Prop} {f L : Addr} {cd : Value} {got : Str} {d : DefItem} {h₁ : Heap} {tk₁ : Nat} {m₁ : Str → Option Value}
    {vs : List Value} {n : Nat} {ws : List Str} {p : Int} {D : Addr} {t u z : Tok} {st7 st8 : Stmt} {rest : List Stmt}
    (hd : d = fnNo 0) (hb : d.body.drop 6 = st7 :: st8 :: rest) (T : Wd w mg s.heap) (hh' : (A.deeper (envOf d.name d.scope L f cd)).handled = none) (hvs : StrsAre vs ws) (hws : ∀ y ∈ ws, y.length ≤ 1000) (hne : ws ≠ []) (hwl : ws.length ≤ 2000) (hg : got.length ≤ 1000)
    (F : Fr s.heap L h₁ m₁) (N : News s.heap L h₁ [(D, { cls := .type "list", data := .seq vs.toArray n })])
    (m1 : m₁ "startpos" = some (.int p t)) (m2 : m₁ "got" = some (.str got u)) (m3 : m₁ "endpos" = some (.int got.length z)) (m4 : m₁ "ws" = some (.ref D))
    (h : ∀ b h' tk, b = lastB got ws p → Keeps s.heap h' → Q (.bool b) { s with heap := h', toks := tk }) :
    wpAny (model Pg w) (A.deeper (envOf d.name d.scope L f cd)) (execs (st7 :: st8 :: rest) (envOf d.name d.scope L f cd)) (Back s.heap Q) (fun _ _ => False) { s with heap := h₁, toks := tk₁ } := by
  conv at hd => rhs; whnf
  subst hd
  dsimp only [List.drop] at hb hh' ⊢
  injection hb with e1 hb
  injection hb with e2 hb
  subst e1 e2
  have hD := News.isList N (.head _)
  have hvl := StrsAre_len hvs
  obtain ⟨y, hy⟩ : ∃ y, ws.getLast? = some y := by
    cases e : ws.getLast? with
    | none => exact absurd (List.getLast?_eq_none_iff.mp e) hne
    | some y => exact ⟨y, rfl⟩
  have hyl := hws y (List.mem_of_getLast? hy)
  obtain ⟨ty, hvy⟩ : ∃ ty, vs.getLast? = some (.str y ty) := strs_last hvs hy
  have hvn : vs ≠ [] := by intro e; rw [e] at hvy; cases hvy
  have hvp : 0 < vs.length := List.length_pos_iff.mpr hvn
  have hsq : seqIndex? (-1) vs.toArray.size = some (vs.length - 1) := by
    rw [seqIndex_neg (by decide) (by rw [List.size_toArray]; omega), List.size_toArray]
    congr 1; omega
  have hlb : lastB got ws p = if y.length = 0 then tailB got ws p got.length else if Txt.endswith got y = true then tailB got ws.dropLast p (got.length - y.length) else false := by
    unfold lastB; rw [hy]
  rw [hlb] at h
  iterate 7 walk1
  refine item_last (by exact hD) (by exact hvy) ?_
  repeat' walk1
  · rename_i hy0 hends _ _ _ h₅ F₅ N₅
    rw [if_neg (by omega), if_pos hends] at h
    have ev : vs.toArray.toList.eraseIdx (vs.length - 1) = vs.dropLast := erase_last vs hvn
    rw [ev] at N₅
    subst hb
    exact match_tail (d := fnNo 0) rfl T hh' (strs_dropLast hvs) (fun y hy => hws y (List.dropLast_subset _ hy)) F₅ N₅ (News.isList N₅ (.head _)) (N₅ _ (.head _)).2.1
      ((if_neg (by decide)).trans ((if_neg (by decide)).trans m1)) ((if_neg (by decide)).trans ((if_neg (by decide)).trans m2)) (if_pos rfl) ((if_neg (by decide)).trans ((if_neg (by decide)).trans m4)) h
  · rename_i hy0 hends
    rw [if_neg (by omega), if_neg (by rw [hends]; decide)] at h
    show Back s.heap Q (.ret _) _
    exact Back.ret (by assumption) (fun hk => h _ _ _ rfl hk)
  · rename_i h₅ F₅ N₅ hy0
    rw [if_pos (by omega)] at h
    subst hb
    exact match_tail (d := fnNo 0) rfl T hh' hvs hws F₅ N₅ (News.isList N₅ (.head _)) (N₅ _ (.head _)).2.1
      ((if_neg (by decide)).trans m1) ((if_neg (by decide)).trans m2) ((if_neg (by decide)).trans m3) ((if_neg (by decide)).trans m4) h
end

section

local macro_rules | `(tactic| walk_at "unpackItems ref") => `(tactic| (refine unpackItemsN_ (by assumption) (by assumption) (News.isTup (by assumption) (.head _)) (by assumption) (by rfl) ?_; intro _ _ _))
local macro_rules | `(tactic| walk_at "eval Name") => `(tactic| (refine ld (by assumption) (by ((try dsimp only); (repeat (refine (if_neg (by decide)).trans ?_)); first | with_reducible assumption | exact if_pos rfl)) ?_))
local macro_rules | `(tactic| walk_at "loadName") => `(tactic| (refine ldn (by assumption) (by ((try dsimp only); (repeat (refine (if_neg (by decide)).trans ?_)); first | with_reducible assumption | exact if_pos rfl)) ?_))
local macro_rules | `(tactic| walk_at "delItem ref int") => `(tactic| (refine delItem_head (by assumption) (by assumption) (by intro _ hp'; cases hp') (by decide) (by assumption) ?_ (by rw [List.size_toArray]; unfold sizeLine; omega); intro _ _ _))
theorem strs_values : ∀ l : List (Str × Tok), StrsAre (strValues l) (l.map (·.1))
  | [] => .nil
  | (a, t) :: r => .cons a t (strs_values r)
theorem strs_tail : ∀ {vs : List Value} {y : Str} {ws : List Str}, StrsAre vs (y :: ws) → StrsAre (vs.eraseIdx 0) ws
  | _, _, _, .cons _ _ r => r
theorem split_count (x : Str) (h : (Builtin.Str.occurrences x "..." 0 x.length 1).isEmpty = false) : (Txt.split x "...").length ≤ x.length + 2 := by
  rw [(split_more h).1, len_partsBetween]
  have := StrLaws.occ_length_le x "..." 0 x.length (x.length + 1)
  omega
set_option maxHeartbeats 8000000 in
theorem match_body {w : World} {A : Around} {s : Shared} {mg : Str → Option Value} {Q : Value → Shared → Prop} {f L : Addr} {cd : Value} {want got : Str} {d : DefItem} {h₁ : Heap} {tk₁ : Nat} {m₁ : Str → Option Value}
    {t u : Tok} {st0 st1 st2 st3 st4 st5 : Stmt} {rest : List Stmt}
    (hd : d = fnNo 0) (hb : d.body = st0 :: st1 :: st2 :: st3 :: st4 :: st5 :: rest) (T : Wd w mg s.heap) (hh' : (A.deeper (envOf d.name d.scope L f cd)).handled = none) (hw : want.length ≤ 1000) (hg : got.length ≤ 1000)
    (F : Fr s.heap L h₁ m₁) (N : News s.heap L h₁ [])
    (m1 : m₁ "want" = some (.str want t)) (m2 : m₁ "got" = some (.str got u))
    (h : ∀ b h' tk, b = matchB want got → Keeps s.heap h' → Q (.bool b) { s with heap := h', toks := tk }) :
    wpAny (model Pg w) (A.deeper (envOf d.name d.scope L f cd)) (execs (st0 :: st1 :: st2 :: st3 :: st4 :: st5 :: rest) (envOf d.name d.scope L f cd)) (Back s.heap Q) (fun _ _ => False) { s with heap := h₁, toks := tk₁ } := by
  conv at hd => rhs; whnf
  subst hd
  dsimp only at hb hh' ⊢
  injection hb with e1 hb
  injection hb with e2 hb
  injection hb with e3 hb
  injection hb with e4 hb
  injection hb with e5 hb
  injection hb with e6 hb
  subst e1 e2 e3 e4 e5 e6
  unfold matchB at h
  repeat' walk1
  · rename_i hno
    rw [if_pos hno] at h
    show Back s.heap Q (.ret _) _
    exact Back.ret (by assumption) (fun hk => h _ _ _ rfl hk)
  · rename (Builtin.Str.occurrences _ _ _ _ _).isEmpty = false => hocc
    rename List.map _ _ = Txt.split _ _ => hmap
    have h2 := (split_more hocc).2
    rw [← hmap, List.length_map] at h2
    exact decide_eq_true (by omega)
  · rename (Builtin.Str.occurrences _ _ _ _ _).isEmpty = false => hocc
    rename List.map _ _ = Txt.split _ _ => hmap
    rename StrsAre _ _ => hsa
    rename ∀ a, a ∈ _ → Str.length a ≤ _ => hlen
    rename _[Int.toNat 0]? = some _ => hy
    rename List (Str × Tok) => l
    rename_i y ty h₅ F₅ N₅
    have hcnt := split_count want hocc
    have h2 := (split_more hocc).2
    rw [if_neg (by rw [hocc]; decide)] at h
    rw [← hmap] at hcnt h2 h
    generalize hws : l.map (·.1) = ws at hcnt h2 h hsa hlen hy
    cases ws with
    | nil => simp at h2
    | cons y' ws' =>
      obtain rfl : y' = y := by simpa using hy
      have hyl := hlen y' List.mem_cons_self
      simp only [List.length_cons] at hcnt h2
      unfold firstB at h
      have N₆ : News s.heap L h₅ [_] := fun p hp => N₅ p (List.mem_cons_of_mem _ hp)
      clear N₅
      have hvl := StrsAre_len hsa
      simp only [List.length_cons] at hvl
      have hsq : seqIndex? 0 (strValues l).toArray.size = some 0 := by
        rw [List.size_toArray, hvl]
        exact seqIndex_at (by decide) (by omega)
      have hw3 : ∀ y ∈ y' :: ws', y.length ≤ 1000 := fun y hy => Nat.le_trans (hlen y hy) hw
      clear hlen
      repeat' walk1
      · rename_i hy0 hst _ _ _ h₆ F₆ N₇
        replace h : ∀ b h' tk, b = lastB got ws' y'.length → Keeps s.heap h' → Q (.bool b) { s with heap := h', toks := tk } := fun b h' tk e => h b h' tk (by
          rw [e]
          exact ((if_neg (by omega)).trans (if_pos hst)).symm)
        subst hb
        exact match_last (d := fnNo 0) rfl rfl T hh' (strs_tail hsa) (fun y hy => hw3 y (List.mem_cons_of_mem _ hy)) (by intro e; rw [e] at h2; simp at h2) (by omega) hg F₆ N₇
          (by ((try dsimp only); (repeat (refine (if_neg (by decide)).trans ?_)); first | with_reducible assumption | exact if_pos rfl)) (by ((try dsimp only); (repeat (refine (if_neg (by decide)).trans ?_)); first | with_reducible assumption | exact if_pos rfl)) (by ((try dsimp only); (repeat (refine (if_neg (by decide)).trans ?_)); first | with_reducible assumption | exact if_pos rfl)) (by ((try dsimp only); (repeat (refine (if_neg (by decide)).trans ?_)); first | with_reducible assumption | exact if_pos rfl)) h
      · rename_i hy0 hst
        show Back s.heap Q (.ret _) _
        exact Back.ret (by assumption) (fun hk => h _ _ _ ((if_neg (by omega)).trans (if_neg (by rw [hst]; decide))).symm hk)
      · rename_i hy0
        replace h : ∀ b h' tk, b = lastB got (y' :: ws') 0 → Keeps s.heap h' → Q (.bool b) { s with heap := h', toks := tk } := fun b h' tk e => h b h' tk (by
          rw [e]
          exact (if_pos (by omega)).symm)
        subst hb
        exact match_last (d := fnNo 0) rfl rfl T hh' hsa hw3 (by simp) (by simp only [List.length_cons]; omega) hg F₅ N₆
          (by ((try dsimp only); (repeat (refine (if_neg (by decide)).trans ?_)); first | with_reducible assumption | exact if_pos rfl)) (by ((try dsimp only); (repeat (refine (if_neg (by decide)).trans ?_)); first | with_reducible assumption | exact if_pos rfl)) (by ((try dsimp only); (repeat (refine (if_neg (by decide)).trans ?_)); first | with_reducible assumption | exact if_pos rfl)) (by ((try dsimp only); (repeat (refine (if_neg (by decide)).trans ?_)); first | with_reducible assumption | exact if_pos rfl)) h

set_option maxHeartbeats 4000000 in
theorem match_spec {w : World} {A : Around} {E : Value → Shared → Prop} {s : Shared} {mg : Str → Option Value} {Q : Value → Shared → Prop} {f : Addr} {want got : Str} {t u : Tok}
    (T : Wd w mg s.heap) (hf : mg "_ellipsis_match" = some (.ref f)) (hA : Ok 1 A) (hw : want.length ≤ 1000) (hg : got.length ≤ 1000)
    (h : ∀ b h' tk, b = matchB want got → Keeps s.heap h' → Q (.bool b) { s with heap := h', toks := tk }) :
    wpAny (model Pg w) A (call (.ref f) [.str want t, .str got u]) Q E s := by
  obtain ⟨d, hd⟩ : ∃ d, d = fnNo 0 := ⟨_, rfl⟩
  have hfind : itemNamed "_ellipsis_match" = some d := by rw [hd]; rfl
  conv at hd => rhs; whnf
  subst hd
  refine call_item (binds := [("want", .str want t), ("got", .str got u)]) T hf hfind hA (fun _ _ _ => by rfl) (locs rfl) (fun h₁ L cd hL F N hA' hh' => ?_)
  clear hfind
  dsimp only at hA' hh' ⊢
  exact match_body (d := fnNo 0) rfl rfl T hh' hw hg F N rfl rfl h
end

section

structure Lw (h₀ : Heap) (L : Nat) (h : Heap) (m : Str → Option Value) (vp vq vr : Option Value) : Prop where
  F : Fr h₀ L h m
  p : h.IsCell (L + 1) vp
  q : h.IsCell (L + 2) vq
  r : h.IsCell (L + 3) vr
theorem Lw.mono {h₀ : Heap} {L : Nat} {h h' : Heap} {m : Str → Option Value} {vp vq vr : Option Value} (X : Lw h₀ L h m vp vq vr) (K : Keeps h h') : Lw h₀ L h' m vp vq vr := ⟨frKept X.F K, X.p.keeps K, X.q.keeps K, X.r.keeps K⟩
section
variable {M : Model} {A : Around} {E : Value → Shared → Prop} {s : Shared} {name : Str} {scope : Scope} {L : Nat} {a : Addr} {cd : Value} {h₀ hb : Heap} {m : Str → Option Value} {v : Value} {vp vq vr : Option Value} {x : Str} {pos : Pos} {w : World} {mg : Str → Option Value}
theorem Lw.stP {Q : Unit → Shared → Prop} (X : Lw h₀ L s.heap m vp vq vr) (h : ∀ h', Lw h₀ L h' m (some v) vq vr → (∀ b o, b ≠ L + 1 → s.heap.get? b = some o → h'.get? b = some o) → Q () { s with heap := h' })
    (hk : (envOfC name scope L a cd).scope.kind = .function := by rfl) (hl : (envOfC name scope L a cd).kindOf "pieces" = some .cell := by rfl) (hc : (envOfC name scope L a cd).cells.lookup ("pieces" : Str) = some (L + 1) := by rfl) :
    wpAny M A (storeName (envOfC name scope L a cd) "pieces" v) Q E s :=
  wpAny_storeName_cell hk hl hc X.p fun h' hv hs => h h' ⟨⟨X.F.ns.sameBut hs (by simp), fun b o e => (hs.2 b (fun q => by rw [q, above_none X.F 1] at e; cases e)).trans (X.F.keep b o e), X.F.above⟩, hv, cell_same X.q hs (by simp), cell_same X.r hs (by simp)⟩ fun b o hb e => (hs.2 b hb).trans e
theorem Lw.stQ {Q : Unit → Shared → Prop} (X : Lw h₀ L s.heap m vp vq vr) (h : ∀ h', Lw h₀ L h' m vp (some v) vr → (∀ b o, b ≠ L + 2 → s.heap.get? b = some o → h'.get? b = some o) → Q () { s with heap := h' })
    (hk : (envOfC name scope L a cd).scope.kind = .function := by rfl) (hl : (envOfC name scope L a cd).kindOf "pattern" = some .cell := by rfl) (hc : (envOfC name scope L a cd).cells.lookup ("pattern" : Str) = some (L + 2) := by rfl) :
    wpAny M A (storeName (envOfC name scope L a cd) "pattern" v) Q E s :=
  wpAny_storeName_cell hk hl hc X.q fun h' hv hs => h h' ⟨⟨X.F.ns.sameBut hs (by simp), fun b o e => (hs.2 b (fun q => by rw [q, above_none X.F 2] at e; cases e)).trans (X.F.keep b o e), X.F.above⟩, cell_same X.p hs (by simp), hv, cell_same X.r hs (by simp)⟩ fun b o hb e => (hs.2 b hb).trans e
theorem Lw.stR {Q : Unit → Shared → Prop} (X : Lw h₀ L s.heap m vp vq vr) (h : ∀ h', Lw h₀ L h' m vp vq (some v) → (∀ b o, b ≠ L + 3 → s.heap.get? b = some o → h'.get? b = some o) → Q () { s with heap := h' })
    (hk : (envOfC name scope L a cd).scope.kind = .function := by rfl) (hl : (envOfC name scope L a cd).kindOf "row" = some .cell := by rfl) (hc : (envOfC name scope L a cd).cells.lookup ("row" : Str) = some (L + 3) := by rfl) :
    wpAny M A (storeName (envOfC name scope L a cd) "row" v) Q E s :=
  wpAny_storeName_cell hk hl hc X.r fun h' hv hs => h h' ⟨⟨X.F.ns.sameBut hs (by simp), fun b o e => (hs.2 b (fun q => by rw [q, above_none X.F 3] at e; cases e)).trans (X.F.keep b o e), X.F.above⟩, cell_same X.p hs (by simp), cell_same X.q hs (by simp), hv⟩ fun b o hb e => (hs.2 b hb).trans e
theorem Lw.stL {Q : Unit → Shared → Prop} (X : Lw h₀ L s.heap m vp vq vr) (h : ∀ h' tk, Lw h₀ L h' (fun y => if y = x then some v else m y) vp vq vr → KeepsBut L s.heap h' → Q () { s with heap := h', toks := tk })
    (hk : (envOfC name scope L a cd).scope.kind = .function := by rfl) (hl : (envOfC name scope L a cd).kindOf x = some .local := by rfl) :
    wpAny M A (storeName (envOfC name scope L a cd) x v) Q E s :=
  wpAny_storeName_local hl X.F.ns (fun h' hn hs => h h' _ ⟨X.F.set hn hs, cell_same X.p hs (by show L + 1 ≠ L; simp), cell_same X.q hs (by show L + 2 ≠ L; simp), cell_same X.r hs (by show L + 3 ≠ L; simp)⟩ fun b o hb e => (hs.2 b hb).trans e)
    (by have hk' : scope.kind = .function := hk
        show (scope.kind == .class || (scope.kind == .module && L != mainGlobals)) = false; rw [hk']; rfl)
theorem lw_loc {Q : Value → Shared → Prop} (K : Keeps hb s.heap) (X : Lw h₀ L hb m vp vq vr) (hv : m x = some v) (h : Q v s)
    (hk : (envOfC name scope L a cd).scope.kind = .function := by rfl) (hl : (envOfC name scope L a cd).kindOf x = some .local := by rfl) (hd : (x == ("__debug__" : Str)) = false := by decide) :
    wpAny M A (eval (.Name x pos) (envOfC name scope L a cd)) Q E s := wpAny_Name (wpAny_loadName_local hk hl (X.F.ns.keeps K) hv h) hd
theorem lw_cell {Q : Value → Shared → Prop} {c : Addr} (K : Keeps hb s.heap) (hc : (envOfC name scope L a cd).cells.lookup x = some c) (hv : hb.IsCell c (some v)) (h : Q v s)
    (hk : (envOfC name scope L a cd).scope.kind = .function := by rfl) (hl : (envOfC name scope L a cd).kindOf x = some .cell := by rfl) (hd : (x == ("__debug__" : Str)) = false := by decide) :
    wpAny M A (eval (.Name x pos) (envOfC name scope L a cd)) Q E s := wpAny_Name (wpAny_loadName_cell hk hl hc (hv.keeps K) h) hd
theorem lw_builtin {Q : Value → Shared → Prop} (K : Keeps hb s.heap) (T : Wd w mg hb) (hx : x ∈ (["ord", "chr", "len", "range", "sum", "all", "isinstance", "bool", "set", "list"] : List Str)) (hv : bootBuiltins x = some v) (h : Q v s)
    (hn : x ≠ "__name__" := by decide +kernel)
    (hk : (envOfC name scope L a cd).scope.kind = .function := by rfl) (hl : (envOfC name scope L a cd).kindOf x = some .globalImplicit := by rfl) (hd : (x == ("__debug__" : Str)) = false := by decide) :
    wpAny M A (eval (.Name x pos) (envOfC name scope L a cd)) Q E s :=
  let ⟨_, hB, hbs⟩ := T.b
  Name_function_global hk hl (loadGlobal_builtin (env := envOfC name scope L a cd) (T.g.keeps K) (T.free x hx) (hB.keeps K) ((hbs x hn).trans hv) h) hd
theorem lw_def {Q : Value → Shared → Prop} (K : Keeps hb s.heap) (T : Wd w mg hb) (hfind : (itemNamed x).isSome = true) (h : ∀ f, mg x = some (.ref f) → Q (.ref f) s)
    (hk : (envOfC name scope L a cd).scope.kind = .function := by rfl) (hl : (envOfC name scope L a cd).kindOf x = some .globalImplicit := by rfl) (hd : (x == ("__debug__" : Str)) = false := by decide) :
    wpAny M A (eval (.Name x pos) (envOfC name scope L a cd)) Q E s := by
  obtain ⟨d, hfind⟩ := Option.isSome_iff_exists.mp hfind
  have hn : d.name = x := beq_iff_eq.mp (List.find?_some (p := fun e : DefItem => e.name == x) hfind)
  obtain ⟨f, o, pm, code, doc, h1, h2, h3, h4⟩ := T.fn d (List.mem_of_find?_eq_some hfind)
  exact Name_function_global hk hl (loadGlobal_global (env := envOfC name scope L a cd) (T.g.keeps K) (hn ▸ h1) (h f (hn ▸ h1))) hd
end
theorem PiecesAt.len {h : Heap} {l : Addr} {ps : List Piece} (x : PiecesAt h l ps) : ∃ ys : List Value, h.IsList l ys.toArray ∧ ys.length = ps.length := let ⟨ys, hl, r⟩ := x; ⟨ys, hl, (paired_len r).symm⟩
theorem PiecesAt.butCell {h h' : Heap} {l c : Addr} {ps : List Piece} {v : Option Value} (x : PiecesAt h l ps) (hc : h.IsCell c v) (hs : ∀ b o, b ≠ c → h.get? b = some o → h'.get? b = some o) : PiecesAt h' l ps :=
  let ⟨ys, hl, r⟩ := x
  ⟨ys, list_same hl hc hs, r.mono fun _ _ ⟨T, its, e, hT, q⟩ => ⟨T, its, e, list_same hT hc hs, q⟩⟩
theorem PiecesAt.but {h h' : Heap} {l L : Addr} {ps : List Piece} {m : Str → Option Value} (x : PiecesAt h l ps) (hn : h.Ns L m) (K : KeepsBut L h h') : PiecesAt h' l ps :=
  let ⟨ys, hl, r⟩ := x
  ⟨ys, K.list hn hl, r.mono fun _ _ ⟨T, its, e, hT, q⟩ => ⟨T, its, e, K.list hn hT, q⟩⟩
end

section

local macro_rules | `(tactic| walk_at "call type:range") => `(tactic| (refine range_k ?_; intro _ _ _ _ _ _))
set_option maxHeartbeats 4000000 in
theorem law_head {w : World} {A : Around} {s : Shared} {mg : Str → Option Value} {Q : Value → Shared → Prop} {f : Addr} {L : Nat} {cd : Value} {d : DefItem} {h₁ : Heap} {tk₁ : Nat} {a : Addr} {vs : List Value} {ns : List Int}
    {st0 st1 st2 : Stmt} {rest : List Stmt}
    (hd : d = fnNo 19) (hb : d.body = st0 :: st1 :: st2 :: rest) (T : Wd w mg s.heap) (hA' : Ok 5 (A.deeper (envOfC d.name d.scope L f cd))) (hh' : (A.deeper (envOfC d.name d.scope L f cd)).handled = none)
    (hl : s.heap.IsList a vs.toArray) (hi : IntsAre vs ns) (hlen : ns.length ≤ 63) {ps : List Piece} (hps : ps = frontOf ns.sum ++ (ns.take 10).map pieceOf) (hsm : Small ps) (hpat : patL (toL (colOf 0 ps)) = toL (colOf 1 ps))
    (X : Lw s.heap L h₁ (fun y => if y = "script" then some (.ref a) else none) none none none)
    (h : ∀ h₂ tk₂ l rg t u, Lw s.heap L h₂ (fun y => if y = "counts" then some (.ref rg) else if y = "script" then some (.ref a) else none) (some (.ref l)) (some (.str (colOf 1 ps) t)) none → PiecesAt h₂ l ps → (∃ t v, IsRange h₂ rg 0 (ps.length + 1) 1 t u v) →
      wpAny (model Pg w) (A.deeper (envOfC d.name d.scope L f cd)) (execs rest (envOfC d.name d.scope L f cd)) (Back s.heap Q) (fun _ _ => False) { s with heap := h₂, toks := tk₂ }) :
    wpAny (model Pg w) (A.deeper (envOfC d.name d.scope L f cd)) (execs (st0 :: st1 :: st2 :: rest) (envOfC d.name d.scope L f cd)) (Back s.heap Q) (fun _ _ => False) { s with heap := h₁, toks := tk₁ } := by
  conv at hd => rhs; whnf
  subst hd
  dsimp only at hb hA' hh' h ⊢
  injection hb with e1 hb
  injection hb with e2 hb
  injection hb with e3 hb
  subst e1 e2 e3
  clear hb
  have K : Keeps h₁ h₁ := Keeps.refl _
  have T₁ : Wd w mg h₁ := T.keeps X.F.keep
  repeat' (first | ((with_reducible show wpAny _ _ (eval (Expr.Name (Str.ofString "pieces") _) _) _ _ _); refine lw_cell K rfl X.p ?_) | ((with_reducible show wpAny _ _ (eval (Expr.Name (Str.ofString "pattern") _) _) _ _ _); refine lw_cell K rfl X.q ?_) | ((with_reducible show wpAny _ _ (eval (Expr.Name (Str.ofString "row") _) _) _ _ _); refine lw_cell K rfl X.r ?_) | ((with_reducible show wpAny _ _ (eval (Expr.Name (Str.ofString "script") _) _) _ _ _); refine lw_loc K X (by ((try dsimp only); (repeat (refine (if_neg (by decide)).trans ?_)); first | with_reducible assumption | exact if_pos rfl)) ?_) | ((with_reducible show wpAny _ _ (eval (Expr.Name (Str.ofString "counts") _) _) _ _ _); refine lw_loc K X (by ((try dsimp only); (repeat (refine (if_neg (by decide)).trans ?_)); first | with_reducible assumption | exact if_pos rfl)) ?_) | ((with_reducible show wpAny _ _ (eval (Expr.Name (Str.ofString "answers") _) _) _ _ _); refine lw_loc K X (by ((try dsimp only); (repeat (refine (if_neg (by decide)).trans ?_)); first | with_reducible assumption | exact if_pos rfl)) ?_) | ((with_reducible show wpAny _ _ (eval (Expr.Name (Str.ofString "expected") _) _) _ _ _); refine lw_loc K X (by ((try dsimp only); (repeat (refine (if_neg (by decide)).trans ?_)); first | with_reducible assumption | exact if_pos rfl)) ?_) | ((with_reducible show wpAny _ _ (eval (Expr.Name (Str.ofString "len") _) _) _ _ _); refine lw_builtin (v := .builtin "len") K T₁ (by decide +kernel) (by rfl) ?_) | ((with_reducible show wpAny _ _ (eval (Expr.Name (Str.ofString "range") _) _) _ _ _); refine lw_builtin (v := .type "range") K T₁ (by decide +kernel) (by rfl) ?_) | ((with_reducible show wpAny _ _ (eval (Expr.Name (Str.ofString "all") _) _) _ _ _); refine lw_builtin (v := .builtin "all") K T₁ (by decide +kernel) (by rfl) ?_) | ((with_reducible show wpAny _ _ (eval (Expr.Name (Str.ofString "_law_pieces") _) _) _ _ _); refine lw_def K T₁ (by decide +kernel) ?_; intro _ _) | ((with_reducible show wpAny _ _ (eval (Expr.Name (Str.ofString "_law_pattern") _) _) _ _ _); refine lw_def K T₁ (by decide +kernel) ?_; intro _ _) | ((with_reducible show wpAny _ _ (eval (Expr.Name (Str.ofString "_law_column") _) _) _ _ _); refine lw_def K T₁ (by decide +kernel) ?_; intro _ _) | ((with_reducible show wpAny _ _ (eval (Expr.Name (Str.ofString "_law_fits") _) _) _ _ _); refine lw_def K T₁ (by decide +kernel) ?_; intro _ _) | walk1)
  refine pieces_spec T₁ (by assumption) (by walk_at "my room") (hl.at fun o e => X.F.keep _ o e) hi hlen ?_
  intro l h₂ tk₂ hp hk₂
  rw [← hps] at hp
  have X₂ := X.mono hk₂
  refine Lw.stP (by exact X₂) ?_
  intro h₃ X₃ k₃
  have hp₃ := hp.butCell X₂.p k₃
  obtain ⟨ys, hys, hyl⟩ := hp₃.len
  have hpl := hsm.1
  clear K T₁ X
  have K : Keeps h₃ h₃ := Keeps.refl _
  have T₁ : Wd w mg h₃ := T.keeps X₃.F.keep
  have X := X₃
  repeat' (first | ((with_reducible show wpAny _ _ (eval (Expr.Name (Str.ofString "pieces") _) _) _ _ _); refine lw_cell K rfl X.p ?_) | ((with_reducible show wpAny _ _ (eval (Expr.Name (Str.ofString "pattern") _) _) _ _ _); refine lw_cell K rfl X.q ?_) | ((with_reducible show wpAny _ _ (eval (Expr.Name (Str.ofString "row") _) _) _ _ _); refine lw_cell K rfl X.r ?_) | ((with_reducible show wpAny _ _ (eval (Expr.Name (Str.ofString "script") _) _) _ _ _); refine lw_loc K X (by ((try dsimp only); (repeat (refine (if_neg (by decide)).trans ?_)); first | with_reducible assumption | exact if_pos rfl)) ?_) | ((with_reducible show wpAny _ _ (eval (Expr.Name (Str.ofString "counts") _) _) _ _ _); refine lw_loc K X (by ((try dsimp only); (repeat (refine (if_neg (by decide)).trans ?_)); first | with_reducible assumption | exact if_pos rfl)) ?_) | ((with_reducible show wpAny _ _ (eval (Expr.Name (Str.ofString "answers") _) _) _ _ _); refine lw_loc K X (by ((try dsimp only); (repeat (refine (if_neg (by decide)).trans ?_)); first | with_reducible assumption | exact if_pos rfl)) ?_) | ((with_reducible show wpAny _ _ (eval (Expr.Name (Str.ofString "expected") _) _) _ _ _); refine lw_loc K X (by ((try dsimp only); (repeat (refine (if_neg (by decide)).trans ?_)); first | with_reducible assumption | exact if_pos rfl)) ?_) | ((with_reducible show wpAny _ _ (eval (Expr.Name (Str.ofString "len") _) _) _ _ _); refine lw_builtin (v := .builtin "len") K T₁ (by decide +kernel) (by rfl) ?_) | ((with_reducible show wpAny _ _ (eval (Expr.Name (Str.ofString "range") _) _) _ _ _); refine lw_builtin (v := .type "range") K T₁ (by decide +kernel) (by rfl) ?_) | ((with_reducible show wpAny _ _ (eval (Expr.Name (Str.ofString "all") _) _) _ _ _); refine lw_builtin (v := .builtin "all") K T₁ (by decide +kernel) (by rfl) ?_) | ((with_reducible show wpAny _ _ (eval (Expr.Name (Str.ofString "_law_pieces") _) _) _ _ _); refine lw_def K T₁ (by decide +kernel) ?_; intro _ _) | ((with_reducible show wpAny _ _ (eval (Expr.Name (Str.ofString "_law_pattern") _) _) _ _ _); refine lw_def K T₁ (by decide +kernel) ?_; intro _ _) | ((with_reducible show wpAny _ _ (eval (Expr.Name (Str.ofString "_law_column") _) _) _ _ _); refine lw_def K T₁ (by decide +kernel) ?_; intro _ _) | ((with_reducible show wpAny _ _ (eval (Expr.Name (Str.ofString "_law_fits") _) _) _ _ _); refine lw_def K T₁ (by decide +kernel) ?_; intro _ _) | walk1)
  refine len_list (by exact hys) (by rw [List.size_toArray]; omega) ?_
  repeat' (first | ((with_reducible show wpAny _ _ (eval (Expr.Name (Str.ofString "pieces") _) _) _ _ _); refine lw_cell K rfl X.p ?_) | ((with_reducible show wpAny _ _ (eval (Expr.Name (Str.ofString "pattern") _) _) _ _ _); refine lw_cell K rfl X.q ?_) | ((with_reducible show wpAny _ _ (eval (Expr.Name (Str.ofString "row") _) _) _ _ _); refine lw_cell K rfl X.r ?_) | ((with_reducible show wpAny _ _ (eval (Expr.Name (Str.ofString "script") _) _) _ _ _); refine lw_loc K X (by ((try dsimp only); (repeat (refine (if_neg (by decide)).trans ?_)); first | with_reducible assumption | exact if_pos rfl)) ?_) | ((with_reducible show wpAny _ _ (eval (Expr.Name (Str.ofString "counts") _) _) _ _ _); refine lw_loc K X (by ((try dsimp only); (repeat (refine (if_neg (by decide)).trans ?_)); first | with_reducible assumption | exact if_pos rfl)) ?_) | ((with_reducible show wpAny _ _ (eval (Expr.Name (Str.ofString "answers") _) _) _ _ _); refine lw_loc K X (by ((try dsimp only); (repeat (refine (if_neg (by decide)).trans ?_)); first | with_reducible assumption | exact if_pos rfl)) ?_) | ((with_reducible show wpAny _ _ (eval (Expr.Name (Str.ofString "expected") _) _) _ _ _); refine lw_loc K X (by ((try dsimp only); (repeat (refine (if_neg (by decide)).trans ?_)); first | with_reducible assumption | exact if_pos rfl)) ?_) | ((with_reducible show wpAny _ _ (eval (Expr.Name (Str.ofString "len") _) _) _ _ _); refine lw_builtin (v := .builtin "len") K T₁ (by decide +kernel) (by rfl) ?_) | ((with_reducible show wpAny _ _ (eval (Expr.Name (Str.ofString "range") _) _) _ _ _); refine lw_builtin (v := .type "range") K T₁ (by decide +kernel) (by rfl) ?_) | ((with_reducible show wpAny _ _ (eval (Expr.Name (Str.ofString "all") _) _) _ _ _); refine lw_builtin (v := .builtin "all") K T₁ (by decide +kernel) (by rfl) ?_) | ((with_reducible show wpAny _ _ (eval (Expr.Name (Str.ofString "_law_pieces") _) _) _ _ _); refine lw_def K T₁ (by decide +kernel) ?_; intro _ _) | ((with_reducible show wpAny _ _ (eval (Expr.Name (Str.ofString "_law_pattern") _) _) _ _ _); refine lw_def K T₁ (by decide +kernel) ?_; intro _ _) | ((with_reducible show wpAny _ _ (eval (Expr.Name (Str.ofString "_law_column") _) _) _ _ _); refine lw_def K T₁ (by decide +kernel) ?_; intro _ _) | ((with_reducible show wpAny _ _ (eval (Expr.Name (Str.ofString "_law_fits") _) _) _ _ _); refine lw_def K T₁ (by decide +kernel) ?_; intro _ _) | walk1)
  rename_i rg h₄ tk₄ _ K₄ hR
  refine Lw.stL (by exact X.mono K₄) ?_
  intro h₅ tk₅ X₅ k₅
  have hp₅ : PiecesAt h₅ l ps := (hp₃.keeps K₄).but (X.mono K₄).F.ns k₅
  rw [List.size_toArray, hyl] at hR
  have hR₅ : IsRange h₅ rg 0 (ps.length + 1) 1 _ _ _ := k₅ _ _ (fun e => by
    obtain ⟨o, _, _, e', hd, _⟩ := (X.mono K₄).F.ns
    have hR' : h₄.get? rg = some _ := hR
    rw [e, e'] at hR'
    cases hR'
    cases hd) hR
  obtain ⟨ys₅, hys₅, hyl₅⟩ := hp₅.len
  clear K T₁ X
  have K : Keeps h₅ h₅ := Keeps.refl _
  have T₁ : Wd w mg h₅ := T.keeps X₅.F.keep
  have X := X₅
  repeat' (first | ((with_reducible show wpAny _ _ (eval (Expr.Name (Str.ofString "pieces") _) _) _ _ _); refine lw_cell K rfl X.p ?_) | ((with_reducible show wpAny _ _ (eval (Expr.Name (Str.ofString "pattern") _) _) _ _ _); refine lw_cell K rfl X.q ?_) | ((with_reducible show wpAny _ _ (eval (Expr.Name (Str.ofString "row") _) _) _ _ _); refine lw_cell K rfl X.r ?_) | ((with_reducible show wpAny _ _ (eval (Expr.Name (Str.ofString "script") _) _) _ _ _); refine lw_loc K X (by ((try dsimp only); (repeat (refine (if_neg (by decide)).trans ?_)); first | with_reducible assumption | exact if_pos rfl)) ?_) | ((with_reducible show wpAny _ _ (eval (Expr.Name (Str.ofString "counts") _) _) _ _ _); refine lw_loc K X (by ((try dsimp only); (repeat (refine (if_neg (by decide)).trans ?_)); first | with_reducible assumption | exact if_pos rfl)) ?_) | ((with_reducible show wpAny _ _ (eval (Expr.Name (Str.ofString "answers") _) _) _ _ _); refine lw_loc K X (by ((try dsimp only); (repeat (refine (if_neg (by decide)).trans ?_)); first | with_reducible assumption | exact if_pos rfl)) ?_) | ((with_reducible show wpAny _ _ (eval (Expr.Name (Str.ofString "expected") _) _) _ _ _); refine lw_loc K X (by ((try dsimp only); (repeat (refine (if_neg (by decide)).trans ?_)); first | with_reducible assumption | exact if_pos rfl)) ?_) | ((with_reducible show wpAny _ _ (eval (Expr.Name (Str.ofString "len") _) _) _ _ _); refine lw_builtin (v := .builtin "len") K T₁ (by decide +kernel) (by rfl) ?_) | ((with_reducible show wpAny _ _ (eval (Expr.Name (Str.ofString "range") _) _) _ _ _); refine lw_builtin (v := .type "range") K T₁ (by decide +kernel) (by rfl) ?_) | ((with_reducible show wpAny _ _ (eval (Expr.Name (Str.ofString "all") _) _) _ _ _); refine lw_builtin (v := .builtin "all") K T₁ (by decide +kernel) (by rfl) ?_) | ((with_reducible show wpAny _ _ (eval (Expr.Name (Str.ofString "_law_pieces") _) _) _ _ _); refine lw_def K T₁ (by decide +kernel) ?_; intro _ _) | ((with_reducible show wpAny _ _ (eval (Expr.Name (Str.ofString "_law_pattern") _) _) _ _ _); refine lw_def K T₁ (by decide +kernel) ?_; intro _ _) | ((with_reducible show wpAny _ _ (eval (Expr.Name (Str.ofString "_law_column") _) _) _ _ _); refine lw_def K T₁ (by decide +kernel) ?_; intro _ _) | ((with_reducible show wpAny _ _ (eval (Expr.Name (Str.ofString "_law_fits") _) _) _ _ _); refine lw_def K T₁ (by decide +kernel) ?_; intro _ _) | walk1)
  refine len_list (by exact hys₅) (by rw [List.size_toArray]; omega) ?_
  repeat' (first | ((with_reducible show wpAny _ _ (eval (Expr.Name (Str.ofString "pieces") _) _) _ _ _); refine lw_cell K rfl X.p ?_) | ((with_reducible show wpAny _ _ (eval (Expr.Name (Str.ofString "pattern") _) _) _ _ _); refine lw_cell K rfl X.q ?_) | ((with_reducible show wpAny _ _ (eval (Expr.Name (Str.ofString "row") _) _) _ _ _); refine lw_cell K rfl X.r ?_) | ((with_reducible show wpAny _ _ (eval (Expr.Name (Str.ofString "script") _) _) _ _ _); refine lw_loc K X (by ((try dsimp only); (repeat (refine (if_neg (by decide)).trans ?_)); first | with_reducible assumption | exact if_pos rfl)) ?_) | ((with_reducible show wpAny _ _ (eval (Expr.Name (Str.ofString "counts") _) _) _ _ _); refine lw_loc K X (by ((try dsimp only); (repeat (refine (if_neg (by decide)).trans ?_)); first | with_reducible assumption | exact if_pos rfl)) ?_) | ((with_reducible show wpAny _ _ (eval (Expr.Name (Str.ofString "answers") _) _) _ _ _); refine lw_loc K X (by ((try dsimp only); (repeat (refine (if_neg (by decide)).trans ?_)); first | with_reducible assumption | exact if_pos rfl)) ?_) | ((with_reducible show wpAny _ _ (eval (Expr.Name (Str.ofString "expected") _) _) _ _ _); refine lw_loc K X (by ((try dsimp only); (repeat (refine (if_neg (by decide)).trans ?_)); first | with_reducible assumption | exact if_pos rfl)) ?_) | ((with_reducible show wpAny _ _ (eval (Expr.Name (Str.ofString "len") _) _) _ _ _); refine lw_builtin (v := .builtin "len") K T₁ (by decide +kernel) (by rfl) ?_) | ((with_reducible show wpAny _ _ (eval (Expr.Name (Str.ofString "range") _) _) _ _ _); refine lw_builtin (v := .type "range") K T₁ (by decide +kernel) (by rfl) ?_) | ((with_reducible show wpAny _ _ (eval (Expr.Name (Str.ofString "all") _) _) _ _ _); refine lw_builtin (v := .builtin "all") K T₁ (by decide +kernel) (by rfl) ?_) | ((with_reducible show wpAny _ _ (eval (Expr.Name (Str.ofString "_law_pieces") _) _) _ _ _); refine lw_def K T₁ (by decide +kernel) ?_; intro _ _) | ((with_reducible show wpAny _ _ (eval (Expr.Name (Str.ofString "_law_pattern") _) _) _ _ _); refine lw_def K T₁ (by decide +kernel) ?_; intro _ _) | ((with_reducible show wpAny _ _ (eval (Expr.Name (Str.ofString "_law_column") _) _) _ _ _); refine lw_def K T₁ (by decide +kernel) ?_; intro _ _) | ((with_reducible show wpAny _ _ (eval (Expr.Name (Str.ofString "_law_fits") _) _) _ _ _); refine lw_def K T₁ (by decide +kernel) ?_; intro _ _) | walk1)
  refine column_spec T₁ (by assumption) (by walk_at "my room") (by decide) (by decide) (by omega) hp₅ hsm ?_
  intro x₆ u₆ h₆ tk₆ ex₆ hk₆
  rw [List.size_toArray, hyl₅, Int.toNat_natCast, List.take_length] at ex₆
  subst ex₆
  have K₆ := hk₆
  clear K
  have K : Keeps h₅ h₆ := hk₆
  repeat' (first | ((with_reducible show wpAny _ _ (eval (Expr.Name (Str.ofString "pieces") _) _) _ _ _); refine lw_cell K rfl X.p ?_) | ((with_reducible show wpAny _ _ (eval (Expr.Name (Str.ofString "pattern") _) _) _ _ _); refine lw_cell K rfl X.q ?_) | ((with_reducible show wpAny _ _ (eval (Expr.Name (Str.ofString "row") _) _) _ _ _); refine lw_cell K rfl X.r ?_) | ((with_reducible show wpAny _ _ (eval (Expr.Name (Str.ofString "script") _) _) _ _ _); refine lw_loc K X (by ((try dsimp only); (repeat (refine (if_neg (by decide)).trans ?_)); first | with_reducible assumption | exact if_pos rfl)) ?_) | ((with_reducible show wpAny _ _ (eval (Expr.Name (Str.ofString "counts") _) _) _ _ _); refine lw_loc K X (by ((try dsimp only); (repeat (refine (if_neg (by decide)).trans ?_)); first | with_reducible assumption | exact if_pos rfl)) ?_) | ((with_reducible show wpAny _ _ (eval (Expr.Name (Str.ofString "answers") _) _) _ _ _); refine lw_loc K X (by ((try dsimp only); (repeat (refine (if_neg (by decide)).trans ?_)); first | with_reducible assumption | exact if_pos rfl)) ?_) | ((with_reducible show wpAny _ _ (eval (Expr.Name (Str.ofString "expected") _) _) _ _ _); refine lw_loc K X (by ((try dsimp only); (repeat (refine (if_neg (by decide)).trans ?_)); first | with_reducible assumption | exact if_pos rfl)) ?_) | ((with_reducible show wpAny _ _ (eval (Expr.Name (Str.ofString "len") _) _) _ _ _); refine lw_builtin (v := .builtin "len") K T₁ (by decide +kernel) (by rfl) ?_) | ((with_reducible show wpAny _ _ (eval (Expr.Name (Str.ofString "range") _) _) _ _ _); refine lw_builtin (v := .type "range") K T₁ (by decide +kernel) (by rfl) ?_) | ((with_reducible show wpAny _ _ (eval (Expr.Name (Str.ofString "all") _) _) _ _ _); refine lw_builtin (v := .builtin "all") K T₁ (by decide +kernel) (by rfl) ?_) | ((with_reducible show wpAny _ _ (eval (Expr.Name (Str.ofString "_law_pieces") _) _) _ _ _); refine lw_def K T₁ (by decide +kernel) ?_; intro _ _) | ((with_reducible show wpAny _ _ (eval (Expr.Name (Str.ofString "_law_pattern") _) _) _ _ _); refine lw_def K T₁ (by decide +kernel) ?_; intro _ _) | ((with_reducible show wpAny _ _ (eval (Expr.Name (Str.ofString "_law_column") _) _) _ _ _); refine lw_def K T₁ (by decide +kernel) ?_; intro _ _) | ((with_reducible show wpAny _ _ (eval (Expr.Name (Str.ofString "_law_fits") _) _) _ _ _); refine lw_def K T₁ (by decide +kernel) ?_; intro _ _) | walk1)
  have hc0 : (patL (toL (colOf 0 ps))).length ≤ 1000 := by
    rw [hpat, length_toL]
    have := small_col hsm ps.length 1
    rw [List.take_length] at this
    omega
  refine pattern_spec (T₁.keeps hk₆) (by assumption) (by walk_at "my room") hc0 ?_
  intro x₇ u₇ h₇ tk₇ ex₇ hk₇
  subst ex₇
  refine Lw.stQ (by exact X.mono (Keeps.trans hk₆ hk₇)) ?_
  intro h₈ X₈ k₈
  show wpAny _ _ (execs rest _) _ _ _
  rw [show Int.toNat 0 = 0 from rfl, hpat, ofL_toL] at X₈
  refine h _ _ _ _ _ _ X₈ ((hp₅.keeps (Keeps.trans hk₆ hk₇)).butCell (X.mono (Keeps.trans hk₆ hk₇)).q k₈) ⟨_, _, k₈ _ _ (fun e => ?_) (hk₇ _ _ (hk₆ _ _ hR₅))⟩
  obtain ⟨o, e', hd⟩ := (X.mono (Keeps.trans hk₆ hk₇)).q
  have hR' := hk₇ _ _ (hk₆ _ _ hR₅)
  rw [e, e'] at hR'
  cases hR'
  cases hd
end

section

local macro_rules | `(tactic| walk_at "call type:range") => `(tactic| (refine range_k ?_; intro _ _ _ _ _ _))
theorem Lw.assign {h₀ h h' : Heap} {L : Nat} {m m' : Str → Option Value} {vp vq vr : Option Value} (X : Lw h₀ L h m vp vq vr) (hn : h'.Ns L m') (K : KeepsBut L h h') : Lw h₀ L h' m' vp vq vr where
  F := ⟨hn, fun b o e => K b o (fun q => by rw [q, Heap.get?_none_of_le X.F.above] at e; cases e) (X.F.keep b o e), X.F.above⟩
  p := let ⟨o, e, d⟩ := X.p; ⟨o, K _ o (by show L + 1 ≠ L; simp) e, d⟩
  q := let ⟨o, e, d⟩ := X.q; ⟨o, K _ o (by show L + 2 ≠ L; simp) e, d⟩
  r := let ⟨o, e, d⟩ := X.r; ⟨o, K _ o (by show L + 3 ≠ L; simp) e, d⟩
theorem range_but {h h' : Heap} {L rg : Addr} {m : Str → Option Value} {a b c : Int} {t u v : Tok} (K : KeepsBut L h h') (hn : h.Ns L m) (hr : IsRange h rg a b c t u v) : IsRange h' rg a b c t u v :=
  K _ _ (fun e => by
    obtain ⟨o, _, _, e', hd, _⟩ := hn
    have hr' : h.get? rg = some _ := hr
    rw [e, e'] at hr'
    cases hr'
    cases hd) hr
def ansB (ps : List Piece) (n : Nat) : Bool := matchB (colOf 1 ps) (colOf 3 (ps.take n))
theorem prep_col {ps : List Piece} (h : ∀ p ∈ ps, prepL (toL p.c) = toL p.d) : prepL (toL (colOf 2 ps)) = toL (colOf 3 ps) := by
  unfold colOf
  rw [toL_ofL, toL_ofL]
  induction ps with
  | nil => rfl
  | cons p r ih =>
    have ih' := ih fun q hq => h q (List.mem_cons_of_mem _ hq)
    have h1 := h p List.mem_cons_self
    rw [List.flatMap_cons, List.flatMap_cons, ← ih']
    show prepL (toL p.c ++ _) = toL p.d ++ _
    rw [← h1]
    unfold prepL
    rw [List.filter_append, List.flatMap_append]

set_option maxHeartbeats 4000000 in
theorem law_answers {w : World} {A : Around} {s : Shared} {mg : Str → Option Value} {Q : Value → Shared → Prop} {f : Addr} {L : Nat} {cd : Value} {d : DefItem} {h₁ : Heap} {tk₁ : Nat} {a : Addr}
    {st3 : Stmt} {rest : List Stmt} {ps : List Piece} {l rg : Addr} {t u t1 t2 : Tok}
    (hd : d = fnNo 19) (hb : d.body.drop 3 = st3 :: rest) (T : Wd w mg s.heap) (hA' : Ok 5 (A.deeper (envOfC d.name d.scope L f cd))) (hh' : (A.deeper (envOfC d.name d.scope L f cd)).handled = none)
    (hsm : Small ps) (hprep : ∀ p ∈ ps, prepL (toL p.c) = toL p.d)
    (X : Lw s.heap L h₁ (fun y => if y = "counts" then some (.ref rg) else if y = "script" then some (.ref a) else none) (some (.ref l)) (some (.str (colOf 1 ps) t)) none) (hp : PiecesAt h₁ l ps) (hR : IsRange h₁ rg 0 (ps.length + 1) 1 t1 u t2)
    (h : ∀ h₂ tk₂ D, Lw s.heap L h₂ (fun y => if y = "answers" then some (.ref D) else if y = "counts" then some (.ref rg) else if y = "script" then some (.ref a) else none) (some (.ref l)) (some (.str (colOf 1 ps) t)) none → PiecesAt h₂ l ps → IsRange h₂ rg 0 (ps.length + 1) 1 t1 u t2 →
      h₂.IsList D (bools ((List.range (ps.length + 1)).map (ansB ps))).toArray →
      wpAny (model Pg w) (A.deeper (envOfC d.name d.scope L f cd)) (execs rest (envOfC d.name d.scope L f cd)) (Back s.heap Q) (fun _ _ => False) { s with heap := h₂, toks := tk₂ }) :
    wpAny (model Pg w) (A.deeper (envOfC d.name d.scope L f cd)) (execs (st3 :: rest) (envOfC d.name d.scope L f cd)) (Back s.heap Q) (fun _ _ => False) { s with heap := h₁, toks := tk₁ } := by
  conv at hd => rhs; whnf
  subst hd
  dsimp only [List.drop] at hb hA' hh' h ⊢
  injection hb with e1 hb
  subst e1
  clear hb
  have K : Keeps h₁ h₁ := Keeps.refl _
  have T₁ : Wd w mg h₁ := T.keeps X.F.keep
  have hpl := hsm.1
  walk1
  refine comp_assign (cl := [("pieces", L + 1), ("pattern", L + 2)]) (fun _ => true) (fun v y => ∃ (j : Nat) (t : Tok), v = .int j t ∧ y = .bool (ansB ps j)) rfl (by rfl) (by rfl) (by rfl) ?_
  (first | ((with_reducible show wpAny _ _ (eval (Expr.Name (Str.ofString "pieces") _) _) _ _ _); refine lw_cell K rfl X.p ?_) | ((with_reducible show wpAny _ _ (eval (Expr.Name (Str.ofString "pattern") _) _) _ _ _); refine lw_cell K rfl X.q ?_) | ((with_reducible show wpAny _ _ (eval (Expr.Name (Str.ofString "row") _) _) _ _ _); refine lw_cell K rfl X.r ?_) | ((with_reducible show wpAny _ _ (eval (Expr.Name (Str.ofString "script") _) _) _ _ _); refine lw_loc K X (by ((try dsimp only); (repeat (refine (if_neg (by decide)).trans ?_)); first | with_reducible assumption | exact if_pos rfl)) ?_) | ((with_reducible show wpAny _ _ (eval (Expr.Name (Str.ofString "counts") _) _) _ _ _); refine lw_loc K X (by ((try dsimp only); (repeat (refine (if_neg (by decide)).trans ?_)); first | with_reducible assumption | exact if_pos rfl)) ?_) | ((with_reducible show wpAny _ _ (eval (Expr.Name (Str.ofString "answers") _) _) _ _ _); refine lw_loc K X (by ((try dsimp only); (repeat (refine (if_neg (by decide)).trans ?_)); first | with_reducible assumption | exact if_pos rfl)) ?_) | ((with_reducible show wpAny _ _ (eval (Expr.Name (Str.ofString "expected") _) _) _ _ _); refine lw_loc K X (by ((try dsimp only); (repeat (refine (if_neg (by decide)).trans ?_)); first | with_reducible assumption | exact if_pos rfl)) ?_) | ((with_reducible show wpAny _ _ (eval (Expr.Name (Str.ofString "len") _) _) _ _ _); refine lw_builtin (v := .builtin "len") K T₁ (by decide +kernel) (by rfl) ?_) | ((with_reducible show wpAny _ _ (eval (Expr.Name (Str.ofString "range") _) _) _ _ _); refine lw_builtin (v := .type "range") K T₁ (by decide +kernel) (by rfl) ?_) | ((with_reducible show wpAny _ _ (eval (Expr.Name (Str.ofString "all") _) _) _ _ _); refine lw_builtin (v := .builtin "all") K T₁ (by decide +kernel) (by rfl) ?_) | ((with_reducible show wpAny _ _ (eval (Expr.Name (Str.ofString "_law_pieces") _) _) _ _ _); refine lw_def K T₁ (by decide +kernel) ?_; intro _ _) | ((with_reducible show wpAny _ _ (eval (Expr.Name (Str.ofString "_law_pattern") _) _) _ _ _); refine lw_def K T₁ (by decide +kernel) ?_; intro _ _) | ((with_reducible show wpAny _ _ (eval (Expr.Name (Str.ofString "_law_column") _) _) _ _ _); refine lw_def K T₁ (by decide +kernel) ?_; intro _ _) | ((with_reducible show wpAny _ _ (eval (Expr.Name (Str.ofString "_law_fits") _) _) _ _ _); refine lw_def K T₁ (by decide +kernel) ?_; intro _ _) | walk1)
  refine ⟨_, _, _, Src.range hh' hR (small_one (by omega) (by omega) (by omega) (by omega)) (rangeSize_nat _ _), ?_, X.F.ns, Turn.noTests ?_, ?_⟩
  · unfold sizeLine; omega
  · intro C i v s₃ m E' hC hP hn hm hk
    clear K
    have K : Keeps s₃.heap s₃.heap := Keeps.refl _
    obtain ⟨hi, tj, rfl⟩ := hP
    rw [Int.zero_add] at hm
    have hcp : s₃.heap.IsCell (L + 1) (some (.ref l)) := X.p.keeps hk
    have hcq : s₃.heap.IsCell (L + 2) (some (.str (colOf 1 ps) t)) := X.q.keeps hk
    have T₃ : Wd w mg s₃.heap := T₁.keeps hk
    have hp₃ := hp.keeps hk
    repeat' walk1
    refine column_spec T₃ (by assumption) (by walk_at "my room") (by decide) (by decide) (by omega) hp₃ hsm ?_
    intro x₄ u₄ h₄ tk₄ ex₄ hk₄
    rw [Int.toNat_natCast] at ex₄
    subst ex₄
    have K₄ : Keeps s₃.heap h₄ := hk₄
    repeat' walk1
    have hpc := prep_col (ps := ps.take i) fun p hp => hprep p (List.mem_of_mem_take hp)
    have hs2 := small_col hsm i 2
    have hs3 := small_col hsm i 3
    have hs1 := small_col hsm ps.length 1
    rw [List.take_length] at hs1
    refine prepared_spec (T₃.keeps hk₄) (by assumption) (by walk_at "my room") (by show (colOf 2 _).length ≤ _; omega) (by show (prepL (toL (colOf 2 _))).length ≤ _; rw [hpc, length_toL]; omega) ?_
    intro x₅ u₅ h₅ tk₅ ex₅ hk₅
    rw [show ofL (prepL (toL (colOf (Int.toNat 2) (ps.take i)))) = colOf 3 (ps.take i) from (congrArg ofL hpc).trans (ofL_toL _)] at ex₅
    subst ex₅
    have K₅ : Keeps s₃.heap h₅ := Keeps.trans hk₄ hk₅
    repeat' walk1
    refine match_spec (T₃.keeps K₅) (by assumption) (by walk_at "my room") (by omega) (by omega) ?_
    intro b h₆ tk₆ eb hk₆
    exact ElEnd.mk (Keeps.trans K₅ hk₆) ⟨i, tj, by rw [Int.zero_add], by rw [eb]; rfl⟩
  · intro D h₄ tk₄ ys₄ vs hD hDL hDl hlen hvs hRR hN hk
    rw [filter_tt] at hRR
    have hys := paired_rows (n := ps.length + 1) (by rw [hlen]; omega) hvs hRR
    have Kb : KeepsBut L h₁ h₄ := hk
    refine h _ _ D (X.assign hN Kb) (hp.but X.F.ns Kb) (range_but Kb X.F.ns hR) ?_
    rw [← hys]
    exact hDl
end

section

theorem fitsL_len (g : List Nat) : ∀ (n : Nat) (w : List Nat), w.length ≤ n → ∀ r : List Bool, r.length = g.length + 1 → (fitsL g w r).length = g.length + 1 := by
  intro n
  induction n with
  | zero => intro w hw r hr; obtain rfl : w = [] := List.length_eq_zero_iff.mp (by omega); rw [fitsL]; exact hr
  | succ n ih =>
    intro w hw r hr
    cases w with
    | nil => rw [fitsL]; exact hr
    | cons c w =>
      rw [fitsL]
      simp only [List.length_cons] at hw
      split
      · exact ih _ (by rw [List.length_drop]; omega) _ (by rw [dots_len]; exact hr)
      · exact ih _ (by omega) _ (sign_len _ _ _)
def rowOf (ps : List Piece) : List Bool := fitsL (toL (colOf 3 ps)) (toL (colOf 1 ps)) (true :: List.replicate (colOf 3 ps).length false)
theorem rowOf_len (ps : List Piece) : (rowOf ps).length = (colOf 3 ps).length + 1 := by
  unfold rowOf
  rw [fitsL_len _ _ _ (Nat.le_refl _) _ (by rw [List.length_cons, List.length_replicate, length_toL]), length_toL]
theorem col_len_take (ps : List Piece) (k n : Nat) : (colOf k (ps.take n)).length ≤ (colOf k ps).length := by
  rw [← length_toL, ← length_toL]
  unfold colOf
  rw [toL_ofL, toL_ofL]
  conv => rhs; rw [← List.take_append_drop n ps]
  rw [List.flatMap_append, List.length_append]
  omega
def expB (ps : List Piece) (n : Nat) : Bool := (rowOf ps).getD (colOf 3 (ps.take n)).length false

set_option maxHeartbeats 4000000 in
theorem law_row {w : World} {A : Around} {s : Shared} {mg : Str → Option Value} {Q : Value → Shared → Prop} {f : Addr} {L : Nat} {cd : Value} {d : DefItem} {h₁ : Heap} {tk₁ : Nat} {m : Str → Option Value}
    {st4 : Stmt} {rest : List Stmt} {ps : List Piece} {l rg D : Addr} {its : Array Value} {vq : Option Value} {u t1 t2 : Tok}
    (hd : d = fnNo 19) (hb : d.body.drop 4 = st4 :: rest) (T : Wd w mg s.heap) (hA' : Ok 5 (A.deeper (envOfC d.name d.scope L f cd)))
    (hsm : Small ps) (X : Lw s.heap L h₁ m (some (.ref l)) vq none) (hp : PiecesAt h₁ l ps) (hR : IsRange h₁ rg 0 (ps.length + 1) 1 t1 u t2) (hD : h₁.IsList D its)
    (h : ∀ h₂ tk₂ r, Lw s.heap L h₂ m (some (.ref l)) vq (some (.ref r)) → PiecesAt h₂ l ps → IsRange h₂ rg 0 (ps.length + 1) 1 t1 u t2 → h₂.IsList D its → h₂.IsList r (bools (rowOf ps)).toArray →
      wpAny (model Pg w) (A.deeper (envOfC d.name d.scope L f cd)) (execs rest (envOfC d.name d.scope L f cd)) (Back s.heap Q) (fun _ _ => False) { s with heap := h₂, toks := tk₂ }) :
    wpAny (model Pg w) (A.deeper (envOfC d.name d.scope L f cd)) (execs (st4 :: rest) (envOfC d.name d.scope L f cd)) (Back s.heap Q) (fun _ _ => False) { s with heap := h₁, toks := tk₁ } := by
  conv at hd => rhs; whnf
  subst hd
  dsimp only [List.drop] at hb hA' h ⊢
  injection hb with e1 hb
  subst e1
  clear hb
  have K : Keeps h₁ h₁ := Keeps.refl _
  have T₁ : Wd w mg h₁ := T.keeps X.F.keep
  have hpl := hsm.1
  have hs1 := small_col hsm ps.length 1
  have hs3 := small_col hsm ps.length 3
  rw [List.take_length] at hs1 hs3
  obtain ⟨ys, hys, hyl⟩ := hp.len
  repeat' (first | ((with_reducible show wpAny _ _ (eval (Expr.Name (Str.ofString "pieces") _) _) _ _ _); refine lw_cell K rfl X.p ?_) | ((with_reducible show wpAny _ _ (eval (Expr.Name (Str.ofString "pattern") _) _) _ _ _); refine lw_cell K rfl X.q ?_) | ((with_reducible show wpAny _ _ (eval (Expr.Name (Str.ofString "row") _) _) _ _ _); refine lw_cell K rfl X.r ?_) | ((with_reducible show wpAny _ _ (eval (Expr.Name (Str.ofString "script") _) _) _ _ _); refine lw_loc K X (by ((try dsimp only); (repeat (refine (if_neg (by decide)).trans ?_)); first | with_reducible assumption | exact if_pos rfl)) ?_) | ((with_reducible show wpAny _ _ (eval (Expr.Name (Str.ofString "counts") _) _) _ _ _); refine lw_loc K X (by ((try dsimp only); (repeat (refine (if_neg (by decide)).trans ?_)); first | with_reducible assumption | exact if_pos rfl)) ?_) | ((with_reducible show wpAny _ _ (eval (Expr.Name (Str.ofString "answers") _) _) _ _ _); refine lw_loc K X (by ((try dsimp only); (repeat (refine (if_neg (by decide)).trans ?_)); first | with_reducible assumption | exact if_pos rfl)) ?_) | ((with_reducible show wpAny _ _ (eval (Expr.Name (Str.ofString "expected") _) _) _ _ _); refine lw_loc K X (by ((try dsimp only); (repeat (refine (if_neg (by decide)).trans ?_)); first | with_reducible assumption | exact if_pos rfl)) ?_) | ((with_reducible show wpAny _ _ (eval (Expr.Name (Str.ofString "len") _) _) _ _ _); refine lw_builtin (v := .builtin "len") K T₁ (by decide +kernel) (by rfl) ?_) | ((with_reducible show wpAny _ _ (eval (Expr.Name (Str.ofString "range") _) _) _ _ _); refine lw_builtin (v := .type "range") K T₁ (by decide +kernel) (by rfl) ?_) | ((with_reducible show wpAny _ _ (eval (Expr.Name (Str.ofString "all") _) _) _ _ _); refine lw_builtin (v := .builtin "all") K T₁ (by decide +kernel) (by rfl) ?_) | ((with_reducible show wpAny _ _ (eval (Expr.Name (Str.ofString "_law_pieces") _) _) _ _ _); refine lw_def K T₁ (by decide +kernel) ?_; intro _ _) | ((with_reducible show wpAny _ _ (eval (Expr.Name (Str.ofString "_law_pattern") _) _) _ _ _); refine lw_def K T₁ (by decide +kernel) ?_; intro _ _) | ((with_reducible show wpAny _ _ (eval (Expr.Name (Str.ofString "_law_column") _) _) _ _ _); refine lw_def K T₁ (by decide +kernel) ?_; intro _ _) | ((with_reducible show wpAny _ _ (eval (Expr.Name (Str.ofString "_law_fits") _) _) _ _ _); refine lw_def K T₁ (by decide +kernel) ?_; intro _ _) | walk1)
  refine len_list (by exact hys) (by rw [List.size_toArray]; omega) ?_
  repeat' (first | ((with_reducible show wpAny _ _ (eval (Expr.Name (Str.ofString "pieces") _) _) _ _ _); refine lw_cell K rfl X.p ?_) | ((with_reducible show wpAny _ _ (eval (Expr.Name (Str.ofString "pattern") _) _) _ _ _); refine lw_cell K rfl X.q ?_) | ((with_reducible show wpAny _ _ (eval (Expr.Name (Str.ofString "row") _) _) _ _ _); refine lw_cell K rfl X.r ?_) | ((with_reducible show wpAny _ _ (eval (Expr.Name (Str.ofString "script") _) _) _ _ _); refine lw_loc K X (by ((try dsimp only); (repeat (refine (if_neg (by decide)).trans ?_)); first | with_reducible assumption | exact if_pos rfl)) ?_) | ((with_reducible show wpAny _ _ (eval (Expr.Name (Str.ofString "counts") _) _) _ _ _); refine lw_loc K X (by ((try dsimp only); (repeat (refine (if_neg (by decide)).trans ?_)); first | with_reducible assumption | exact if_pos rfl)) ?_) | ((with_reducible show wpAny _ _ (eval (Expr.Name (Str.ofString "answers") _) _) _ _ _); refine lw_loc K X (by ((try dsimp only); (repeat (refine (if_neg (by decide)).trans ?_)); first | with_reducible assumption | exact if_pos rfl)) ?_) | ((with_reducible show wpAny _ _ (eval (Expr.Name (Str.ofString "expected") _) _) _ _ _); refine lw_loc K X (by ((try dsimp only); (repeat (refine (if_neg (by decide)).trans ?_)); first | with_reducible assumption | exact if_pos rfl)) ?_) | ((with_reducible show wpAny _ _ (eval (Expr.Name (Str.ofString "len") _) _) _ _ _); refine lw_builtin (v := .builtin "len") K T₁ (by decide +kernel) (by rfl) ?_) | ((with_reducible show wpAny _ _ (eval (Expr.Name (Str.ofString "range") _) _) _ _ _); refine lw_builtin (v := .type "range") K T₁ (by decide +kernel) (by rfl) ?_) | ((with_reducible show wpAny _ _ (eval (Expr.Name (Str.ofString "all") _) _) _ _ _); refine lw_builtin (v := .builtin "all") K T₁ (by decide +kernel) (by rfl) ?_) | ((with_reducible show wpAny _ _ (eval (Expr.Name (Str.ofString "_law_pieces") _) _) _ _ _); refine lw_def K T₁ (by decide +kernel) ?_; intro _ _) | ((with_reducible show wpAny _ _ (eval (Expr.Name (Str.ofString "_law_pattern") _) _) _ _ _); refine lw_def K T₁ (by decide +kernel) ?_; intro _ _) | ((with_reducible show wpAny _ _ (eval (Expr.Name (Str.ofString "_law_column") _) _) _ _ _); refine lw_def K T₁ (by decide +kernel) ?_; intro _ _) | ((with_reducible show wpAny _ _ (eval (Expr.Name (Str.ofString "_law_fits") _) _) _ _ _); refine lw_def K T₁ (by decide +kernel) ?_; intro _ _) | walk1)
  refine column_spec T₁ (by assumption) (by walk_at "my room") (by decide) (by decide) (by omega) hp hsm ?_
  intro x₂ u₂ h₂ tk₂ ex₂ hk₂
  rw [List.size_toArray, hyl, Int.toNat_natCast, List.take_length] at ex₂
  subst ex₂
  clear K
  have K : Keeps h₁ h₂ := hk₂
  have hys₂ := hys.at fun o e => K _ o e
  repeat' (first | ((with_reducible show wpAny _ _ (eval (Expr.Name (Str.ofString "pieces") _) _) _ _ _); refine lw_cell K rfl X.p ?_) | ((with_reducible show wpAny _ _ (eval (Expr.Name (Str.ofString "pattern") _) _) _ _ _); refine lw_cell K rfl X.q ?_) | ((with_reducible show wpAny _ _ (eval (Expr.Name (Str.ofString "row") _) _) _ _ _); refine lw_cell K rfl X.r ?_) | ((with_reducible show wpAny _ _ (eval (Expr.Name (Str.ofString "script") _) _) _ _ _); refine lw_loc K X (by ((try dsimp only); (repeat (refine (if_neg (by decide)).trans ?_)); first | with_reducible assumption | exact if_pos rfl)) ?_) | ((with_reducible show wpAny _ _ (eval (Expr.Name (Str.ofString "counts") _) _) _ _ _); refine lw_loc K X (by ((try dsimp only); (repeat (refine (if_neg (by decide)).trans ?_)); first | with_reducible assumption | exact if_pos rfl)) ?_) | ((with_reducible show wpAny _ _ (eval (Expr.Name (Str.ofString "answers") _) _) _ _ _); refine lw_loc K X (by ((try dsimp only); (repeat (refine (if_neg (by decide)).trans ?_)); first | with_reducible assumption | exact if_pos rfl)) ?_) | ((with_reducible show wpAny _ _ (eval (Expr.Name (Str.ofString "expected") _) _) _ _ _); refine lw_loc K X (by ((try dsimp only); (repeat (refine (if_neg (by decide)).trans ?_)); first | with_reducible assumption | exact if_pos rfl)) ?_) | ((with_reducible show wpAny _ _ (eval (Expr.Name (Str.ofString "len") _) _) _ _ _); refine lw_builtin (v := .builtin "len") K T₁ (by decide +kernel) (by rfl) ?_) | ((with_reducible show wpAny _ _ (eval (Expr.Name (Str.ofString "range") _) _) _ _ _); refine lw_builtin (v := .type "range") K T₁ (by decide +kernel) (by rfl) ?_) | ((with_reducible show wpAny _ _ (eval (Expr.Name (Str.ofString "all") _) _) _ _ _); refine lw_builtin (v := .builtin "all") K T₁ (by decide +kernel) (by rfl) ?_) | ((with_reducible show wpAny _ _ (eval (Expr.Name (Str.ofString "_law_pieces") _) _) _ _ _); refine lw_def K T₁ (by decide +kernel) ?_; intro _ _) | ((with_reducible show wpAny _ _ (eval (Expr.Name (Str.ofString "_law_pattern") _) _) _ _ _); refine lw_def K T₁ (by decide +kernel) ?_; intro _ _) | ((with_reducible show wpAny _ _ (eval (Expr.Name (Str.ofString "_law_column") _) _) _ _ _); refine lw_def K T₁ (by decide +kernel) ?_; intro _ _) | ((with_reducible show wpAny _ _ (eval (Expr.Name (Str.ofString "_law_fits") _) _) _ _ _); refine lw_def K T₁ (by decide +kernel) ?_; intro _ _) | walk1)
  refine len_list (by exact hys₂) (by rw [List.size_toArray]; omega) ?_
  repeat' (first | ((with_reducible show wpAny _ _ (eval (Expr.Name (Str.ofString "pieces") _) _) _ _ _); refine lw_cell K rfl X.p ?_) | ((with_reducible show wpAny _ _ (eval (Expr.Name (Str.ofString "pattern") _) _) _ _ _); refine lw_cell K rfl X.q ?_) | ((with_reducible show wpAny _ _ (eval (Expr.Name (Str.ofString "row") _) _) _ _ _); refine lw_cell K rfl X.r ?_) | ((with_reducible show wpAny _ _ (eval (Expr.Name (Str.ofString "script") _) _) _ _ _); refine lw_loc K X (by ((try dsimp only); (repeat (refine (if_neg (by decide)).trans ?_)); first | with_reducible assumption | exact if_pos rfl)) ?_) | ((with_reducible show wpAny _ _ (eval (Expr.Name (Str.ofString "counts") _) _) _ _ _); refine lw_loc K X (by ((try dsimp only); (repeat (refine (if_neg (by decide)).trans ?_)); first | with_reducible assumption | exact if_pos rfl)) ?_) | ((with_reducible show wpAny _ _ (eval (Expr.Name (Str.ofString "answers") _) _) _ _ _); refine lw_loc K X (by ((try dsimp only); (repeat (refine (if_neg (by decide)).trans ?_)); first | with_reducible assumption | exact if_pos rfl)) ?_) | ((with_reducible show wpAny _ _ (eval (Expr.Name (Str.ofString "expected") _) _) _ _ _); refine lw_loc K X (by ((try dsimp only); (repeat (refine (if_neg (by decide)).trans ?_)); first | with_reducible assumption | exact if_pos rfl)) ?_) | ((with_reducible show wpAny _ _ (eval (Expr.Name (Str.ofString "len") _) _) _ _ _); refine lw_builtin (v := .builtin "len") K T₁ (by decide +kernel) (by rfl) ?_) | ((with_reducible show wpAny _ _ (eval (Expr.Name (Str.ofString "range") _) _) _ _ _); refine lw_builtin (v := .type "range") K T₁ (by decide +kernel) (by rfl) ?_) | ((with_reducible show wpAny _ _ (eval (Expr.Name (Str.ofString "all") _) _) _ _ _); refine lw_builtin (v := .builtin "all") K T₁ (by decide +kernel) (by rfl) ?_) | ((with_reducible show wpAny _ _ (eval (Expr.Name (Str.ofString "_law_pieces") _) _) _ _ _); refine lw_def K T₁ (by decide +kernel) ?_; intro _ _) | ((with_reducible show wpAny _ _ (eval (Expr.Name (Str.ofString "_law_pattern") _) _) _ _ _); refine lw_def K T₁ (by decide +kernel) ?_; intro _ _) | ((with_reducible show wpAny _ _ (eval (Expr.Name (Str.ofString "_law_column") _) _) _ _ _); refine lw_def K T₁ (by decide +kernel) ?_; intro _ _) | ((with_reducible show wpAny _ _ (eval (Expr.Name (Str.ofString "_law_fits") _) _) _ _ _); refine lw_def K T₁ (by decide +kernel) ?_; intro _ _) | walk1)
  refine column_spec (T₁.keeps K) (by assumption) (by walk_at "my room") (by decide) (by decide) (by omega) (hp.keeps K) hsm ?_
  intro x₃ u₃ h₃ tk₃ ex₃ hk₃
  rw [List.size_toArray, hyl, Int.toNat_natCast, List.take_length] at ex₃
  subst ex₃
  have K₃ : Keeps h₁ h₃ := Keeps.trans hk₂ hk₃
  clear K
  have K := K₃
  repeat' (first | ((with_reducible show wpAny _ _ (eval (Expr.Name (Str.ofString "pieces") _) _) _ _ _); refine lw_cell K rfl X.p ?_) | ((with_reducible show wpAny _ _ (eval (Expr.Name (Str.ofString "pattern") _) _) _ _ _); refine lw_cell K rfl X.q ?_) | ((with_reducible show wpAny _ _ (eval (Expr.Name (Str.ofString "row") _) _) _ _ _); refine lw_cell K rfl X.r ?_) | ((with_reducible show wpAny _ _ (eval (Expr.Name (Str.ofString "script") _) _) _ _ _); refine lw_loc K X (by ((try dsimp only); (repeat (refine (if_neg (by decide)).trans ?_)); first | with_reducible assumption | exact if_pos rfl)) ?_) | ((with_reducible show wpAny _ _ (eval (Expr.Name (Str.ofString "counts") _) _) _ _ _); refine lw_loc K X (by ((try dsimp only); (repeat (refine (if_neg (by decide)).trans ?_)); first | with_reducible assumption | exact if_pos rfl)) ?_) | ((with_reducible show wpAny _ _ (eval (Expr.Name (Str.ofString "answers") _) _) _ _ _); refine lw_loc K X (by ((try dsimp only); (repeat (refine (if_neg (by decide)).trans ?_)); first | with_reducible assumption | exact if_pos rfl)) ?_) | ((with_reducible show wpAny _ _ (eval (Expr.Name (Str.ofString "expected") _) _) _ _ _); refine lw_loc K X (by ((try dsimp only); (repeat (refine (if_neg (by decide)).trans ?_)); first | with_reducible assumption | exact if_pos rfl)) ?_) | ((with_reducible show wpAny _ _ (eval (Expr.Name (Str.ofString "len") _) _) _ _ _); refine lw_builtin (v := .builtin "len") K T₁ (by decide +kernel) (by rfl) ?_) | ((with_reducible show wpAny _ _ (eval (Expr.Name (Str.ofString "range") _) _) _ _ _); refine lw_builtin (v := .type "range") K T₁ (by decide +kernel) (by rfl) ?_) | ((with_reducible show wpAny _ _ (eval (Expr.Name (Str.ofString "all") _) _) _ _ _); refine lw_builtin (v := .builtin "all") K T₁ (by decide +kernel) (by rfl) ?_) | ((with_reducible show wpAny _ _ (eval (Expr.Name (Str.ofString "_law_pieces") _) _) _ _ _); refine lw_def K T₁ (by decide +kernel) ?_; intro _ _) | ((with_reducible show wpAny _ _ (eval (Expr.Name (Str.ofString "_law_pattern") _) _) _ _ _); refine lw_def K T₁ (by decide +kernel) ?_; intro _ _) | ((with_reducible show wpAny _ _ (eval (Expr.Name (Str.ofString "_law_column") _) _) _ _ _); refine lw_def K T₁ (by decide +kernel) ?_; intro _ _) | ((with_reducible show wpAny _ _ (eval (Expr.Name (Str.ofString "_law_fits") _) _) _ _ _); refine lw_def K T₁ (by decide +kernel) ?_; intro _ _) | walk1)
  refine fits_spec (T₁.keeps K) (by assumption) (by walk_at "my room") (by show (colOf 1 ps).length ≤ _; omega) (by show (colOf 3 ps).length ≤ _; omega) ?_
  intro r h₄ tk₄ hr hk₄
  have K₄ := Keeps.trans K hk₄
  refine Lw.stR (by exact X.mono K₄) ?_
  intro h₅ X₅ k₅
  have hcell := (X.mono K₄).r
  show wpAny _ _ (execs rest _) _ _ _
  refine h _ _ _ X₅ ((hp.keeps K₄).butCell hcell k₅) (k₅ _ _ (fun e => ?_) (K₄ _ _ hR)) (list_same (hD.at fun o e => K₄ _ o e) hcell k₅) (list_same hr hcell k₅)
  obtain ⟨o, e', hd⟩ := hcell
  have hR' := K₄ _ _ hR
  rw [e, e'] at hR'
  cases hR'
  cases hd

set_option maxHeartbeats 4000000 in
theorem law_expected {w : World} {A : Around} {s : Shared} {mg : Str → Option Value} {Q : Value → Shared → Prop} {f : Addr} {L : Nat} {cd : Value} {d : DefItem} {h₁ : Heap} {tk₁ : Nat} {m : Str → Option Value}
    {st5 : Stmt} {rest : List Stmt} {ps : List Piece} {l rg D r : Addr} {its : Array Value} {vq : Option Value} {u t1 t2 : Tok}
    (hd : d = fnNo 19) (hb : d.body.drop 5 = st5 :: rest) (T : Wd w mg s.heap) (hA' : Ok 5 (A.deeper (envOfC d.name d.scope L f cd))) (hh' : (A.deeper (envOfC d.name d.scope L f cd)).handled = none)
    (hsm : Small ps) (X : Lw s.heap L h₁ m (some (.ref l)) vq (some (.ref r))) (hp : PiecesAt h₁ l ps) (hR : IsRange h₁ rg 0 (ps.length + 1) 1 t1 u t2) (hD : h₁.IsList D its) (hr : h₁.IsList r (bools (rowOf ps)).toArray) (hmc : m "counts" = some (.ref rg))
    (h : ∀ h₂ tk₂ E, Lw s.heap L h₂ (fun y => if y = "expected" then some (.ref E) else m y) (some (.ref l)) vq (some (.ref r)) → h₂.IsList D its → h₂.IsList E (bools ((List.range (ps.length + 1)).map (expB ps))).toArray →
      wpAny (model Pg w) (A.deeper (envOfC d.name d.scope L f cd)) (execs rest (envOfC d.name d.scope L f cd)) (Back s.heap Q) (fun _ _ => False) { s with heap := h₂, toks := tk₂ }) :
    wpAny (model Pg w) (A.deeper (envOfC d.name d.scope L f cd)) (execs (st5 :: rest) (envOfC d.name d.scope L f cd)) (Back s.heap Q) (fun _ _ => False) { s with heap := h₁, toks := tk₁ } := by
  conv at hd => rhs; whnf
  subst hd
  dsimp only [List.drop] at hb hA' hh' h ⊢
  injection hb with e1 hb
  subst e1
  clear hb
  have K : Keeps h₁ h₁ := Keeps.refl _
  have T₁ : Wd w mg h₁ := T.keeps X.F.keep
  have hpl := hsm.1
  walk1
  refine comp_assign (cl := [("row", L + 3), ("pieces", L + 1)]) (fun _ => true) (fun v y => ∃ (j : Nat) (t : Tok), v = .int j t ∧ y = .bool (expB ps j)) rfl (by rfl) (by rfl) (by rfl) ?_
  (first | ((with_reducible show wpAny _ _ (eval (Expr.Name (Str.ofString "pieces") _) _) _ _ _); refine lw_cell K rfl X.p ?_) | ((with_reducible show wpAny _ _ (eval (Expr.Name (Str.ofString "pattern") _) _) _ _ _); refine lw_cell K rfl X.q ?_) | ((with_reducible show wpAny _ _ (eval (Expr.Name (Str.ofString "row") _) _) _ _ _); refine lw_cell K rfl X.r ?_) | ((with_reducible show wpAny _ _ (eval (Expr.Name (Str.ofString "script") _) _) _ _ _); refine lw_loc K X (by ((try dsimp only); (repeat (refine (if_neg (by decide)).trans ?_)); first | with_reducible assumption | exact if_pos rfl)) ?_) | ((with_reducible show wpAny _ _ (eval (Expr.Name (Str.ofString "counts") _) _) _ _ _); refine lw_loc K X (by ((try dsimp only); (repeat (refine (if_neg (by decide)).trans ?_)); first | with_reducible assumption | exact if_pos rfl)) ?_) | ((with_reducible show wpAny _ _ (eval (Expr.Name (Str.ofString "answers") _) _) _ _ _); refine lw_loc K X (by ((try dsimp only); (repeat (refine (if_neg (by decide)).trans ?_)); first | with_reducible assumption | exact if_pos rfl)) ?_) | ((with_reducible show wpAny _ _ (eval (Expr.Name (Str.ofString "expected") _) _) _ _ _); refine lw_loc K X (by ((try dsimp only); (repeat (refine (if_neg (by decide)).trans ?_)); first | with_reducible assumption | exact if_pos rfl)) ?_) | ((with_reducible show wpAny _ _ (eval (Expr.Name (Str.ofString "len") _) _) _ _ _); refine lw_builtin (v := .builtin "len") K T₁ (by decide +kernel) (by rfl) ?_) | ((with_reducible show wpAny _ _ (eval (Expr.Name (Str.ofString "range") _) _) _ _ _); refine lw_builtin (v := .type "range") K T₁ (by decide +kernel) (by rfl) ?_) | ((with_reducible show wpAny _ _ (eval (Expr.Name (Str.ofString "all") _) _) _ _ _); refine lw_builtin (v := .builtin "all") K T₁ (by decide +kernel) (by rfl) ?_) | ((with_reducible show wpAny _ _ (eval (Expr.Name (Str.ofString "_law_pieces") _) _) _ _ _); refine lw_def K T₁ (by decide +kernel) ?_; intro _ _) | ((with_reducible show wpAny _ _ (eval (Expr.Name (Str.ofString "_law_pattern") _) _) _ _ _); refine lw_def K T₁ (by decide +kernel) ?_; intro _ _) | ((with_reducible show wpAny _ _ (eval (Expr.Name (Str.ofString "_law_column") _) _) _ _ _); refine lw_def K T₁ (by decide +kernel) ?_; intro _ _) | ((with_reducible show wpAny _ _ (eval (Expr.Name (Str.ofString "_law_fits") _) _) _ _ _); refine lw_def K T₁ (by decide +kernel) ?_; intro _ _) | walk1)
  refine ⟨_, _, _, Src.range hh' hR (small_one (by omega) (by omega) (by omega) (by omega)) (rangeSize_nat _ _), ?_, X.F.ns, Turn.noTests ?_, ?_⟩
  · unfold sizeLine; omega
  · intro C i v s₃ m E' hC hP hn hm hk
    clear K
    have K : Keeps s₃.heap s₃.heap := Keeps.refl _
    obtain ⟨hi, tj, rfl⟩ := hP
    rw [Int.zero_add] at hm
    have hcp : s₃.heap.IsCell (L + 1) (some (.ref l)) := X.p.keeps hk
    have hcr : s₃.heap.IsCell (L + 3) (some (.ref r)) := X.r.keeps hk
    have T₃ : Wd w mg s₃.heap := T₁.keeps hk
    have hp₃ := hp.keeps hk
    repeat' walk1
    refine column_spec T₃ (by assumption) (by walk_at "my room") (by decide) (by decide) (by omega) hp₃ hsm ?_
    intro x₄ u₄ h₄ tk₄ ex₄ hk₄
    rw [Int.toNat_natCast, show Int.toNat 3 = 3 from rfl] at ex₄
    subst ex₄
    have K₄ : Keeps s₃.heap h₄ := hk₄
    have hs3 := small_col hsm i 3
    have hct := col_len_take ps 3 i
    have hrl := rowOf_len ps
    have hr₄ : h₄.IsList r (bools (rowOf ps)).toArray := hr.at fun o e => hk₄ _ o (hk _ o e)
    repeat' walk1
    refine item_any (by exact hr₄) (by omega) (by omega) (v := .bool (expB ps i)) ?_ ?_
    · rw [Int.toNat_natCast, List.getElem?_toArray]
      unfold bools expB
      rw [List.getElem?_map, List.getD_eq_getElem?_getD, List.getElem?_eq_getElem (by omega)]
      rfl
    · exact ElEnd.mk K₄ ⟨i, tj, by rw [Int.zero_add], rfl⟩
  · intro D₄ h₄ tk₄ ys₄ vs hD₄ hDL hDl hlen hvs hRR hN hk
    rw [filter_tt] at hRR
    have hys := paired_rows (n := ps.length + 1) (by rw [hlen]; omega) hvs hRR
    have Kb : KeepsBut L h₁ h₄ := hk
    refine h _ _ D₄ (X.assign hN Kb) (Kb.list X.F.ns hD) ?_
    rw [← hys]
    exact hDl
end

section

theorem all_true : ∀ {vs ys : List Value}, Paired (fun _ y => y = Value.bool true) vs ys → ∃ bs : List Bool, LSm.BoolsAre ys bs ∧ bs.all id = true
  | _, _, .nil => ⟨[], .nil, rfl⟩
  | _, _, .cons a r => by
    obtain ⟨bs, h1, h2⟩ := all_true r
    subst a
    exact ⟨true :: bs, .cons true h1, by simpa using h2⟩
theorem eq_self (b : Bool) (A : Around) (s : Shared) : SeqAt.EqAt A s (.bool b) (.bool b) true := by
  have := SeqAt.EqAt.bool_bool (A := A) (s := s) b b
  rw [beq_self_eq_true] at this
  exact this
set_option maxHeartbeats 4000000 in
theorem law_ret {w : World} {A : Around} {s : Shared} {mg : Str → Option Value} {Q : Value → Shared → Prop} {f : Addr} {L : Nat} {cd : Value} {d : DefItem} {h₁ : Heap} {tk₁ : Nat} {m : Str → Option Value}
    {st6 : Stmt} {D E' : Addr} {bs : List Bool} {vp vq vr : Option Value}
    (hd : d = fnNo 19) (hb : d.body.drop 6 = [st6]) (T : Wd w mg s.heap) (hA' : Ok 5 (A.deeper (envOfC d.name d.scope L f cd))) (hh' : (A.deeper (envOfC d.name d.scope L f cd)).handled = none)
    (X : Lw s.heap L h₁ m vp vq vr) (hD : h₁.IsList D (bools bs).toArray) (hE : h₁.IsList E' (bools bs).toArray) (hbl : bs.length ≤ 100) (m1 : m "answers" = some (.ref D)) (m2 : m "expected" = some (.ref E'))
    (h : ∀ h' tk, Keeps s.heap h' → Q (.bool true) { s with heap := h', toks := tk }) :
    wpAny (model Pg w) (A.deeper (envOfC d.name d.scope L f cd)) (execs [st6] (envOfC d.name d.scope L f cd)) (Back s.heap Q) (fun _ _ => False) { s with heap := h₁, toks := tk₁ } := by
  conv at hd => rhs; whnf
  subst hd
  dsimp only [List.drop] at hb hA' hh' ⊢
  injection hb with e1 hb
  subst e1
  clear hb
  have K : Keeps h₁ h₁ := Keeps.refl _
  have T₁ : Wd w mg h₁ := T.keeps X.F.keep
  iterate 6 (first | ((with_reducible show wpAny _ _ (eval (Expr.Name (Str.ofString "pieces") _) _) _ _ _); refine lw_cell K rfl X.p ?_) | ((with_reducible show wpAny _ _ (eval (Expr.Name (Str.ofString "pattern") _) _) _ _ _); refine lw_cell K rfl X.q ?_) | ((with_reducible show wpAny _ _ (eval (Expr.Name (Str.ofString "row") _) _) _ _ _); refine lw_cell K rfl X.r ?_) | ((with_reducible show wpAny _ _ (eval (Expr.Name (Str.ofString "script") _) _) _ _ _); refine lw_loc K X (by ((try dsimp only); (repeat (refine (if_neg (by decide)).trans ?_)); first | with_reducible assumption | exact if_pos rfl)) ?_) | ((with_reducible show wpAny _ _ (eval (Expr.Name (Str.ofString "counts") _) _) _ _ _); refine lw_loc K X (by ((try dsimp only); (repeat (refine (if_neg (by decide)).trans ?_)); first | with_reducible assumption | exact if_pos rfl)) ?_) | ((with_reducible show wpAny _ _ (eval (Expr.Name (Str.ofString "answers") _) _) _ _ _); refine lw_loc K X (by ((try dsimp only); (repeat (refine (if_neg (by decide)).trans ?_)); first | with_reducible assumption | exact if_pos rfl)) ?_) | ((with_reducible show wpAny _ _ (eval (Expr.Name (Str.ofString "expected") _) _) _ _ _); refine lw_loc K X (by ((try dsimp only); (repeat (refine (if_neg (by decide)).trans ?_)); first | with_reducible assumption | exact if_pos rfl)) ?_) | ((with_reducible show wpAny _ _ (eval (Expr.Name (Str.ofString "len") _) _) _ _ _); refine lw_builtin (v := .builtin "len") K T₁ (by decide +kernel) (by rfl) ?_) | ((with_reducible show wpAny _ _ (eval (Expr.Name (Str.ofString "range") _) _) _ _ _); refine lw_builtin (v := .type "range") K T₁ (by decide +kernel) (by rfl) ?_) | ((with_reducible show wpAny _ _ (eval (Expr.Name (Str.ofString "all") _) _) _ _ _); refine lw_builtin (v := .builtin "all") K T₁ (by decide +kernel) (by rfl) ?_) | ((with_reducible show wpAny _ _ (eval (Expr.Name (Str.ofString "_law_pieces") _) _) _ _ _); refine lw_def K T₁ (by decide +kernel) ?_; intro _ _) | ((with_reducible show wpAny _ _ (eval (Expr.Name (Str.ofString "_law_pattern") _) _) _ _ _); refine lw_def K T₁ (by decide +kernel) ?_; intro _ _) | ((with_reducible show wpAny _ _ (eval (Expr.Name (Str.ofString "_law_column") _) _) _ _ _); refine lw_def K T₁ (by decide +kernel) ?_; intro _ _) | ((with_reducible show wpAny _ _ (eval (Expr.Name (Str.ofString "_law_fits") _) _) _ _ _); refine lw_def K T₁ (by decide +kernel) ?_; intro _ _) | walk1)
  refine SeqAt.eq_listAt (e := fun _ => true) (by exact hD) (by exact hE) rfl (by have := hA'.2.1; unfold cLine; omega) (fun j h1 h2 => ?_) ?_
  · have hg : ∃ b, (bools bs).toArray[j] = .bool b := by
      rw [List.getElem_toArray]
      unfold bools
      rw [List.getElem_map]
      exact ⟨_, rfl⟩
    obtain ⟨b, e⟩ := hg
    rw [e]
    exact eq_self b _ _
  · rw [List.all_eq_true.mpr (fun _ _ => rfl)]
    iterate 7 (first | ((with_reducible show wpAny _ _ (eval (Expr.Name (Str.ofString "pieces") _) _) _ _ _); refine lw_cell K rfl X.p ?_) | ((with_reducible show wpAny _ _ (eval (Expr.Name (Str.ofString "pattern") _) _) _ _ _); refine lw_cell K rfl X.q ?_) | ((with_reducible show wpAny _ _ (eval (Expr.Name (Str.ofString "row") _) _) _ _ _); refine lw_cell K rfl X.r ?_) | ((with_reducible show wpAny _ _ (eval (Expr.Name (Str.ofString "script") _) _) _ _ _); refine lw_loc K X (by ((try dsimp only); (repeat (refine (if_neg (by decide)).trans ?_)); first | with_reducible assumption | exact if_pos rfl)) ?_) | ((with_reducible show wpAny _ _ (eval (Expr.Name (Str.ofString "counts") _) _) _ _ _); refine lw_loc K X (by ((try dsimp only); (repeat (refine (if_neg (by decide)).trans ?_)); first | with_reducible assumption | exact if_pos rfl)) ?_) | ((with_reducible show wpAny _ _ (eval (Expr.Name (Str.ofString "answers") _) _) _ _ _); refine lw_loc K X (by ((try dsimp only); (repeat (refine (if_neg (by decide)).trans ?_)); first | with_reducible assumption | exact if_pos rfl)) ?_) | ((with_reducible show wpAny _ _ (eval (Expr.Name (Str.ofString "expected") _) _) _ _ _); refine lw_loc K X (by ((try dsimp only); (repeat (refine (if_neg (by decide)).trans ?_)); first | with_reducible assumption | exact if_pos rfl)) ?_) | ((with_reducible show wpAny _ _ (eval (Expr.Name (Str.ofString "len") _) _) _ _ _); refine lw_builtin (v := .builtin "len") K T₁ (by decide +kernel) (by rfl) ?_) | ((with_reducible show wpAny _ _ (eval (Expr.Name (Str.ofString "range") _) _) _ _ _); refine lw_builtin (v := .type "range") K T₁ (by decide +kernel) (by rfl) ?_) | ((with_reducible show wpAny _ _ (eval (Expr.Name (Str.ofString "all") _) _) _ _ _); refine lw_builtin (v := .builtin "all") K T₁ (by decide +kernel) (by rfl) ?_) | ((with_reducible show wpAny _ _ (eval (Expr.Name (Str.ofString "_law_pieces") _) _) _ _ _); refine lw_def K T₁ (by decide +kernel) ?_; intro _ _) | ((with_reducible show wpAny _ _ (eval (Expr.Name (Str.ofString "_law_pattern") _) _) _ _ _); refine lw_def K T₁ (by decide +kernel) ?_; intro _ _) | ((with_reducible show wpAny _ _ (eval (Expr.Name (Str.ofString "_law_column") _) _) _ _ _); refine lw_def K T₁ (by decide +kernel) ?_; intro _ _) | ((with_reducible show wpAny _ _ (eval (Expr.Name (Str.ofString "_law_fits") _) _) _ _ _); refine lw_def K T₁ (by decide +kernel) ?_; intro _ _) | walk1)
    refine comp_rule (cl := []) (fun _ => true) (fun _ y => y = .bool true) rfl ?_
    (first | ((with_reducible show wpAny _ _ (eval (Expr.Name (Str.ofString "pieces") _) _) _ _ _); refine lw_cell K rfl X.p ?_) | ((with_reducible show wpAny _ _ (eval (Expr.Name (Str.ofString "pattern") _) _) _ _ _); refine lw_cell K rfl X.q ?_) | ((with_reducible show wpAny _ _ (eval (Expr.Name (Str.ofString "row") _) _) _ _ _); refine lw_cell K rfl X.r ?_) | ((with_reducible show wpAny _ _ (eval (Expr.Name (Str.ofString "script") _) _) _ _ _); refine lw_loc K X (by ((try dsimp only); (repeat (refine (if_neg (by decide)).trans ?_)); first | with_reducible assumption | exact if_pos rfl)) ?_) | ((with_reducible show wpAny _ _ (eval (Expr.Name (Str.ofString "counts") _) _) _ _ _); refine lw_loc K X (by ((try dsimp only); (repeat (refine (if_neg (by decide)).trans ?_)); first | with_reducible assumption | exact if_pos rfl)) ?_) | ((with_reducible show wpAny _ _ (eval (Expr.Name (Str.ofString "answers") _) _) _ _ _); refine lw_loc K X (by ((try dsimp only); (repeat (refine (if_neg (by decide)).trans ?_)); first | with_reducible assumption | exact if_pos rfl)) ?_) | ((with_reducible show wpAny _ _ (eval (Expr.Name (Str.ofString "expected") _) _) _ _ _); refine lw_loc K X (by ((try dsimp only); (repeat (refine (if_neg (by decide)).trans ?_)); first | with_reducible assumption | exact if_pos rfl)) ?_) | ((with_reducible show wpAny _ _ (eval (Expr.Name (Str.ofString "len") _) _) _ _ _); refine lw_builtin (v := .builtin "len") K T₁ (by decide +kernel) (by rfl) ?_) | ((with_reducible show wpAny _ _ (eval (Expr.Name (Str.ofString "range") _) _) _ _ _); refine lw_builtin (v := .type "range") K T₁ (by decide +kernel) (by rfl) ?_) | ((with_reducible show wpAny _ _ (eval (Expr.Name (Str.ofString "all") _) _) _ _ _); refine lw_builtin (v := .builtin "all") K T₁ (by decide +kernel) (by rfl) ?_) | ((with_reducible show wpAny _ _ (eval (Expr.Name (Str.ofString "_law_pieces") _) _) _ _ _); refine lw_def K T₁ (by decide +kernel) ?_; intro _ _) | ((with_reducible show wpAny _ _ (eval (Expr.Name (Str.ofString "_law_pattern") _) _) _ _ _); refine lw_def K T₁ (by decide +kernel) ?_; intro _ _) | ((with_reducible show wpAny _ _ (eval (Expr.Name (Str.ofString "_law_column") _) _) _ _ _); refine lw_def K T₁ (by decide +kernel) ?_; intro _ _) | ((with_reducible show wpAny _ _ (eval (Expr.Name (Str.ofString "_law_fits") _) _) _ _ _); refine lw_def K T₁ (by decide +kernel) ?_; intro _ _) | walk1)
    refine ⟨_, _, Src.list hh' (by exact hD), ?_, Turn.noTests ?_, ?_⟩
    · rw [List.size_toArray, bools_len]; unfold sizeLine; omega
    · intro C i v s₃ m' E₃ hC hP hn hm hk
      clear K
      have K : Keeps s₃.heap s₃.heap := Keeps.refl _
      have T₃ : Wd w mg s₃.heap := T₁.keeps hk
      obtain ⟨b, rfl⟩ : ∃ b, v = .bool b := by
        obtain ⟨b, _, e⟩ := List.mem_map.mp (List.mem_of_getElem? (show (bools bs)[i]? = some v by simpa using hP))
        exact ⟨b, e.symm⟩
      repeat' (first | ((with_reducible show wpAny _ _ (eval (Expr.Name (Str.ofString "isinstance") _) _) _ _ _); refine cnm_builtin (v := .builtin "isinstance") K T₃ rfl rfl (by decide +kernel) (by rfl) ?_) | ((with_reducible show wpAny _ _ (eval (Expr.Name (Str.ofString "bool") _) _) _ _ _); refine cnm_builtin (v := .type "bool") K T₃ rfl rfl (by decide +kernel) (by rfl) ?_) | walk1)
      exact ElEnd.mk K rfl
    · intro D₄ h₄ tk₄ c ys₄ vs hD₄ hDl hlen hvs hRR hk
      rw [filter_tt] at hRR
      repeat' (first | ((with_reducible show wpAny _ _ (eval (Expr.Name (Str.ofString "pieces") _) _) _ _ _); refine lw_cell K rfl X.p ?_) | ((with_reducible show wpAny _ _ (eval (Expr.Name (Str.ofString "pattern") _) _) _ _ _); refine lw_cell K rfl X.q ?_) | ((with_reducible show wpAny _ _ (eval (Expr.Name (Str.ofString "row") _) _) _ _ _); refine lw_cell K rfl X.r ?_) | ((with_reducible show wpAny _ _ (eval (Expr.Name (Str.ofString "script") _) _) _ _ _); refine lw_loc K X (by ((try dsimp only); (repeat (refine (if_neg (by decide)).trans ?_)); first | with_reducible assumption | exact if_pos rfl)) ?_) | ((with_reducible show wpAny _ _ (eval (Expr.Name (Str.ofString "counts") _) _) _ _ _); refine lw_loc K X (by ((try dsimp only); (repeat (refine (if_neg (by decide)).trans ?_)); first | with_reducible assumption | exact if_pos rfl)) ?_) | ((with_reducible show wpAny _ _ (eval (Expr.Name (Str.ofString "answers") _) _) _ _ _); refine lw_loc K X (by ((try dsimp only); (repeat (refine (if_neg (by decide)).trans ?_)); first | with_reducible assumption | exact if_pos rfl)) ?_) | ((with_reducible show wpAny _ _ (eval (Expr.Name (Str.ofString "expected") _) _) _ _ _); refine lw_loc K X (by ((try dsimp only); (repeat (refine (if_neg (by decide)).trans ?_)); first | with_reducible assumption | exact if_pos rfl)) ?_) | ((with_reducible show wpAny _ _ (eval (Expr.Name (Str.ofString "len") _) _) _ _ _); refine lw_builtin (v := .builtin "len") K T₁ (by decide +kernel) (by rfl) ?_) | ((with_reducible show wpAny _ _ (eval (Expr.Name (Str.ofString "range") _) _) _ _ _); refine lw_builtin (v := .type "range") K T₁ (by decide +kernel) (by rfl) ?_) | ((with_reducible show wpAny _ _ (eval (Expr.Name (Str.ofString "all") _) _) _ _ _); refine lw_builtin (v := .builtin "all") K T₁ (by decide +kernel) (by rfl) ?_) | ((with_reducible show wpAny _ _ (eval (Expr.Name (Str.ofString "_law_pieces") _) _) _ _ _); refine lw_def K T₁ (by decide +kernel) ?_; intro _ _) | ((with_reducible show wpAny _ _ (eval (Expr.Name (Str.ofString "_law_pattern") _) _) _ _ _); refine lw_def K T₁ (by decide +kernel) ?_; intro _ _) | ((with_reducible show wpAny _ _ (eval (Expr.Name (Str.ofString "_law_column") _) _) _ _ _); refine lw_def K T₁ (by decide +kernel) ?_; intro _ _) | ((with_reducible show wpAny _ _ (eval (Expr.Name (Str.ofString "_law_fits") _) _) _ _ _); refine lw_def K T₁ (by decide +kernel) ?_; intro _ _) | walk1)
      obtain ⟨bs', hbs', hall⟩ := all_true hRR
      refine LSm.all_bools (vs := ys₄.toList) (by exact frKept X.F hk) News.nil hh' ⟨_, hDl, rfl, c, rfl⟩ hbs' ?_
      intro h₅ tk₅ F₅ N₅
      rw [hall]
      repeat' (first | ((with_reducible show wpAny _ _ (eval (Expr.Name (Str.ofString "pieces") _) _) _ _ _); refine lw_cell K rfl X.p ?_) | ((with_reducible show wpAny _ _ (eval (Expr.Name (Str.ofString "pattern") _) _) _ _ _); refine lw_cell K rfl X.q ?_) | ((with_reducible show wpAny _ _ (eval (Expr.Name (Str.ofString "row") _) _) _ _ _); refine lw_cell K rfl X.r ?_) | ((with_reducible show wpAny _ _ (eval (Expr.Name (Str.ofString "script") _) _) _ _ _); refine lw_loc K X (by ((try dsimp only); (repeat (refine (if_neg (by decide)).trans ?_)); first | with_reducible assumption | exact if_pos rfl)) ?_) | ((with_reducible show wpAny _ _ (eval (Expr.Name (Str.ofString "counts") _) _) _ _ _); refine lw_loc K X (by ((try dsimp only); (repeat (refine (if_neg (by decide)).trans ?_)); first | with_reducible assumption | exact if_pos rfl)) ?_) | ((with_reducible show wpAny _ _ (eval (Expr.Name (Str.ofString "answers") _) _) _ _ _); refine lw_loc K X (by ((try dsimp only); (repeat (refine (if_neg (by decide)).trans ?_)); first | with_reducible assumption | exact if_pos rfl)) ?_) | ((with_reducible show wpAny _ _ (eval (Expr.Name (Str.ofString "expected") _) _) _ _ _); refine lw_loc K X (by ((try dsimp only); (repeat (refine (if_neg (by decide)).trans ?_)); first | with_reducible assumption | exact if_pos rfl)) ?_) | ((with_reducible show wpAny _ _ (eval (Expr.Name (Str.ofString "len") _) _) _ _ _); refine lw_builtin (v := .builtin "len") K T₁ (by decide +kernel) (by rfl) ?_) | ((with_reducible show wpAny _ _ (eval (Expr.Name (Str.ofString "range") _) _) _ _ _); refine lw_builtin (v := .type "range") K T₁ (by decide +kernel) (by rfl) ?_) | ((with_reducible show wpAny _ _ (eval (Expr.Name (Str.ofString "all") _) _) _ _ _); refine lw_builtin (v := .builtin "all") K T₁ (by decide +kernel) (by rfl) ?_) | ((with_reducible show wpAny _ _ (eval (Expr.Name (Str.ofString "_law_pieces") _) _) _ _ _); refine lw_def K T₁ (by decide +kernel) ?_; intro _ _) | ((with_reducible show wpAny _ _ (eval (Expr.Name (Str.ofString "_law_pattern") _) _) _ _ _); refine lw_def K T₁ (by decide +kernel) ?_; intro _ _) | ((with_reducible show wpAny _ _ (eval (Expr.Name (Str.ofString "_law_column") _) _) _ _ _); refine lw_def K T₁ (by decide +kernel) ?_; intro _ _) | ((with_reducible show wpAny _ _ (eval (Expr.Name (Str.ofString "_law_fits") _) _) _ _ _); refine lw_def K T₁ (by decide +kernel) ?_; intro _ _) | walk1)
      exact Back.ret F₅ (fun hk => h _ _ hk)

set_option maxHeartbeats 4000000 in
theorem law_spec {w : World} {A : Around} {E : Value → Shared → Prop} {s : Shared} {mg : Str → Option Value} {Q : Value → Shared → Prop} {f : Addr} {a : Addr} {vs : List Value} {ns : List Int}
    (T : Wd w mg s.heap) (hf : mg "law" = some (.ref f)) (hA : Ok 6 A) (hl : s.heap.IsList a vs.toArray) (hi : IntsAre vs ns) (hlen : ns.length ≤ 63) {ps : List Piece} (hps : ps = frontOf ns.sum ++ (ns.take 10).map pieceOf) (hsm : Small ps) (hpat : patL (toL (colOf 0 ps)) = toL (colOf 1 ps)) (hprep : ∀ p ∈ ps, prepL (toL p.c) = toL p.d) (hlaw : ∀ n, n ≤ ps.length → ansB ps n = expB ps n)
    (h : ∀ h' tk, Keeps s.heap h' → Q (.bool true) { s with heap := h', toks := tk }) :
    wpAny (model Pg w) A (call (.ref f) [.ref a]) Q E s := by
  obtain ⟨d, hd⟩ : ∃ d, d = fnNo 19 := ⟨_, rfl⟩
  have hfind : itemNamed "law" = some d := by rw [hd]; rfl
  conv at hd => rhs; whnf
  subst hd
  refine call_itemC (binds := [("script", .ref a)]) T hf hfind hA (fun _ _ _ => by rfl) (fun L => by intro x hx; simp only [List.mem_cons, List.not_mem_nil, or_false] at hx; rcases hx with rfl; exact Or.inl rfl) (by decide) (fun h₁ tk L cd cells hL F N X hA' hh' => ?_)
  clear hfind
  dsimp only at hA' hh' ⊢
  obtain ⟨or, oq, op, rfl, hor, hoq, hop⟩ : ∃ or oq op, cells = [(L + 3, or), (L + 2, oq), (L + 1, op)] ∧ or.data = .cell none ∧ oq.data = .cell none ∧ op.data = .cell none := by
    cases X with
    | cons a X => cases X with
      | cons b X => cases X with
        | cons c X => cases X; exact ⟨_, _, _, rfl, a, b, c⟩
  have X₁ : Lw s.heap L h₁ (fun y => if y = "script" then some (.ref a) else none) none none none := ⟨F, ⟨op, N.get (by simp), hop⟩, ⟨oq, N.get (by simp), hoq⟩, ⟨or, N.get (by simp), hor⟩⟩
  refine law_head (d := fnNo 19) rfl rfl T hA' hh' hl hi hlen hps hsm hpat X₁ ?_
  intro h₂ tk₂ l rg t u X₂ hp₂ hR₂
  obtain ⟨t1, t2, hR₂⟩ := hR₂
  refine law_answers (d := fnNo 19) rfl rfl T hA' hh' hsm hprep X₂ hp₂ hR₂ ?_
  intro h₃ tk₃ D X₃ hp₃ hR₃ hD₃
  refine law_row (d := fnNo 19) rfl rfl T hA' hsm X₃ hp₃ hR₃ hD₃ ?_
  intro h₄ tk₄ r X₄ hp₄ hR₄ hD₄ hr₄
  refine law_expected (d := fnNo 19) rfl rfl T hA' hh' hsm X₄ hp₄ hR₄ hD₄ hr₄ ((if_neg (by decide)).trans (if_pos rfl)) ?_
  intro h₅ tk₅ E' X₅ hD₅ hE₅
  have e : (List.range (ps.length + 1)).map (expB ps) = (List.range (ps.length + 1)).map (ansB ps) := List.map_congr_left fun n hn => (hlaw n (by have := List.mem_range.mp hn; omega)).symm
  rw [e] at hE₅
  exact law_ret (d := fnNo 19) rfl rfl T hA' hh' X₅ hD₅ hE₅ (by rw [List.length_map, List.length_range]; have := hsm.1; omega) ((if_neg (by decide)).trans (if_pos rfl)) (if_pos rfl) h
end

end Mine
end

section
open PySem PySem.W PyProof.Rows PySem.Calls
namespace Mine
set_option maxRecDepth 100000
def spOk (l h : Nat) : Bool := let c := (spelledI (l : Int) (h : Int)).toNat; decide (patOf c = [97 + l]) && (keepB c && decide (toL (foldOf c) = [97 + l]))
def btw (a b i : Nat) : Bool := Nat.ble a i && Nat.ble i b
def inFb (i : Nat) : Bool := btw 832 833 i || btw 8206 8207 i || btw 8234 8238 i || btw 8298 8303 i || btw 12272 12283 i || btw 64976 65007 i || btw 65529 65535 i || btw 917505 917505 i || btw 917536 917631 i || (Nat.ble 65536 i && Nat.ble 65534 (i % 65536))
def keyOk : PyData × PyData → Bool
  | (.int i, _) => match i with
    | .ofNat n => !inFb n
    | _ => true
  | _ => false
theorem keysOk : b3D.all keyOk = true := by decide +kernel
def fbOk (k : Nat) : Bool := let c := (forbiddenI (k : Int)).toNat; maskedB c && (keepB c && (inFb c && decide (toL (Txt.lower ⟨#[c]⟩) = [c])))
def ntOk (k : Nat) : Bool := let c := (nothingI (k : Int)).toNat; !maskedB c && !keepB c
theorem spTab : ((List.range 2).all fun l => (List.range 12).all fun h => spOk l h) = true := by decide +kernel
theorem ntTab : ((List.range 27).all fun h => ntOk h) = true := by decide +kernel
theorem fbTab0 : ((List.range 15).all fun h => fbOk (0 + h)) = true := by decide +kernel
theorem fbTab1 : ((List.range 15).all fun h => fbOk (15 + h)) = true := by decide +kernel
theorem fbTab2 : ((List.range 15).all fun h => fbOk (30 + h)) = true := by decide +kernel
theorem fbTab3 : ((List.range 15).all fun h => fbOk (45 + h)) = true := by decide +kernel
theorem fbTab4 : ((List.range 15).all fun h => fbOk (60 + h)) = true := by decide +kernel
theorem fbTab5 : ((List.range 15).all fun h => fbOk (75 + h)) = true := by decide +kernel
theorem fbTab6 : ((List.range 15).all fun h => fbOk (90 + h)) = true := by decide +kernel
theorem fbTab7 : ((List.range 15).all fun h => fbOk (105 + h)) = true := by decide +kernel
theorem fbTab8 : ((List.range 15).all fun h => fbOk (120 + h)) = true := by decide +kernel
theorem fbTab9 : ((List.range 15).all fun h => fbOk (135 + h)) = true := by decide +kernel
theorem fbTab10 : ((List.range 15).all fun h => fbOk (150 + h)) = true := by decide +kernel
theorem fbTab11 : ((List.range 15).all fun h => fbOk (165 + h)) = true := by decide +kernel
theorem fbTab12 : ((List.range 15).all fun h => fbOk (180 + h)) = true := by decide +kernel
theorem fbAll (n : Nat) (h : n < 195) : fbOk n = true := by
  have key : ∀ b, ((List.range 15).all fun h => fbOk (b + h)) = true → b ≤ n → n < b + 15 → fbOk n = true := fun b hb h1 h2 => by
    have h3 := List.all_eq_true.mp hb (n - b) (List.mem_range.mpr (by omega))
    rwa [show b + (n - b) = n by omega] at h3
  by_cases h0 : n < 15
  · exact key 0 fbTab0 (by omega) (by omega)
  by_cases h1 : n < 30
  · exact key 15 fbTab1 (by omega) (by omega)
  by_cases h2 : n < 45
  · exact key 30 fbTab2 (by omega) (by omega)
  by_cases h3 : n < 60
  · exact key 45 fbTab3 (by omega) (by omega)
  by_cases h4 : n < 75
  · exact key 60 fbTab4 (by omega) (by omega)
  by_cases h5 : n < 90
  · exact key 75 fbTab5 (by omega) (by omega)
  by_cases h6 : n < 105
  · exact key 90 fbTab6 (by omega) (by omega)
  by_cases h7 : n < 120
  · exact key 105 fbTab7 (by omega) (by omega)
  by_cases h8 : n < 135
  · exact key 120 fbTab8 (by omega) (by omega)
  by_cases h9 : n < 150
  · exact key 135 fbTab9 (by omega) (by omega)
  by_cases h10 : n < 165
  · exact key 150 fbTab10 (by omega) (by omega)
  by_cases h11 : n < 180
  · exact key 165 fbTab11 (by omega) (by omega)
  · exact key 180 fbTab12 (by omega) (by omega)
end Mine
end

section
open PySem PySem.W PyProof.Rows PySem.Calls
namespace Mine
set_option maxRecDepth 100000
theorem fm (k n : Int) (h : 0 < n) : k.fmod n = k % n := Int.fmod_eq_emod_of_nonneg _ (by omega)
theorem of_all {n : Nat} {f : Nat → Bool} (h : (List.range n).all f = true) (k : Nat) (hk : k < n) : f k = true := List.all_eq_true.mp h k (List.mem_range.mpr hk)

theorem lookup_none {c : Nat} (hc : inFb c = true) : ∀ D : List (PyData × PyData), D.all keyOk = true → PySem.Spec.lookup (.int c) D = none
  | [], _ => rfl
  | (a, b) :: r, h => by
    rw [List.all_cons, Bool.and_eq_true] at h
    have ih := lookup_none hc r h.2
    unfold PySem.Spec.lookup
    rw [if_neg, ih]
    have h1 := h.1
    cases a with
    | int i =>
      rw [PyProof.V.same_int]
      simp only [decide_eq_true_eq]
      rintro rfl
      have h2 : (!inFb c) = true := h1
      rw [hc] at h2
      cases h2
    | _ => cases h1

theorem sp_ok (l k : Int) (h0 : 0 ≤ l) (h1 : l ≤ 1) : patOf (spelledI l k).toNat = [(97 + l).toNat] ∧ keepB (spelledI l k).toNat = true ∧ toL (foldOf (spelledI l k).toNat) = [(97 + l).toNat] := by
  have hm := fmod_lt (k := k) (m := 12) (by decide)
  have e : spelledI l k = spelledI ((l.toNat : Nat) : Int) (((k.fmod 12).toNat : Nat) : Int) := by
    rw [Int.toNat_of_nonneg h0, Int.toNat_of_nonneg hm.1]
    have e2 : (k.fmod 12).fmod 12 = k.fmod 12 := by
      have := fm k 12 (by decide)
      have e3 := fm (k.fmod 12) 12 (by decide)
      omega
    unfold spelledI
    rw [e2]
  have h := of_all (of_all spTab l.toNat (by omega)) (k.fmod 12).toNat (by omega)
  unfold spOk at h
  rw [← e] at h
  simp only [Bool.and_eq_true, decide_eq_true_eq] at h
  have e4 : (97 + l).toNat = 97 + l.toNat := by omega
  rw [e4]
  exact ⟨h.1, h.2.1, h.2.2⟩

theorem fb_ok (k : Int) : maskedB (forbiddenI k).toNat = true ∧ keepB (forbiddenI k).toNat = true ∧ toL (foldOf (forbiddenI k).toNat) = [(forbiddenI k).toNat] := by
  have hm := fmod_lt (k := k) (m := 195) (by decide)
  have e : forbiddenI k = forbiddenI (((k.fmod 195).toNat : Nat) : Int) := by
    rw [Int.toNat_of_nonneg hm.1]
    have e2 : (k.fmod 195).fmod 195 = k.fmod 195 := by
      have := fm k 195 (by decide)
      have e3 := fm (k.fmod 195) 195 (by decide)
      omega
    unfold forbiddenI
    rw [e2]
  have h : fbOk (k.fmod 195).toNat = true := by
    generalize hn : (k.fmod 195).toNat = n
    have hlt : n < 195 := by omega
    exact fbAll n hlt
  unfold fbOk at h
  rw [← e] at h
  simp only [Bool.and_eq_true, decide_eq_true_eq] at h
  refine ⟨h.1, h.2.1, ?_⟩
  unfold foldOf
  rw [lookup_none h.2.2.1 _ keysOk]
  exact h.2.2.2

theorem nt_ok (k : Int) : maskedB (nothingI k).toNat = false ∧ keepB (nothingI k).toNat = false := by
  have hm := fmod_lt (k := k) (m := 27) (by decide)
  have e : nothingI k = nothingI (((k.fmod 27).toNat : Nat) : Int) := by
    rw [Int.toNat_of_nonneg hm.1]
    have e2 : (k.fmod 27).fmod 27 = k.fmod 27 := by
      have := fm k 27 (by decide)
      have e3 := fm (k.fmod 27) 27 (by decide)
      omega
    unfold nothingI
    rw [e2]
  have h := of_all ntTab (k.fmod 27).toNat (by omega)
  unfold ntOk at h
  rw [← e] at h
  simpa using h

theorem patL_cons (c : Nat) (r : List Nat) : patL (c :: r) = patOf c ++ patL r := by unfold patL; rw [List.flatMap_cons]
theorem prepL_cons (c : Nat) (r : List Nat) : prepL (c :: r) = (if keepB c = true then toL (foldOf c) else []) ++ prepL r := by
  unfold prepL
  by_cases h : keepB c = true
  · rw [List.filter_cons_of_pos h, if_pos h, List.flatMap_cons]
  · rw [List.filter_cons_of_neg h, if_neg h, List.nil_append]
theorem toL_one (i : Int) : toL (one i) = [i.toNat] := rfl

structure GP (p : Piece) : Prop where
  len : ∀ k, (p.at k).length ≤ 4
  pat : patL (toL p.a) = toL p.b
  prep : prepL (toL p.c) = toL p.d
theorem len4 {p : Piece} (h1 : p.a.length ≤ 4) (h2 : p.b.length ≤ 4) (h3 : p.c.length ≤ 4) (h4 : p.d.length ≤ 4) : ∀ k, (p.at k).length ≤ 4
  | 0 => h1
  | 1 => h2
  | 2 => h3
  | _ + 3 => h4

theorem pat_sp (l k : Int) (h0 : 0 ≤ l) (h1 : l ≤ 1) : patL (toL (one (spelledI l k))) = [(97 + l).toNat] := by rw [toL_one, patL_cons, (sp_ok l k h0 h1).1]; rfl
theorem prep_sp (l k : Int) (h0 : 0 ≤ l) (h1 : l ≤ 1) (r : List Nat) : prepL ((spelledI l k).toNat :: r) = (97 + l).toNat :: prepL r := by rw [prepL_cons, if_pos (sp_ok l k h0 h1).2.1, (sp_ok l k h0 h1).2.2]; rfl
theorem pat_fb (k : Int) : patL (toL (one (forbiddenI k))) = [46, 46, 46] := by rw [toL_one, patL_cons]; unfold patOf; rw [if_pos (fb_ok k).1]; rfl
theorem prep_fb (k : Int) : prepL (toL (one (forbiddenI k))) = [(forbiddenI k).toNat] := by rw [toL_one, prepL_cons, if_pos (fb_ok k).2.1, (fb_ok k).2.2]; rfl
theorem pat_nt (k : Int) : patL (toL (one (nothingI k))) = [] := by
  rw [toL_one, patL_cons]; unfold patOf; rw [if_neg (by rw [(nt_ok k).1]; decide), if_neg (by rw [(nt_ok k).2]; decide)]; rfl
theorem prep_nt (k : Int) : prepL (toL (one (nothingI k))) = [] := by rw [toL_one, prepL_cons, if_neg (by rw [(nt_ok k).2]; decide)]; rfl

theorem mul_cases (x : Str) (n : Int) (h0 : 0 ≤ n) (h1 : n < 3) : toL (Txt.mul x n) = if n = 0 then [] else if n = 1 then toL x else toL x ++ toL x := by
  have hn : n = 0 ∨ n = 1 ∨ n = 2 := by omega
  rcases hn with rfl | rfl | rfl
  · rfl
  · rfl
  · rw [if_neg (by decide), if_neg (by decide)]
    unfold Txt.mul
    rw [if_neg (by decide)]
    by_cases h : x.length = 0
    · rw [if_pos (by simp [h])]
      have : toL x = [] := List.length_eq_zero_iff.mp (by rw [length_toL]; exact h)
      rw [this]; rfl
    · rw [if_neg (by simp [h])]
      show (List.foldl (· ++ ·) #[] (List.replicate 2 x.cps)).toList = _
      simp [List.replicate, toL]
theorem gp_co : patL (toL ("㏇" : Str)) = toL ("co." : Str) ∧ prepL (toL ("CO." : Str)) = toL ("co." : Str) := by decide +kernel
theorem gp_mb : patOf 77 = [109] ∧ prepL (toL ("㎆" : Str)) = toL ("mb" : Str) := by decide +kernel
theorem gp_dot : patL (toL ("." : Str)) = toL ("." : Str) ∧ prepL (toL ("." : Str)) = toL ("." : Str) := by decide +kernel
theorem gp_front0 : patL (toL ("A⿰\u200b" : Str)) = toL ("a..." : Str) ∧ prepL (toL ("a" : Str)) = toL ("a" : Str) := by decide +kernel
theorem gp_A : patL (toL ("A" : Str)) = toL ("a" : Str) ∧ prepL (toL ("A" : Str)) = toL ("a" : Str) := by decide +kernel
theorem gp_front1 : patL [917569] = toL ("..." : Str) ∧ prepL (toL ("B" : Str)) = toL ("b" : Str) := by decide +kernel

theorem gp_piece (x : Int) : GP (pieceOf x) := by
  have hm8 := fmod_lt (k := x) (m := 8) (by decide)
  have hl := fmod_lt (k := x.fdiv 8) (m := 2) (by decide)
  have hl0 : 0 ≤ letterOf x := hl.1
  have hl1 : letterOf x ≤ 1 := by have := hl.2; unfold letterOf; omega
  have h3 := fmod_lt (k := moreOf x) (m := 3) (by decide)
  unfold pieceOf
  split
  · refine ⟨len4 (by show 1 ≤ 4; decide) (by show 1 ≤ 4; decide) (by show 1 ≤ 4; decide) (by show 1 ≤ 4; decide), pat_sp _ _ hl0 hl1, ?_⟩
    show prepL [(spelledI _ _).toNat] = _
    rw [prep_sp _ _ hl0 hl1]; rfl
  · split
    · have e1 := mul_cases (one (spelledI (letterOf x) (moreOf x))) _ h3.1 h3.2
      have e2 := mul_cases (plainOf x) _ h3.1 h3.2
      have hn : (moreOf x).fmod 3 = 0 ∨ (moreOf x).fmod 3 = 1 ∨ (moreOf x).fmod 3 = 2 := by omega
      have hlen : (Txt.mul (one (spelledI (letterOf x) (moreOf x))) ((moreOf x).fmod 3)).length ≤ 4 ∧ (Txt.mul (plainOf x) ((moreOf x).fmod 3)).length ≤ 4 := by
        rw [← length_toL, ← length_toL, e1, e2]
        rcases hn with h | h | h <;> rw [h] <;> constructor <;> first | exact (show 0 ≤ 4 by decide) | exact (show 1 ≤ 4 by decide) | exact (show 2 ≤ 4 by decide)
      refine ⟨len4 (by show 1 ≤ 4; decide) (by show 3 ≤ 4; decide) hlen.1 hlen.2, pat_fb _, ?_⟩
      show prepL (toL (Txt.mul _ _)) = toL (Txt.mul _ _)
      rw [e1, e2]
      rcases hn with h | h | h <;> rw [h]
      · rfl
      · show prepL [(spelledI _ _).toNat] = _
        rw [prep_sp _ _ hl0 hl1]; rfl
      · show prepL [(spelledI _ _).toNat, (spelledI _ _).toNat] = _
        rw [prep_sp _ _ hl0 hl1, prep_sp _ _ hl0 hl1]; rfl
    · split
      · exact ⟨len4 (by show 1 ≤ 4; decide) (by show 3 ≤ 4; decide) (by show 1 ≤ 4; decide) (by show 1 ≤ 4; decide), pat_fb _, prep_fb _⟩
      · split
        · exact ⟨len4 (by show 1 ≤ 4; decide) (by show 0 ≤ 4; decide) (by show 1 ≤ 4; decide) (by show 0 ≤ 4; decide), pat_nt _, prep_nt _⟩
        · split
          · have e1 := mul_cases (".") (letterOf x) hl0 (by omega)
            have hlen : (Txt.mul "." (letterOf x)).length ≤ 4 := by
              rw [← length_toL, e1]
              have hn : letterOf x = 0 ∨ letterOf x = 1 := by omega
              rcases hn with h | h <;> rw [h] <;> decide
            refine ⟨len4 (by show 1 ≤ 4; decide) (by show 1 ≤ 4; decide) hlen hlen, gp_dot.1, ?_⟩
            show prepL (toL (Txt.mul _ _)) = toL (Txt.mul _ _)
            rw [e1]
            have hn : letterOf x = 0 ∨ letterOf x = 1 := by omega
            rcases hn with h | h <;> rw [h]
            · rfl
            · exact gp_dot.2
          · split
            · exact ⟨len4 (by decide) (by decide) (by decide) (by decide), gp_co.1, gp_co.2⟩
            · split
              · refine ⟨len4 (by show 0 ≤ 4; decide) (by show 0 ≤ 4; decide) (by show 1 ≤ 4; decide) (by show 1 ≤ 4; decide), rfl, ?_⟩
                show prepL [(spelledI _ _).toNat] = _
                rw [prep_sp _ _ hl0 hl1]; rfl
              · refine ⟨len4 (by show 2 ≤ 4; decide) (by show 2 ≤ 4; decide) (by show 1 ≤ 4; decide) (by show 2 ≤ 4; decide), ?_, gp_mb.2⟩
                show patL (77 :: [(spelledI 1 (x.fdiv 8)).toNat]) = _
                rw [patL_cons, gp_mb.1]
                have := pat_sp 1 (x.fdiv 8) (by decide) (by decide)
                rw [toL_one] at this
                rw [this]; rfl

theorem gp_front (z : Int) : ∀ p ∈ frontOf z, GP p := by
  have hl := fmod_lt (k := z.fdiv 4) (m := 2) (by decide)
  unfold frontOf
  intro p hp
  split at hp
  · simp only [List.mem_cons, List.not_mem_nil, or_false] at hp
    rcases hp with rfl | rfl
    · exact ⟨len4 (by decide) (by decide) (by decide) (by decide), gp_front0.1, gp_front0.2⟩
    · exact ⟨len4 (by decide) (by decide) (by decide) (by decide), gp_A.1, gp_A.2⟩
  · split at hp
    · simp only [List.mem_cons, List.not_mem_nil, or_false] at hp
      subst hp
      exact ⟨len4 (by decide) (by decide) (by decide) (by decide), gp_front1.1, gp_front1.2⟩
    · split at hp
      · cases hp
      · simp only [List.mem_cons, List.not_mem_nil, or_false] at hp
        subst hp
        refine ⟨len4 (by show 1 ≤ 4; decide) (by show 1 ≤ 4; decide) (by show 1 ≤ 4; decide) (by show 1 ≤ 4; decide), gp_A.1, ?_⟩
        show prepL [(spelledI _ _).toNat] = _
        rw [prep_sp _ _ hl.1 (by omega)]; rfl

def psOf (ns : List Int) : List Piece := frontOf ns.sum ++ (ns.take 10).map pieceOf
theorem gp_all (ns : List Int) : ∀ p ∈ psOf ns, GP p := by
  intro p hp
  rcases List.mem_append.mp hp with h | h
  · exact gp_front _ p h
  · obtain ⟨x, _, rfl⟩ := List.mem_map.mp h
    exact gp_piece x
theorem small_ps (ns : List Int) : Small (psOf ns) := by
  refine ⟨?_, fun p hp => (gp_all ns p hp).len⟩
  have h1 : (frontOf ns.sum).length ≤ 2 := by
    unfold frontOf
    repeat' split
    all_goals simp
  unfold psOf
  rw [List.length_append, List.length_map, List.length_take]
  omega
theorem pat_col {ps : List Piece} (h : ∀ p ∈ ps, patL (toL p.a) = toL p.b) : patL (toL (colOf 0 ps)) = toL (colOf 1 ps) := by
  unfold colOf
  rw [toL_ofL, toL_ofL]
  induction ps with
  | nil => rfl
  | cons p r ih =>
    have ih' := ih fun q hq => h q (List.mem_cons_of_mem _ hq)
    have h1 := h p List.mem_cons_self
    rw [List.flatMap_cons, List.flatMap_cons, ← ih']
    show patL (toL p.a ++ _) = toL p.b ++ _
    rw [← h1]
    unfold patL
    rw [List.flatMap_append]
end Mine
end

section
open PySem PySem.W PyProof.Rows PySem.Calls
namespace Mine
set_option maxRecDepth 100000

/-- the text u can be read as the pattern w -/
def semL : List Nat → List Nat → Prop
  | [], u => u = []
  | c :: w, u => if (c :: w).take 3 = [46, 46, 46] then ∃ i, i ≤ u.length ∧ semL (w.drop 2) (u.drop i) else ∃ u', u = c :: u' ∧ semL w u'
termination_by w => w.length
decreasing_by
  · simp; omega
  · simp

theorem dots_get (r : List Bool) (j : Nat) (hj : j < r.length) : (dotsRow r).getD j false = true ↔ ∃ j', j' ≤ j ∧ r.getD j' false = true := by
  unfold dotsRow
  rw [List.getD_eq_getElem?_getD, List.getElem?_map, List.getElem?_range hj]
  simp only [Option.map_some, Option.getD_some, List.contains_iff_mem]
  constructor
  · intro h
    obtain ⟨i, hi, e⟩ := List.mem_iff_getElem.mp h
    rw [List.length_take] at hi
    rw [List.getElem_take] at e
    refine ⟨i, by omega, ?_⟩
    rw [List.getD_eq_getElem?_getD, List.getElem?_eq_getElem (by omega), e]
    rfl
  · rintro ⟨j', hj', e⟩
    rw [List.getD_eq_getElem?_getD, List.getElem?_eq_getElem (by omega)] at e
    refine List.mem_iff_getElem.mpr ⟨j', by rw [List.length_take]; omega, ?_⟩
    rw [List.getElem_take]
    exact e
theorem sign_get (g : List Nat) (c : Nat) (r : List Bool) (j : Nat) (hj : j < g.length) : (signRow g c r).getD (j + 1) false = (r.getD j false && (g.getD j 0 == c)) := by
  unfold signRow
  rw [List.getD_cons_succ, List.getD_eq_getElem?_getD, List.getElem?_map, List.getElem?_range hj]
  rfl
theorem take_drop_cons {g : List Nat} {k j c : Nat} {u' : List Nat} (hk : k ≤ g.length) : (g.take k).drop j = c :: u' ↔ j < k ∧ g.getD j 0 = c ∧ u' = (g.take k).drop (j + 1) := by
  constructor
  · intro h
    have hlen := congrArg List.length h
    rw [List.length_drop, List.length_take, List.length_cons] at hlen
    have hjk : j < k := by omega
    have hl : j < (g.take k).length := by rw [List.length_take]; omega
    rw [List.drop_eq_getElem_cons hl] at h
    injection h with h1 h2
    refine ⟨hjk, ?_, h2.symm⟩
    rw [List.getElem_take] at h1
    rw [List.getD_eq_getElem?_getD, List.getElem?_eq_getElem (by omega)]
    exact h1
  · rintro ⟨hjk, h1, rfl⟩
    have hl : j < (g.take k).length := by rw [List.length_take]; omega
    rw [List.drop_eq_getElem_cons hl, List.getElem_take]
    rw [List.getD_eq_getElem?_getD, List.getElem?_eq_getElem (by omega)] at h1
    rw [← h1]
    rfl

theorem fits_sem (g : List Nat) : ∀ (n : Nat) (w : List Nat), w.length ≤ n → ∀ r : List Bool, r.length = g.length + 1 → ∀ k, k ≤ g.length →
    ((fitsL g w r).getD k false = true ↔ ∃ j, j ≤ k ∧ r.getD j false = true ∧ semL w ((g.take k).drop j)) := by
  intro n
  have base : ∀ r : List Bool, ∀ k, k ≤ g.length → (r.getD k false = true ↔ ∃ j, j ≤ k ∧ r.getD j false = true ∧ (g.take k).drop j = []) := by
    intro r k hk
    constructor
    · intro h
      exact ⟨k, Nat.le_refl _, h, List.drop_of_length_le (by rw [List.length_take]; omega)⟩
    · rintro ⟨j, hj, h, e⟩
      have hl := congrArg List.length e
      rw [List.length_drop, List.length_take] at hl
      simp at hl
      obtain rfl : j = k := by omega
      exact h
  induction n with
  | zero =>
    intro w hw r hr k hk
    obtain rfl : w = [] := List.length_eq_zero_iff.mp (by omega)
    rw [fitsL]
    simp only [semL]
    exact base r k hk
  | succ n ih =>
    intro w hw r hr k hk
    cases w with
    | nil =>
      rw [fitsL]
      simp only [semL]
      exact base r k hk
    | cons c w =>
      simp only [List.length_cons] at hw
      rw [fitsL]
      simp only [semL]
      by_cases hd : (c :: w).take 3 = [46, 46, 46]
      · simp only [if_pos hd]
        rw [ih (w.drop 2) (by rw [List.length_drop]; omega) (dotsRow r) (by rw [dots_len]; exact hr) k hk]
        constructor
        · rintro ⟨j, hj, h1, h2⟩
          obtain ⟨j', hj', h3⟩ := (dots_get r j (by omega)).mp h1
          refine ⟨j', by omega, h3, j - j', by rw [List.length_drop, List.length_take]; omega, ?_⟩
          rw [List.drop_drop, show j' + (j - j') = j by omega]
          exact h2
        · rintro ⟨j', hj', h3, i, hi, h2⟩
          rw [List.length_drop, List.length_take] at hi
          rw [List.drop_drop] at h2
          exact ⟨j' + i, by omega, (dots_get r (j' + i) (by omega)).mpr ⟨j', by omega, h3⟩, h2⟩
      · simp only [if_neg hd]
        rw [ih w (by omega) (signRow g c r) (sign_len _ _ _) k hk]
        constructor
        · rintro ⟨j, hj, h1, h2⟩
          cases j with
          | zero => exact absurd h1 (by unfold signRow; simp)
          | succ j =>
            rw [sign_get g c r j (by omega), Bool.and_eq_true, beq_iff_eq] at h1
            exact ⟨j, by omega, h1.1, _, (take_drop_cons hk).mpr ⟨by omega, h1.2, rfl⟩, h2⟩
        · rintro ⟨j, hj, h1, u', e, h2⟩
          obtain ⟨hjk, h3, rfl⟩ := (take_drop_cons hk).mp e
          refine ⟨j + 1, by omega, ?_, h2⟩
          rw [sign_get g c r j (by omega), h1, h3, beq_self_eq_true]
          rfl

theorem fits_start_sem (g w : List Nat) (k : Nat) (hk : k ≤ g.length) : (fitsL g w (true :: List.replicate g.length false)).getD k false = true ↔ semL w (g.take k) := by
  rw [fits_sem g _ w (Nat.le_refl _) _ (by simp) k hk]
  constructor
  · rintro ⟨j, hj, h1, h2⟩
    cases j with
    | zero => exact h2
    | succ j =>
      rw [List.getD_cons_succ, List.getD_eq_getElem?_getD, List.getElem?_replicate] at h1
      split at h1 <;> cases h1
  · intro h
    exact ⟨0, Nat.zero_le _, rfl, h⟩
end Mine
end

section
open PySem PySem.W PyProof.Rows PySem.Calls
namespace Mine
set_option maxRecDepth 100000

def dotsAt (w : List Nat) (k : Nat) : Prop := (w.drop k).take 3 = [46, 46, 46]
theorem semL_nil (u : List Nat) : semL [] u ↔ u = [] := by rw [semL]
theorem semL_dots {w : List Nat} {k : Nat} (h : dotsAt w k) (u : List Nat) : semL (w.drop k) u ↔ ∃ i, i ≤ u.length ∧ semL (w.drop (k + 3)) (u.drop i) := by
  have hl := congrArg List.length h
  rw [List.length_take, List.length_drop] at hl
  simp at hl
  have hk : k < w.length := by omega
  have e := List.drop_eq_getElem_cons hk
  unfold dotsAt at h
  rw [e] at h ⊢
  rw [semL, if_pos h, List.drop_drop]
theorem semL_sign {w : List Nat} {k : Nat} (h : ¬ dotsAt w k) (hk : k < w.length) (u : List Nat) : semL (w.drop k) u ↔ ∃ u', u = w[k] :: u' ∧ semL (w.drop (k + 1)) u' := by
  have e := List.drop_eq_getElem_cons hk
  unfold dotsAt at h
  rw [e] at h ⊢
  rw [semL, if_neg h]
theorem sem_skip (w : List Nat) : ∀ (n a : Nat), a + n ≤ w.length → (∀ k, a ≤ k → k < a + n → ¬ dotsAt w k) → ∀ u, semL (w.drop a) u ↔ ∃ v, u = (w.drop a).take n ++ v ∧ semL (w.drop (a + n)) v := by
  intro n
  induction n with
  | zero => intro a _ _ u; simp
  | succ n ih =>
    intro a ha hn u
    have hlt : a < w.length := by omega
    rw [semL_sign (hn a (Nat.le_refl _) (by omega)) hlt]
    have e : (w.drop a).take (n + 1) = w[a] :: (w.drop (a + 1)).take n := by rw [List.drop_eq_getElem_cons hlt, List.take_succ_cons]
    rw [e]
    have ih' := ih (a + 1) (by omega) (fun k h1 h2 => hn k (by omega) (by omega))
    constructor
    · rintro ⟨u', rfl, h⟩
      obtain ⟨v, rfl, h2⟩ := (ih' u').mp h
      exact ⟨v, rfl, by rw [show a + (n + 1) = a + 1 + n by omega]; exact h2⟩
    · rintro ⟨v, rfl, h⟩
      exact ⟨_, rfl, (ih' _).mpr ⟨v, rfl, by rw [show a + 1 + n = a + (n + 1) by omega]; exact h⟩⟩

def semP : List (List Nat) → List Nat → Prop
  | [], _ => False
  | [p], u => u = p
  | p :: q :: ps, u => ∃ v, u = p ++ v ∧ ∃ i, i ≤ v.length ∧ semP (q :: ps) (v.drop i)
def tailS (ps : List (List Nat)) (v : List Nat) : Prop := ∃ i, i ≤ v.length ∧ semP ps (v.drop i)
theorem semP_cons {p : List Nat} {rest : List (List Nat)} (h : rest ≠ []) (u : List Nat) : semP (p :: rest) u ↔ ∃ v, u = p ++ v ∧ tailS rest v := by
  cases rest with
  | nil => exact absurd rfl h
  | cons q ps => rfl
def midS : List Nat → List (List Nat) → Prop
  | _, [] => True
  | m, w :: ws => ∃ a b, m = a ++ (w ++ b) ∧ midS b ws
theorem midS_mono : ∀ (ws : List (List Nat)) (a b : List Nat), midS b ws → midS (a ++ b) ws
  | [], _, _, _ => trivial
  | _ :: _, a, b, h => by
    obtain ⟨x, y, rfl, h⟩ := h
    exact ⟨a ++ x, y, by simp, h⟩
theorem midS_head (m : List Nat) (ws : List (List Nat)) : midS m ([] :: ws) ↔ midS m ws := by
  constructor
  · rintro ⟨a, b, rfl, h⟩
    exact midS_mono ws a _ h
  · intro h
    exact ⟨[], m, rfl, h⟩
theorem midS_last : ∀ (ws : List (List Nat)) (m : List Nat), midS m (ws ++ [[]]) ↔ midS m ws
  | [], m => ⟨fun _ => trivial, fun _ => ⟨[], m, rfl, trivial⟩⟩
  | w :: ws, m => by
    constructor
    · rintro ⟨a, b, e, h⟩
      exact ⟨a, b, e, (midS_last ws b).mp h⟩
    · rintro ⟨a, b, e, h⟩
      exact ⟨a, b, e, (midS_last ws b).mpr h⟩
theorem tail_mid (pl : List Nat) : ∀ (mids : List (List Nat)) (v : List Nat), tailS (mids ++ [pl]) v ↔ ∃ m, v = m ++ pl ∧ midS m mids
  | [], v => by
    constructor
    · rintro ⟨i, hi, h⟩
      have h' : v.drop i = pl := h
      exact ⟨v.take i, by rw [← h', List.take_append_drop], trivial⟩
    · rintro ⟨m, rfl, _⟩
      exact ⟨m.length, by simp, by show (m ++ pl).drop m.length = pl; simp⟩
  | q :: mids, v => by
    constructor
    · rintro ⟨i, hi, h⟩
      obtain ⟨v', e, h⟩ := (semP_cons (by simp) _).mp h
      obtain ⟨m, rfl, hm⟩ := (tail_mid pl mids v').mp h
      refine ⟨v.take i ++ (q ++ m), ?_, v.take i, m, rfl, hm⟩
      rw [List.append_assoc, List.append_assoc, ← e, List.take_append_drop]
    · rintro ⟨m, rfl, a, b, rfl, hm⟩
      refine ⟨a.length, by simp, (semP_cons (by simp) _).mpr ⟨b ++ pl, by simp, (tail_mid pl mids _).mpr ⟨b, rfl, hm⟩⟩⟩
theorem semP_mid (p0 pl : List Nat) (mids : List (List Nat)) (u : List Nat) : semP (p0 :: (mids ++ [pl])) u ↔ ∃ m, u = p0 ++ (m ++ pl) ∧ midS m mids := by
  rw [semP_cons (by simp)]
  constructor
  · rintro ⟨v, rfl, h⟩
    obtain ⟨m, rfl, hm⟩ := (tail_mid pl mids v).mp h
    exact ⟨m, rfl, hm⟩
  · rintro ⟨m, rfl, hm⟩
    exact ⟨_, rfl, (tail_mid pl mids _).mpr ⟨m, rfl, hm⟩⟩

open PySem.Builtin PySem.Builtin.Str PySem.StrLaws
theorem at_iff (x y : Str) (hi k : Nat) (hh : hi ≤ x.length) : At x y hi k ↔ k + y.length ≤ hi ∧ ((toL x).drop k).take y.length = toL y := by
  unfold At
  rw [subAt_eq, beq_iff_eq]
  rfl
theorem at_dots (x : Str) (k : Nat) : At x "..." x.length k ↔ dotsAt (toL x) k := by
  rw [at_iff x "..." x.length k (Nat.le_refl _)]
  constructor
  · rintro ⟨_, h⟩
    exact h
  · intro h
    have h' : ((toL x).drop k).take 3 = [46, 46, 46] := h
    have hl := congrArg List.length h'
    rw [List.length_take, List.length_drop, length_toL] at hl
    simp at hl
    refine ⟨?_, h'⟩
    show k + 3 ≤ x.length
    omega
theorem sub_toL (x : Str) (i j : Nat) : toL (strSub x i j) = ((toL x).drop i).take (j - i) := strSub_toList x i j
theorem sem_parts (x : Str) : ∀ (cuts : List Nat) (a f : Nat), a ≤ x.length → ChainG x "..." x.length a cuts f → (∀ k, f ≤ k → ¬ At x "..." x.length k) → ∀ u, semL ((toL x).drop a) u ↔ semP ((partsFrom x 3 a cuts).map toL) u
  | [], a, f, ha, hc, hn, u => by
    obtain rfl : f = a := hc
    have hl : (toL x).length = x.length := length_toL x
    rw [sem_skip (toL x) (x.length - f) f (by omega) (fun k h1 _ h => hn k h1 ((at_dots x k).mpr h))]
    show (∃ v, u = _ ∧ _) ↔ u = toL (strSub x f x.length)
    rw [sub_toL, List.drop_of_length_le (i := f + (x.length - f)) (by omega)]
    constructor
    · rintro ⟨v, rfl, h⟩
      rw [semL_nil] at h
      rw [h, List.append_nil]
    · rintro rfl
      exact ⟨[], by rw [List.append_nil], (semL_nil _).mpr rfl⟩
  | c :: cuts, a, f, ha, hc, hn, u => by
    obtain ⟨hac, hA, hno, hch⟩ := hc
    have hd := (at_dots x c).mp hA
    have hcl : c + 3 ≤ x.length := hA.1
    have hl : (toL x).length = x.length := length_toL x
    have hch' : ChainG x "..." x.length (c + 3) cuts f := hch
    rw [sem_skip (toL x) (c - a) a (by omega) (fun k h1 h2 h => hno k h1 (by omega) ((at_dots x k).mpr h))]
    show _ ↔ semP (toL (strSub x a c) :: (partsFrom x 3 (c + 3) cuts).map toL) u
    rw [semP_cons (by obtain ⟨p, r, e⟩ := partsFrom_ne x 3 (c + 3) cuts; rw [e]; simp), sub_toL, show a + (c - a) = c by omega]
    have ih := sem_parts x cuts (c + 3) f hcl hch' hn
    constructor
    · rintro ⟨v, rfl, h⟩
      obtain ⟨i, hi, h⟩ := (semL_dots hd v).mp h
      exact ⟨v, rfl, i, hi, (ih _).mp h⟩
    · rintro ⟨v, rfl, i, hi, h⟩
      exact ⟨v, rfl, (semL_dots hd v).mpr ⟨i, hi, (ih _).mpr h⟩⟩

theorem occ_window (x y : Str) (lo hi : Nat) :
    (occurrences x y lo hi 1 = [] ∧ ∀ k, lo ≤ k → ¬ At x y hi k) ∨ ∃ i r, occurrences x y lo hi 1 = i :: r ∧ lo ≤ i ∧ At x y hi i ∧ ∀ k, lo ≤ k → k < i → ¬ At x y hi k := by
  rw [occ_eq]
  rcases occ_first x y hi 1 (Nat.le_refl _) (List.range' lo (hi + 1 - lo)) lo (fun i hi => by rw [List.mem_range'] at hi; omega) with ⟨h0, hn⟩ | ⟨pre, a, post, e, h0, ha, hn⟩
  · refine .inl ⟨by rw [h0], fun k hk hA => hn k ?_ hA⟩
    have := hA.1
    rw [List.mem_range']
    exact ⟨k - lo, by omega, by omega⟩
  · refine .inr ⟨a, ((forIn (List.range' lo (hi + 1 - lo)) ((#[] : Array Nat), lo) (occBody x y hi 1)).run.fst.toList).tail, ?_, ?_, ha, fun k h1 h2 => hn k ?_⟩
    · generalize (forIn (List.range' lo (hi + 1 - lo)) ((#[] : Array Nat), lo) (occBody x y hi 1)).run.fst = arr at h0
      have h1 : arr.toList[0]? = some a := by simpa using h0
      cases hL : arr.toList with
      | nil => rw [hL] at h1; cases h1
      | cons b t => rw [hL] at h1; simp at h1; rw [h1]; rfl
    · have : a ∈ List.range' lo (hi + 1 - lo) := by rw [e]; simp
      rw [List.mem_range'] at this
      omega
    · have hlen : pre.length = a - lo := by
        have h1 : (List.range' lo (hi + 1 - lo))[pre.length]? = some a := by rw [e]; simp
        have hl2 : pre.length < hi + 1 - lo := by
          have := congrArg List.length e
          simp at this
          omega
        rw [List.getElem?_range' hl2] at h1
        simp at h1
        omega
      have ha' : lo ≤ a := by
        have : a ∈ List.range' lo (hi + 1 - lo) := by rw [e]; simp
        rw [List.mem_range'] at this
        omega
      have hl2 : k - lo < hi + 1 - lo := by have := congrArg List.length e; simp at this; omega
      have h2' : (List.range' lo (hi + 1 - lo))[k - lo]? = pre[k - lo]? := by rw [e, List.getElem?_append_left (by omega)]
      rw [List.getElem?_range' hl2] at h2'
      have h3 : pre[k - lo]? = some k := by rw [← h2']; simp; omega
      exact List.mem_of_getElem? h3
end Mine
end

section
open PySem PySem.W PyProof.Rows PySem.Calls
namespace Mine
set_option maxRecDepth 100000
open PySem.Builtin PySem.Builtin.Str PySem.StrLaws

theorem fromIndex_nat (len p : Nat) : fromIndex len (p : Int) = p := by
  unfold fromIndex
  rw [if_neg (by omega)]
  omega
theorem find4_window (g y : Str) (p e : Nat) (he : e ≤ g.length) : find4 g y p e = match occurrences g y p e 1 with | k :: _ => (k : Int) | [] => -1 := by
  unfold find4
  rw [fromIndex_nat, fromIndex_nat, Nat.min_eq_left he]
  all_goals (cases occurrences g y p e 1 <;> rfl)

theorem seg_split {l w a b : List Nat} {p e : Nat} (h : (l.take e).drop p = a ++ (w ++ b)) (hpe : p ≤ e) (he : e ≤ l.length) : (p + a.length + w.length ≤ e) ∧ (l.drop (p + a.length)).take w.length = w ∧ b = (l.take e).drop (p + a.length + w.length) := by
  have hl := congrArg List.length h
  rw [List.length_drop, List.length_take, List.length_append, List.length_append] at hl
  have h1 : p + a.length + w.length ≤ e := by omega
  refine ⟨h1, ?_, ?_⟩
  · have h2 := congrArg (fun x => (x.drop a.length).take w.length) h
    simp only [List.drop_drop, List.drop_left, List.take_left] at h2
    rw [List.drop_take, List.take_take, Nat.min_eq_left (by omega)] at h2
    exact h2
  · have h2 := congrArg (fun x => x.drop (a.length + w.length)) h
    simp only [List.drop_drop] at h2
    rw [show p + (a.length + w.length) = p + a.length + w.length by omega] at h2
    rw [h2, ← List.append_assoc, ← List.length_append, List.drop_left]
theorem seg_join {l w : List Nat} {p i e : Nat} (hpi : p ≤ i) (hie : i + w.length ≤ e) (he : e ≤ l.length) (h : (l.drop i).take w.length = w) : (l.take e).drop p = ((l.take e).drop p).take (i - p) ++ (w ++ (l.take e).drop (i + w.length)) := by
  have e1 : (l.take e).drop i = w ++ (l.take e).drop (i + w.length) := by
    have e2 : ((l.take e).drop i).take w.length = w := by
      rw [List.drop_take, List.take_take, Nat.min_eq_left (by omega)]
      exact h
    have e3 := (List.take_append_drop w.length ((l.take e).drop i)).symm
    rw [e2, List.drop_drop] at e3
    exact e3
  have e4 := (List.take_append_drop (i - p) ((l.take e).drop p)).symm
  rw [List.drop_drop, show p + (i - p) = i by omega, e1] at e4
  exact e4

theorem loop_sem (g : Str) (e : Nat) (he : e ≤ g.length) : ∀ (ws : List Str) (p : Nat), p ≤ e → (loopB g e ws p = true ↔ midS (((toL g).take e).drop p) (ws.map toL))
  | [], _, _ => ⟨fun _ => trivial, fun _ => rfl⟩
  | y :: ws, p, hp => by
    have hgl : (toL g).length = g.length := length_toL g
    have hyl : (toL y).length = y.length := length_toL y
    rw [loopB, find4_window g y p e he]
    rcases occ_window g y p e with ⟨h0, hn⟩ | ⟨i, r, h0, hpi, hA, hn⟩
    · rw [h0]
      constructor
      · intro h; cases h
      · rintro ⟨a, b, hm, _⟩
        obtain ⟨h1, h2, _⟩ := seg_split hm hp (by omega)
        refine absurd ((at_iff g y e (p + a.length) he).mpr ⟨by omega, by rw [← hyl]; exact h2⟩) (hn _ (by omega))
    · rw [h0]
      have hA' := (at_iff g y e i he).mp hA
      show (if (i : Int) < 0 then false else loopB g e ws ((i : Int) + y.length)) = true ↔ _
      rw [if_neg (by omega), show (i : Int) + (y.length : Int) = ((i + y.length : Nat) : Int) by omega, loop_sem g e he ws (i + y.length) hA'.1]
      constructor
      · intro h
        refine ⟨(((toL g).take e).drop p).take (i - p), ((toL g).take e).drop (i + y.length), ?_, h⟩
        have := seg_join (l := toL g) (w := toL y) (p := p) (i := i) (e := e) hpi (by omega) (by omega) (by rw [hyl]; exact hA'.2)
        rw [hyl] at this
        exact this
      · rintro ⟨a, b, hm, h⟩
        obtain ⟨h1, h2, rfl⟩ := seg_split hm hp (by omega)
        have hat := (at_iff g y e (p + a.length) he).mpr ⟨by omega, by rw [← hyl]; exact h2⟩
        have hle : i ≤ p + a.length := by
          rcases Nat.lt_or_ge (p + a.length) i with hlt | hge
          · exact absurd hat (hn _ (by omega) hlt)
          · exact hge
        rw [hyl] at h
        have e5 : ((toL g).take e).drop (i + y.length) = (((toL g).take e).drop (i + y.length)).take (p + a.length - i) ++ ((toL g).take e).drop (p + a.length + y.length) := by
          have e6 := (List.take_append_drop (p + a.length - i) (((toL g).take e).drop (i + y.length))).symm
          rw [List.drop_drop, show i + y.length + (p + a.length - i) = p + a.length + y.length by omega] at e6
          exact e6
        rw [e5]
        exact midS_mono _ _ _ h

theorem starts_iff (g y : Str) : Txt.startswith g y = true ↔ ∃ v, toL g = toL y ++ v := by
  unfold Txt.startswith
  rw [Bool.and_eq_true, decide_eq_true_eq, subAt_eq, beq_iff_eq]
  have hyl : (toL y).length = y.length := length_toL y
  have hgl : (toL g).length = g.length := length_toL g
  constructor
  · rintro ⟨_, h⟩
    have h' : (toL g).take y.length = toL y := h
    exact ⟨(toL g).drop y.length, by rw [← h', List.take_append_drop]⟩
  · rintro ⟨v, h⟩
    refine ⟨?_, ?_⟩
    · rw [← hgl, h, List.length_append]; omega
    · show ((toL g).drop 0).take y.length = toL y
      rw [h, List.drop_zero, ← hyl, List.take_left]
theorem ends_iff (g y : Str) : Txt.endswith g y = true ↔ ∃ v, toL g = v ++ toL y := by
  unfold Txt.endswith
  rw [Bool.and_eq_true, decide_eq_true_eq, subAt_eq, beq_iff_eq]
  have hyl : (toL y).length = y.length := length_toL y
  have hgl : (toL g).length = g.length := length_toL g
  constructor
  · rintro ⟨hle, h⟩
    have h' : ((toL g).drop (g.length - y.length)).take y.length = toL y := h
    rw [List.take_of_length_le (by rw [List.length_drop]; omega)] at h'
    exact ⟨(toL g).take (g.length - y.length), by rw [← h', List.take_append_drop]⟩
  · rintro ⟨v, h⟩
    have hl := congrArg List.length h
    rw [List.length_append] at hl
    refine ⟨by omega, ?_⟩
    show ((toL g).drop (g.length - y.length)).take y.length = toL y
    rw [h, show g.length - y.length = v.length by omega, List.drop_left, ← hyl, List.take_length]

theorem last_sem (g pl : Str) (ws : List Str) (p : Nat) : lastB g (ws ++ [pl]) p = true ↔ ∃ v, toL g = v ++ toL pl ∧ p ≤ v.length ∧ midS (v.drop p) (ws.map toL) := by
  have hgl : (toL g).length = g.length := length_toL g
  have hpl : (toL pl).length = pl.length := length_toL pl
  unfold lastB
  rw [List.getLast?_concat, List.dropLast_concat]
  dsimp only
  by_cases h0 : pl.length = 0
  · rw [if_pos h0]
    have hnil : toL pl = [] := List.length_eq_zero_iff.mp (by omega)
    unfold tailB
    rw [hnil]
    by_cases hp : (p : Int) > g.length
    · rw [if_pos hp]
      constructor
      · intro h; cases h
      · rintro ⟨v, h, h1, _⟩
        rw [List.append_nil] at h
        rw [← h] at h1
        omega
    · rw [if_neg hp, loop_sem g g.length (Nat.le_refl _) _ p (by omega), List.map_append, List.map_cons, List.map_nil, hnil, midS_last, List.take_of_length_le (by omega)]
      constructor
      · intro h
        exact ⟨toL g, by rw [List.append_nil], by omega, h⟩
      · rintro ⟨v, h, _, h2⟩
        rw [List.append_nil] at h
        rw [h]; exact h2
  · rw [if_neg h0]
    by_cases he : Txt.endswith g pl = true
    · rw [if_pos he]
      obtain ⟨v, hv⟩ := (ends_iff g pl).mp he
      have hl := congrArg List.length hv
      rw [List.length_append] at hl
      have hvl : v.length = g.length - pl.length := by omega
      have htk : (toL g).take (g.length - pl.length) = v := by rw [hv, ← hvl, List.take_left]
      have euniq : ∀ v', toL g = v' ++ toL pl → v' = v := fun v' h' => List.append_cancel_right (h'.symm.trans hv)
      unfold tailB
      rw [show ((g.length : Int) - (pl.length : Int)) = ((g.length - pl.length : Nat) : Int) by omega]
      by_cases hp : (p : Int) > ((g.length - pl.length : Nat) : Int)
      · rw [if_pos hp]
        constructor
        · intro h; cases h
        · rintro ⟨v', h, h1, _⟩
          rw [euniq v' h] at h1
          omega
      · rw [if_neg hp, loop_sem g (g.length - pl.length) (by omega) _ p (by omega), htk]
        constructor
        · intro h
          exact ⟨v, hv, by omega, h⟩
        · rintro ⟨v', h, _, h2⟩
          rw [euniq v' h] at h2
          exact h2
    · rw [if_neg he]
      constructor
      · intro h; cases h
      · rintro ⟨v, h, _⟩
        exact absurd ((ends_iff g pl).mpr ⟨v, h⟩) he

theorem first_sem (g p0 pl : Str) (mids : List Str) : firstB g (p0 :: (mids ++ [pl])) = true ↔ semP ((p0 :: (mids ++ [pl])).map toL) (toL g) := by
  rw [List.map_cons, List.map_append, List.map_cons, List.map_nil, semP_mid]
  have hp0 : (toL p0).length = p0.length := length_toL p0
  unfold firstB
  dsimp only
  by_cases h0 : p0.length = 0
  · rw [if_pos h0]
    have hnil : toL p0 = [] := List.length_eq_zero_iff.mp (by omega)
    have hls := last_sem g pl (p0 :: mids) 0
    rw [List.cons_append] at hls
    rw [show (0 : Int) = ((0 : Nat) : Int) from rfl, hls, List.map_cons, hnil]
    constructor
    · rintro ⟨v, h, _, h2⟩
      rw [List.drop_zero, midS_head] at h2
      exact ⟨v, h, h2⟩
    · rintro ⟨m, h, h2⟩
      exact ⟨m, h, Nat.zero_le _, by rw [List.drop_zero, midS_head]; exact h2⟩
  · rw [if_neg h0]
    by_cases hs : Txt.startswith g p0 = true
    · rw [if_pos hs, last_sem g pl mids p0.length]
      obtain ⟨w, hw⟩ := (starts_iff g p0).mp hs
      constructor
      · rintro ⟨v, h, h1, h2⟩
        refine ⟨v.drop p0.length, ?_, h2⟩
        have e : v.take p0.length = toL p0 := by
          have e2 := congrArg (List.take p0.length) (h.symm.trans hw)
          rw [List.take_append_of_le_length h1, ← hp0, List.take_left] at e2
          rw [hp0] at e2
          exact e2
        rw [← List.append_assoc, ← e, List.take_append_drop]
        exact h
      · rintro ⟨m, h, h2⟩
        refine ⟨toL p0 ++ m, by rw [List.append_assoc]; exact h, by rw [List.length_append]; omega, ?_⟩
        rw [← hp0, List.drop_left]
        exact h2
    · rw [if_neg hs]
      constructor
      · intro h; cases h
      · rintro ⟨m, h, _⟩
        exact absurd ((starts_iff g p0).mpr ⟨_, h⟩) hs

theorem split_ends {α : Type} (l : List α) (h : 2 ≤ l.length) : ∃ a m z, l = a :: (m ++ [z]) := by
  cases l with
  | nil => simp at h
  | cons a r =>
    have hr : r ≠ [] := by intro e; rw [e] at h; simp at h
    exact ⟨a, r.dropLast, r.getLast hr, by rw [List.dropLast_concat_getLast hr]⟩

theorem match_sem (x g : Str) : matchB x g = true ↔ semL (toL x) (toL g) := by
  have hxl : (toL x).length = x.length := length_toL x
  unfold matchB
  by_cases ho : (occurrences x "..." 0 x.length 1).isEmpty = true
  · rw [if_pos ho]
    have hno : ∀ k, ¬ At x "..." x.length k := by
      intro k hA
      have := (found_iff x "...").mpr ⟨k, hA.1, hA.2⟩
      rw [ho] at this
      cases this
    have hsk := sem_skip (toL x) x.length 0 (by omega) (fun k _ _ h => hno k ((at_dots x k).mpr h)) (toL g)
    rw [List.drop_zero] at hsk
    rw [hsk, Nat.zero_add, List.drop_of_length_le (i := x.length) (by omega), List.take_of_length_le (by omega), beq_iff_eq]
    constructor
    · rintro rfl
      exact ⟨[], by rw [List.append_nil], (semL_nil _).mpr rfl⟩
    · rintro ⟨v, h, h2⟩
      rw [semL_nil] at h2
      rw [h2, List.append_nil] at h
      rw [← ofL_toL x, ← ofL_toL g, h]
  · rw [if_neg ho]
    have ho' : (occurrences x "..." 0 x.length 1).isEmpty = false := by simpa using ho
    obtain ⟨e1, h2⟩ := split_more ho'
    obtain ⟨p0, mids, pl, es⟩ := split_ends _ h2
    rw [es, first_sem, ← es, e1, partsBetween_eq]
    obtain ⟨f, hch, hn⟩ := occ_tight x "..." (by decide)
    have hsp := sem_parts x _ 0 f (Nat.zero_le _) hch hn (toL g)
    rw [List.drop_zero] at hsp
    exact hsp.symm

theorem plain_law (ps : List Piece) (n : Nat) (_hn : n ≤ ps.length) : ansB ps n = expB ps n := by
  have key : ansB ps n = true ↔ expB ps n = true := by
    unfold ansB expB rowOf
    rw [match_sem]
    have hgl : (toL (colOf 3 ps)).length = (colOf 3 ps).length := length_toL _
    have hct := col_len_take ps 3 n
    have e : toL (colOf 3 (ps.take n)) = (toL (colOf 3 ps)).take (colOf 3 (ps.take n)).length := by
      rw [← length_toL]
      unfold colOf
      rw [toL_ofL, toL_ofL]
      conv => rhs; rhs; rw [← List.take_append_drop n ps]
      rw [List.flatMap_append, List.take_left]
    rw [← hgl, fits_start_sem _ _ _ (by omega), ← e]
  cases h1 : ansB ps n with
  | true => exact (key.mp h1).symm
  | false =>
    cases h2 : expB ps n with
    | false => rfl
    | true => rw [key.mpr h2] at h1; cases h1
end Mine
end

section
open PySem PySem.W PyProof.Rows PySem.Calls
namespace Mine

section
variable {prog : Program} {w : World} {K : Type} [DecidableEq K] {knd : KeyKind prog w K} {A : Around} {E : Value → Shared → Prop} {s : Shared}

theorem put_fresh {d : Addr} {kvs : List (K × Value)} {k : K} {key v : Value} {Q : Unit → Shared → Prop} (hkey : knd.is k key = true) (hm : s.heap.DictOf knd d kvs)
    (hn : k ∉ kvs.map (·.1)) (hsz : kvs.length ≤ sizeLine)
    (hQ : ∀ h', h'.DictOf knd d (kvs ++ [(k, v)]) → Heap.SameBut d s.heap h' → Q () { s with heap := h' }) :
    wpAny (model prog w) A (dictPut d (knd.hash k) key v) Q E s := by
  obtain ⟨o, es, ep, ho, hc, hd, hk, hp, hnd⟩ := hm
  have hlen : es.size ≤ sizeLine := by
    have e1 := hp.length
    rw [Array.length_toList] at e1
    omega
  have hidx : (es.findIdx? fun e => knd.is k e.key) = none := by
    have e1 : (es.findIdx? fun e => knd.is k e.key) = kvs.findIdx? fun kv => decide (kv.1 = k) := by
      rw [← hp.findIdx k]; cases es; simp
    rw [e1, List.findIdx?_eq_none_iff]
    intro x hx
    simp only [decide_eq_false_iff_not]
    exact fun e => hn (List.mem_map.mpr ⟨x, hx, e⟩)
  unfold dictPut
  refine wpAny_bind (wpAny_dictFind_of hkey ho hd hk ?_)
  rw [hidx]
  refine wpAny_updateDictKeys (hz := hlen) ho hd (hQ _ ?_ (Heap.SameBut.update ..))
  refine ⟨_, _, ep + 1, Heap.get?_update_self _ ho (Obj.isFreed_of_dict (Obj.data_mapDictKeys hd _)), hc.mapDictKeys _, Obj.data_mapDictKeys hd _, hk.push hkey _, ?_, ?_⟩
  · have e2 := hp.append hkey (knd.hash k) v
    cases es
    simpa using e2
  · rw [List.map_append, List.nodup_append]
    refine ⟨hnd, by simp, fun a ha b hb => ?_⟩
    simp only [List.map_cons, List.map_nil, List.mem_singleton] at hb
    exact fun e => hn (hb ▸ e ▸ ha)

theorem merge_fresh {d o : Addr} {kvs more : List (K × Value)} {Q : Unit → Shared → Prop} (hdo : d ≠ o) (hoS : (o == sysModules) = false) (hne : kvs ≠ [])
    (hd : s.heap.DictOf knd d kvs) (ho : s.heap.DictOf knd o more) (hn : ((kvs ++ more).map (·.1)).Nodup) (hsz : kvs.length + more.length ≤ sizeLine)
    (hQ : ∀ h', h'.DictOf knd d (kvs ++ more) → Heap.SameBut d s.heap h' → Q () { s with heap := h' }) :
    wpAny (model prog w) A (mergeMapping d (.ref o) false) Q E s := by
  have hto := ho.typeIs
  obtain ⟨od, esd, epd, hod, hcd, hdd, hkd, hpd, hnd⟩ := id hd
  obtain ⟨oo, eso, epo, hoo, hco, hdo', hko, hpo, hno⟩ := id ho
  unfold mergeMapping
  refine wpAny_bind (wpAny_isInstance hto isSubtype_dict_dict ?_)
  rw [if_pos rfl]
  refine wpAny_bind (wpAny_specialOf hto F.slot_dict_iter.lookup (wpAny_bind (wpAny_pure ?_)))
  simp only [beq_self_eq_true]
  rw [if_neg (by rw [hoS]; exact Bool.false_ne_true)]
  refine wpAny_bind (wpAny_dictEntries hod hdd ?_)
  have hemp : esd.isEmpty = false := by
    cases hb : esd.isEmpty with
    | false => rfl
    | true =>
      have h0 : esd = #[] := Array.isEmpty_iff.mp hb
      have e1 := hpd.length
      rw [h0] at e1
      exact absurd (List.length_eq_zero_iff.mp e1.symm) hne
  rw [if_neg (by rw [hemp]; exact Bool.false_ne_true)]
  refine wpAny_bind (wpAny_dictEntries hoo hdo' ?_)
  refine wpAny_bind (wpAny_dictEpoch hoo hdo' ?_)
  have hml : more.length = eso.size := by rw [← hpo.length, Array.length_toList]
  rw [List.range_eq_range']
  refine wpAny_bind ?_
  refine wpAny_forIn_list _
    (fun rest (_ : PUnit) s' => ∃ h' i, s' = { s with heap := h' } ∧ rest = List.range' i (eso.size - i) ∧ i ≤ eso.size ∧ h'.DictOf knd d (kvs ++ more.take i) ∧ h'.get? o = some oo ∧ Heap.SameBut d s.heap h')
    _ ?_ ?_ _ _ ⟨s.heap, 0, rfl, rfl, Nat.zero_le _, by simpa using hd, hoo, Heap.SameBut.refl _ _⟩
  · rintro x rest b s' ⟨h', i, rfl, hr, hi, hd', hoo', hs'⟩
    have hlt : i < eso.size := by
      rcases Nat.lt_or_ge i eso.size with h | h
      · exact h
      · rw [Nat.sub_eq_zero_of_le h] at hr; cases hr
    have e1 : eso.size - i = (eso.size - (i + 1)) + 1 := by omega
    rw [e1, List.range'_succ] at hr
    obtain ⟨rfl, hrest⟩ := List.cons.inj hr
    have hxm : x < more.length := by omega
    refine wpAny_bind (wpAny_dictEntries hoo' hdo' ?_)
    rw [Array.getElem?_eq_getElem hlt]
    obtain ⟨k, v, hkv⟩ : ∃ k v, more[x]? = some (k, v) := ⟨_, _, List.getElem?_eq_getElem hxm⟩
    obtain ⟨hkey, hval⟩ := hpo.get? (e := eso[x]) (by rw [Array.getElem?_toList, Array.getElem?_eq_getElem hlt]) hkv
    obtain ⟨k', hkey', hhash⟩ := hko eso[x] (Array.getElem_mem hlt)
    obtain rfl : k' = k := knd.inj _ _ _ hkey' hkey
    have htk : more.take (x + 1) = more.take x ++ [(k', v)] := by rw [List.take_add_one, hkv]; rfl
    refine wpAny_bind (wpAny_holding ?_)
    rw [if_neg Bool.false_ne_true, hhash, hval]
    refine put_fresh hkey hd' ?_ ?_ fun h'' hd'' hs'' => ?_
    · have e2 : ((kvs ++ more.take (x + 1)).map (·.1)).Nodup := by
        refine hn.sublist (List.Sublist.map _ (List.Sublist.append (List.Sublist.refl _) (List.take_sublist _ _)))
      rw [htk, ← List.append_assoc, List.map_append, List.nodup_append] at e2
      exact fun hk => e2.2.2 _ hk k' (by simp) rfl
    · rw [List.length_append, List.length_take]; omega
    · have hoo'' : h''.get? o = some oo := (hs''.2 o (Ne.symm hdo)).trans hoo'
      refine wpAny_bind (wpAny_dictEpoch hoo'' hdo' ?_)
      rw [if_neg (by simp)]
      exact wpAny_pure ⟨h'', x + 1, rfl, hrest, hlt, by rw [htk, ← List.append_assoc]; exact hd'', hoo'', hs'.trans hs''⟩
  · rintro b s' ⟨h', i, rfl, hr, hi, hd', hoo', hs'⟩
    have hin : i = eso.size := by
      rcases Nat.lt_or_ge i eso.size with h | h
      · have e1 : eso.size - i = (eso.size - (i + 1)) + 1 := by omega
        rw [e1, List.range'_succ] at hr; cases hr
      · omega
    refine wpAny_pure (hQ h' ?_ hs')
    rw [hin, ← hml, List.take_length] at hd'; exact hd'
end

open PySem.Spec PyProof.V
/-- A key and a value of a display, each of them written out. -/
def LitPair (M : Model) (A : Around) (p : Sem Value × Sem Value) (x : Int × PyData) : Prop :=
  (∀ (s : Shared) (Q : Value → Shared → Prop) (E : Value → Shared → Prop), (∀ t tk, Q (.int x.1 t) { s with toks := tk }) → wpAny M A p.1 Q E s) ∧
  (∀ (s : Shared) (Q : Value → Shared → Prop) (E : Value → Shared → Prop), (∀ v tk, Flat v x.2 → Q v { s with toks := tk }) → wpAny M A p.2 Q E s)
inductive LitPairs (M : Model) (A : Around) : List (Sem Value × Sem Value) → List (Int × PyData) → Prop
  | nil : LitPairs M A [] []
  | cons {p x ps xs} : LitPair M A p x → LitPairs M A ps xs → LitPairs M A (p :: ps) (x :: xs)
def encI (D : List (Int × PyData)) : List (PyData × PyData) := D.map fun x => (.int x.1, x.2)

theorem LitPairs.length {M : Model} {A : Around} {ps : List (Sem Value × Sem Value)} {xs : List (Int × PyData)} (h : LitPairs M A ps xs) : ps.length = xs.length := by
  induction h with
  | nil => rfl
  | cons _ _ ih => simp [ih]
theorem LitPairs.snoc {M : Model} {A : Around} {ps : List (Sem Value × Sem Value)} {xs : List (Int × PyData)} {p : Sem Value × Sem Value} {x : Int × PyData} (h : LitPairs M A ps xs) (hp : LitPair M A p x) : LitPairs M A (ps ++ [p]) (xs ++ [x]) := by
  induction h with
  | nil => exact .cons hp .nil
  | cons h1 _ ih => exact .cons h1 ih
theorem flat_append {kvs kvs' : List (Int × Value)} {D D' : List (PyData × PyData)} (h : FlatPairs PyData.int kvs D) (h' : FlatPairs PyData.int kvs' D') : FlatPairs PyData.int (kvs ++ kvs') (D ++ D') := by
  induction h with
  | nil => exact h'
  | cons f _ ih => exact .cons f ih
theorem flat_keys {kvs : List (Int × Value)} {D : List (Int × PyData)} (h : FlatPairs PyData.int kvs (encI D)) : kvs.map (·.1) = D.map (·.1) := by
  induction D generalizing kvs with
  | nil => cases h; rfl
  | cons x D ih =>
    obtain ⟨k, v⟩ := x
    cases h with
    | cons f r => simp [ih r]
end Mine
end

section
open PySem PySem.W PyProof.Rows PySem.Calls PySem.Spec PyProof.V
namespace Mine

section
variable {prog : Program} {w : World} {A : Around} {E : Value → Shared → Prop}

/-- What the written pairs have become: exact ints and flat data. -/
inductive Read (prog : Program) (w : World) : List (Value × Value) → List (Int × PyData) → Prop
  | nil : Read prog w [] []
  | cons {i : Int} {t : Tok} {v : Value} {d : PyData} {vs : List (Value × Value)} {xs : List (Int × PyData)} : Flat v d → Read prog w vs xs → Read prog w ((.int i t, v) :: vs) ((i, d) :: xs)

theorem Read.carries {vs : List (Value × Value)} {xs : List (Int × PyData)} (h : Read prog w vs xs) :
    ∃ kvs, Carries (intKind prog w) vs kvs ∧ FlatPairs PyData.int kvs (encI xs) := by
  induction h with
  | nil => exact ⟨[], trivial, .nil⟩
  | cons f _ ih =>
    obtain ⟨kvs, h1, h2⟩ := ih
    exact ⟨(_, _) :: kvs, ⟨intKind_is _ _ _ _, rfl, h1⟩, .cons f h2⟩

theorem evalPairs_read {ps : List (Sem Value × Sem Value)} {xs : List (Int × PyData)} (h : LitPairs (model prog w) A ps xs) :
    ∀ (s : Shared) (Q : List (Value × Value) → Shared → Prop), (∀ vs tk, Read prog w vs xs → Q vs { s with toks := tk }) → wpAny (model prog w) A (evalPairs ps) Q E s := by
  induction h with
  | nil => exact fun s Q hq => evalPairs_nil (hq [] s.toks .nil)
  | cons hp _ ih =>
    intro s Q hq
    refine evalPairs_cons (hp.1 _ _ _ fun t tk => hp.2 _ _ _ fun v tk' hf => ih _ _ fun vs tk'' hr => ?_)
    exact hq _ tk'' (.cons hf hr)

theorem store_long {d : Addr} {ps : List (Sem Value × Sem Value)} {xs : List (Int × PyData)} (h : LitPairs (model prog w) A ps xs) :
    ∀ (kvs : List (Int × Value)) (s : Shared) (Q : PUnit → Shared → Prop), s.heap.DictOf (intKind prog w) d kvs → (kvs.map (·.1) ++ xs.map (·.1)).Nodup → kvs.length + xs.length ≤ sizeLine →
    (∀ h' tk kvs', h'.DictOf (intKind prog w) d (kvs ++ kvs') → FlatPairs PyData.int kvs' (encI xs) → Heap.SameBut d s.heap h' → Q PUnit.unit { s with heap := h', toks := tk }) →
    wpAny (model prog w) A (forIn ps PUnit.unit fun (x : Sem Value × Sem Value) (_ : PUnit) => (do let kv ← x.1; let vv ← holding [kv] x.2; holding [kv, vv] (dictSet d kv vv); pure (ForInStep.yield PUnit.unit) : Sem (ForInStep PUnit))) Q E s := by
  induction h with
  | nil =>
    intro kvs s Q hd _ _ hq
    rw [List.forIn_nil]
    exact wpAny_pure (hq s.heap s.toks [] (by simpa using hd) .nil (Heap.SameBut.refl _ _))
  | @cons p x ps xs hp _ ih =>
    obtain ⟨i, dx⟩ := x
    intro kvs s Q hd hn hsz hq
    rw [List.forIn_cons]
    refine wpAny_bind (wpAny_bind (hp.1 _ _ _ fun t tk => wpAny_bind (wpAny_holding (hp.2 _ _ _ fun v tk' hf => wpAny_bind (wpAny_holding ?_)))))
    refine wpAny_dictSet_pairs (knd := intKind prog w) (intKind_is _ _ i _) hd (fun h' hd' hs' => wpAny_pure ?_) (by omega)
    have hfresh : ¬ (kvs.any fun kv => decide (kv.1 = i)) = true := by
      rw [List.any_eq_true]
      rintro ⟨y, hy, e⟩
      rw [List.nodup_append] at hn
      exact hn.2.2 _ (List.mem_map.mpr ⟨y, hy, rfl⟩) i (by simp) (of_decide_eq_true e)
    rw [stored, if_neg hfresh] at hd'
    refine ih (kvs ++ [(i, v)]) _ Q hd' (by simpa using hn) (by simp only [List.length_append, List.length_cons, List.length_nil] at hsz ⊢; omega) fun h'' tk'' kvs'' hd'' hf'' hs'' => ?_
    exact hq h'' tk'' ((i, v) :: kvs'') (by simpa using hd'') (.cons hf hf'') (hs'.trans hs'')

theorem sub_lits {ps : List (Sem Value × Sem Value)} {xs : List (Int × PyData)} (h : LitPairs (model prog w) A ps xs) {s : Shared} {Q : Addr → Shared → Prop}
    (hn : (xs.map (·.1)).Nodup) (hsz : xs.length ≤ sizeLine)
    (hq : ∀ h' tk kvs, h'.DictOf (intKind prog w) s.heap.objs.size kvs → FlatPairs PyData.int kvs (encI xs) → (∀ b o, s.heap.get? b = some o → h'.get? b = some o) → Q s.heap.objs.size { s with heap := h', toks := tk }) :
    wpAny (model prog w) A (subDict ps) Q E s := by
  unfold subDict
  refine wpAny_bind (wpAny_alloc ?_)
  have keep : ∀ h', Heap.SameBut s.heap.objs.size (s.heap.push { cls := .type "dict", data := .dict #[] }) h' → ∀ b o, s.heap.get? b = some o → h'.get? b = some o :=
    fun h' hs b o e => (hs.2 b (Nat.ne_of_lt (Heap.lt_size e))).trans (Heap.get?_push_of_some _ e)
  refine wpAny_bind (wpAny_holding ?_)
  by_cases hl : ps.length ≤ 15
  · rw [if_pos hl]
    refine wpAny_bind (evalPairs_read h _ _ fun vs tk hr => ?_)
    obtain ⟨kvs, hc, hf⟩ := hr.carries
    have hnk : (kvs.map (·.1)).Nodup := by rw [flat_keys hf]; exact hn
    have hlk : kvs.length = xs.length := by rw [← List.length_map (f := (·.1)) (as := kvs), flat_keys hf, List.length_map]
    refine wpAny_holding (wpAny_bind (wpAny_storeAll (knd := intKind prog w) vs kvs [] _ _ hc (Heap.DictOf.new _) (by simpa using hlk ▸ hsz) fun h' hm' hs' => wpAny_pure (wpAny_pure ?_)))
    rw [merged_nil_of_nodup kvs hnk] at hm'
    exact hq h' _ kvs hm' hf (keep _ hs')
  · rw [if_neg hl]
    refine wpAny_bind (wpAny_rule ?_)
    refine wpAny_bind ?_
    refine store_long h [] _ _ (Heap.DictOf.new _) (by simpa using hn) (by simpa using hsz) fun h' tk kvs hd hf hs => ?_
    exact wpAny_pure (wpAny_pure (hq h' tk kvs (by simpa using hd) hf (keep _ hs)))
end
end Mine
end

section
open PySem PySem.W PyProof.Rows PySem.Calls PySem.Spec PyProof.V
namespace Mine

section
variable {prog : Program} {w : World} {A : Around} {E : Value → Shared → Prop}

/-- Where a display stands: nothing yet, or a dict of its own with what has been read. -/
def Main (prog : Program) (w : World) (h₀ h : Heap) (acc : List (Int × Value)) : Option Addr → Prop
  | none => acc = []
  | some d => acc ≠ [] ∧ h₀.objs.size ≤ d ∧ h.DictOf (intKind prog w) d acc

theorem Main.keeps {h₀ h h' : Heap} {acc : List (Int × Value)} {m : Option Addr} (x : Main prog w h₀ h acc m) (hk : ∀ b o, h.get? b = some o → h'.get? b = some o) : Main prog w h₀ h' acc m := by
  cases m with
  | none => exact x
  | some d => exact ⟨x.1, x.2.1, x.2.2.keep hk⟩

def flushD (run : List (Sem Value × Sem Value)) (main : Option Addr) : Sem (Option Addr) :=
  if run.isEmpty = true then pure main else match main with
    | none => do let a ← subDict run; pure (some a)
    | some d => do
      let sub ← holding [.ref d] (subDict run)
      (holding [.ref d, .ref sub] (mergeMapping d (.ref sub) false)).onRaise fun x => do
        let _ ← holding [.ref d, x] (runValue (.builtin "proto.let_go" {}))
        pure ()
      pure (some d)

theorem encI_append (a b : List (Int × PyData)) : encI (a ++ b) = encI a ++ encI b := by simp [encI]

theorem flush_lits {run : List (Sem Value × Sem Value)} {xs : List (Int × PyData)} (h : LitPairs (model prog w) A run xs) {h₀ : Heap} {acc : List (Int × Value)} {m : Option Addr} {s : Shared} {Q : Option Addr → Shared → Prop}
    (hm : Main prog w h₀ s.heap acc m) (hk : ∀ b o, h₀.get? b = some o → s.heap.get? b = some o) (hgrow : h₀.objs.size ≤ s.heap.objs.size) (hn : (acc.map (·.1) ++ xs.map (·.1)).Nodup) (hsz : acc.length + xs.length ≤ sizeLine)
    (hlow : sysModules < h₀.objs.size)
    (hq : ∀ h' tk kvs m', Main prog w h₀ h' (acc ++ kvs) m' → FlatPairs PyData.int kvs (encI xs) → (∀ b o, h₀.get? b = some o → h'.get? b = some o) → h₀.objs.size ≤ h'.objs.size → Q m' { s with heap := h', toks := tk }) :
    wpAny (model prog w) A (flushD run m) Q E s := by
  unfold flushD
  cases h with
  | nil => exact wpAny_pure (hq s.heap s.toks [] m (by simpa using hm) .nil hk hgrow)
  | @cons p x ps xs hp hps =>
    rw [if_neg (by simp)]
    have hx : ((x :: xs).map (·.1)).Nodup := (List.nodup_append.mp hn).2.1
    cases m with
    | none =>
      obtain rfl : acc = [] := hm
      refine wpAny_bind (sub_lits (.cons hp hps) hx (by omega) fun h' tk kvs hd hf hk' => wpAny_pure ?_)
      have hlt : s.heap.objs.size < h'.objs.size := by obtain ⟨o, _, _, ho, _⟩ := hd; exact Heap.lt_size ho
      refine hq h' tk kvs (some s.heap.objs.size) ⟨?_, hgrow, by simpa using hd⟩ hf (fun b o e => hk' b o (hk b o e)) (Nat.le_trans hgrow (Nat.le_of_lt hlt))
      intro e
      rw [List.nil_append] at e
      subst e
      cases hf
    | some d =>
      obtain ⟨hne, hge, hd⟩ := hm
      refine wpAny_bind (wpAny_holding (sub_lits (.cons hp hps) hx (by omega) fun h' tk kvs hd' hf hk' => ?_))
      have hdlt : d < s.heap.objs.size := by obtain ⟨o, _, _, ho, _⟩ := hd; exact Heap.lt_size ho
      have hlt : s.heap.objs.size < h'.objs.size := by obtain ⟨o, _, _, ho, _⟩ := hd'; exact Heap.lt_size ho
      have hkeys := flat_keys hf
      have hlen : kvs.length = (x :: xs).length := by rw [← List.length_map (f := (·.1)) (as := kvs), hkeys, List.length_map]
      refine wpAny_bind (wpAny_onRaise (wpAny_holding (merge_fresh (knd := intKind prog w) (Nat.ne_of_lt hdlt) ?_ hne (hd.keep hk') hd' ?_ (by rw [hlen]; exact hsz) fun h'' hd'' hs'' => wpAny_pure ?_)))
      · exact beq_eq_false_iff_ne.mpr (Nat.ne_of_gt (Nat.lt_of_lt_of_le hlow hgrow))
      · rw [List.map_append, hkeys]; exact hn
      · refine hq h'' tk kvs (some d) ⟨by simp [hne], hge, hd''⟩ hf (fun b o e => ?_) (by rw [hs''.1]; exact Nat.le_trans hgrow (Nat.le_of_lt hlt))
        exact (hs''.2 b (Nat.ne_of_lt (Nat.lt_of_lt_of_le (Heap.lt_size e) hge))).trans (hk' b o (hk b o e))

theorem loop_lits {h₀ : Heap} (hlow : sysModules < h₀.objs.size)
    (f : (Option (Sem Value) × Sem Value) → (Option Addr × List (Sem Value × Sem Value)) → Sem (ForInStep (Option Addr × List (Sem Value × Sem Value))))
    (hf : ∀ (p : Sem Value × Sem Value) r, f (some p.1, p.2) r = if ((r.2 ++ [p]).length == 17) = true then (do let m ← flushD (r.2 ++ [p]) r.1; pure (.yield (m, []))) else pure (.yield (r.1, r.2 ++ [p])))
    {ps : List (Sem Value × Sem Value)} {xs : List (Int × PyData)} (h : LitPairs (model prog w) A ps xs) :
    ∀ (run : List (Sem Value × Sem Value)) (ys : List (Int × PyData)) (acc : List (Int × Value)) (D : List (Int × PyData)) (m : Option Addr) (s : Shared) (Q : Option Addr × List (Sem Value × Sem Value) → Shared → Prop),
    LitPairs (model prog w) A run ys → Main prog w h₀ s.heap acc m → FlatPairs PyData.int acc (encI D) → (∀ b o, h₀.get? b = some o → s.heap.get? b = some o) → h₀.objs.size ≤ s.heap.objs.size →
    ((D ++ ys ++ xs).map (·.1)).Nodup → (D ++ ys ++ xs).length ≤ sizeLine →
    (∀ h' tk acc' D' m' run' ys', Main prog w h₀ h' acc' m' → FlatPairs PyData.int acc' (encI D') → LitPairs (model prog w) A run' ys' → D' ++ ys' = D ++ ys ++ xs →
      (∀ b o, h₀.get? b = some o → h'.get? b = some o) → h₀.objs.size ≤ h'.objs.size → Q (m', run') { s with heap := h', toks := tk }) →
    wpAny (model prog w) A (forIn (ps.map fun p => (some p.1, p.2)) (m, run) f) Q E s := by
  induction h with
  | nil =>
    intro run ys acc D m s Q hr hm hD hk hg hn hsz hq
    rw [List.map_nil, List.forIn_nil]
    exact wpAny_pure (hq s.heap s.toks acc D m run ys hm hD hr (by simp) hk hg)
  | @cons p x ps xs hp hps ih =>
    intro run ys acc D m s Q hr hm hD hk hg hn hsz hq
    rw [List.map_cons, List.forIn_cons, hf]
    have e0 : D ++ ys ++ x :: xs = D ++ (ys ++ [x]) ++ xs := by simp
    rw [e0] at hn hsz hq
    have hr' := hr.snoc hp
    by_cases hc : ((run ++ [p]).length == 17) = true
    · rw [if_pos hc]
      have hkeys := flat_keys hD
      have hlen : acc.length = D.length := by rw [← List.length_map (f := (·.1)) (as := acc), hkeys, List.length_map]
      refine wpAny_bind (wpAny_bind (flush_lits hr' hm hk hg ?_ ?_ hlow fun h' tk kvs m' hm' hf' hk' hg' => wpAny_pure ?_))
      · rw [hkeys, ← List.map_append]
        exact hn.sublist (List.Sublist.map _ (List.sublist_append_left _ _))
      · rw [hlen]; simp only [List.length_append] at hsz ⊢; omega
      · refine ih [] [] (acc ++ kvs) (D ++ (ys ++ [x])) m' _ Q .nil hm' (by rw [encI_append]; exact flat_append hD hf') hk' hg' (by simpa using hn) (by simpa using hsz) ?_
        intro h'' tk'' acc' D' m'' run' ys' a1 a2 a3 a4 a5 a6
        exact hq h'' tk'' acc' D' m'' run' ys' a1 a2 a3 (by simpa using a4) a5 a6
    · rw [if_neg hc]
      refine wpAny_bind (wpAny_pure ?_)
      exact ih (run ++ [p]) (ys ++ [x]) acc D m _ Q hr' hm hD hk hg hn hsz hq

theorem display_lits {ps : List (Sem Value × Sem Value)} {xs : List (Int × PyData)} (h : LitPairs (model prog w) A ps xs) {s : Shared} {Q : Value → Shared → Prop} (h0 : xs ≠ [])
    (hn : (xs.map (·.1)).Nodup) (hsz : xs.length ≤ sizeLine) (hlow : sysModules < s.heap.objs.size)
    (hq : ∀ a h' tk kvs, s.heap.objs.size ≤ a → h'.DictOf (intKind prog w) a kvs → FlatPairs PyData.int kvs (encI xs) → (∀ b o, s.heap.get? b = some o → h'.get? b = some o) → Q (.ref a) { s with heap := h', toks := tk }) :
    wpAny (model prog w) A (dictDisplay (ps.map fun p => (some p.1, p.2))) Q E s := by
  unfold dictDisplay
  dsimp only
  refine wpAny_bind (loop_lits (h₀ := s.heap) hlow _ ?_ h [] [] [] [] none s _ .nil rfl .nil (fun _ _ e => e) (Nat.le_refl _) (by simpa using hn) (by simpa using hsz) ?_)
  · rintro ⟨k, v⟩ ⟨m, run⟩
    rfl
  · intro h' tk acc D m run ys hm hD hr e hk hg
    rw [List.nil_append, List.nil_append] at e
    have hkeys := flat_keys hD
    have hlen : acc.length = D.length := by rw [← List.length_map (f := (·.1)) (as := acc), hkeys, List.length_map]
    have hfl := flush_lits (E := E) (Q := fun r s' => wpAny (model prog w) A (match r with | some d => pure (Value.ref d) | none => newDict) Q E s') (s := { s with heap := h', toks := tk }) hr hm hk hg
      (by rw [hkeys, ← List.map_append, e]; exact hn) (by rw [hlen, ← List.length_append, e]; exact hsz) hlow ?_
    · unfold flushD at hfl
      exact wpAny_bind hfl
    · intro h'' tk'' kvs m'' hm'' hf'' hk'' hg''
      have hall : FlatPairs PyData.int (acc ++ kvs) (encI xs) := by rw [← e, encI_append]; exact flat_append hD hf''
      cases m'' with
      | none =>
        have e1 : acc ++ kvs = [] := hm''
        rw [e1] at hall
        exact absurd (by cases xs with | nil => rfl | cons _ _ => cases hall) h0
      | some d => exact wpAny_pure (hq d h'' tk'' _ hm''.2.1 hm''.2.2 hall hk'')
end
end Mine
end

section
open PySem PySem.W PyProof.Rows PySem.Calls
namespace Mine

theorem range_not_set : isSubtype (.type "range") (.type "set") = pure false := by rw [isSubtype_type]; kernel_rfl
theorem range_not_frozenset : isSubtype (.type "range") (.type "frozenset") = pure false := by rw [isSubtype_type]; kernel_rfl

section
variable {w : World} {A : Around} {E : Value → Shared → Prop} {s : Shared}

theorem update_range {S r : Addr} {a b : Int} {t u v : Tok} {n : Nat} {led : Bool} {Q : Unit → Shared → Prop} (hh : A.handled = none)
    (hS : s.heap.get? S = some { cls := .type "set", dict := none, data := .set #[] 0 (.fresh 0 0 led) }) (hr : IsRange s.heap r a b 1 t u v) (hsm : Builtin.Range.small a b 1 = true)
    (hn : Builtin.Range.rangeSize a b 1 = n) (hb : n + 1 < scanBound)
    (hQ : ∀ h' tk, h'.SetOf (intKind Pg w) S (fun k => (firstMet (fun i => a + i * 1) n).any (· == k)) (firstMet (fun i => a + i * 1) n).length →
      (∀ c o, c ≠ S → s.heap.get? c = some o → h'.get? c = some o) → Q () { s with heap := h', toks := tk }) :
    wpAny (model Pg w) A (Builtin.Frozenset.updateFrom "set.__init__" S (.ref r)) Q E s := by
  have hT : s.TypeIs (.ref r) "range" := ⟨_, hr, rfl⟩
  have hSlt : S < s.heap.objs.size := Heap.lt_size hS
  unfold Builtin.Frozenset.updateFrom Builtin.Frozenset.isAnySet
  refine wpAny_bind ?_
  refine wpAny_bind (wpAny_isInstance hT range_not_set ?_)
  refine wpAny_isInstance hT range_not_frozenset ?_
  rw [if_neg Bool.false_ne_true]
  refine wpAny_bind (wpAny_typeOf hT ?_)
  rw [if_neg (by decide)]
  refine wpAny_bind (wpAny_pyIter_range hr hsm ?_)
  refine wpAny_bind (wpAny_runValue ?_)
  have hI : S ∉ [s.heap.objs.size] := by simpa using Nat.ne_of_lt hSlt
  have hget : (s.heap.push { cls := .type "range_iterator", data := .fields #[rawInt a, rawInt (Builtin.Range.rangeSize a b 1), rawInt 1] }).get? S
      = some { cls := .type "set", dict := none, data := .set #[] 0 (.fresh 0 0 led) } := Heap.get?_push_of_some _ hS
  refine codeAny_set_update_loopS ((Walks.range (prog := Pg) (w := w) (A := A.in1) hh s.heap.objs.size a 1 n).toS) S hI (fun i => a + i * 1) (fun i v hv => hv) hb (n - 0) 0 _ rfl (Nat.zero_le _) ?_
    (SetOf_congr ((setObjOf_fresh (knd := intKind Pg w) led).setOf hget (by unfold scanBound; omega)) (fun _ => rfl) rfl) ?_
  · show IsRangeIter _ _ _ _ _
    rw [hn]
    simpa using Heap.get?_push_size _ rfl
  · rintro ⟨h', g', d', tk', os'⟩ hm hS'
    have eg : g' = s.gens := hm.gens
    have ed : d' = s.drawn := hm.drawn
    have eo : os' = s.os := hm.os
    subst eg ed eo
    refine wpAny_pure (hQ h' tk' hS' fun c o hc e => hm.heap c o ?_ (Heap.get?_push_of_some _ e))
    simp only [List.mem_cons, List.not_mem_nil, or_false, not_or]
    exact ⟨hc, Nat.ne_of_lt (Heap.lt_size e)⟩

theorem init_range {S r : Addr} {a b : Int} {t u v : Tok} {n : Nat} {led : Bool} {Q : Value → Shared → Prop} (hh : A.handled = none)
    (hS : s.heap.get? S = some { cls := .type "set", dict := none, data := .set #[] 0 (.fresh 0 0 led) }) (hr : IsRange s.heap r a b 1 t u v) (hsm : Builtin.Range.small a b 1 = true)
    (hn : Builtin.Range.rangeSize a b 1 = n) (hb : n + 1 < scanBound)
    (hQ : ∀ h' tk, h'.SetOf (intKind Pg w) S (fun k => (firstMet (fun i => a + i * 1) n).any (· == k)) (firstMet (fun i => a + i * 1) n).length →
      (∀ c o, c ≠ S → s.heap.get? c = some o → h'.get? c = some o) → Q .none { s with heap := h', toks := tk }) :
    wpAny (model Pg w) A (Builtin.«set.__init__» ⟨[.ref S, .ref r], []⟩) (fun fin s' => ∃ v, fin = .done (.ret v) ∧ Q v s') E s := by
  have hT : Shared.TypeIs s (.ref S) "set" := ⟨_, hS, rfl⟩
  have hup := fun {Q' : Unit → Shared → Prop} hq => update_range (w := w) (A := A) (E := E) (Q := Q') hh hS hr hsm hn hb hq
  unfold Builtin.«set.__init__» noKeywords
  generalize Builtin.Frozenset.updateFrom = U at hup ⊢
  dsimp only
  wp_walk
  exact hup fun h' tk hS' hk => wpAny_pure ⟨_, rfl, hQ h' tk hS' hk⟩

set_option maxRecDepth 100000 in
set_option maxHeartbeats 3200000 in
theorem call_set_range {r : Addr} {a b : Int} {t u v : Tok} {n : Nat} {Q : Value → Shared → Prop} (hh : A.handled = none) (hr : IsRange s.heap r a b 1 t u v) (hsm : Builtin.Range.small a b 1 = true)
    (hn : Builtin.Range.rangeSize a b 1 = n) (hb : n + 1 < scanBound)
    (hQ : ∀ h' tk, h'.SetOf (intKind Pg w) s.heap.objs.size (fun k => (firstMet (fun i => a + i * 1) n).any (· == k)) (firstMet (fun i => a + i * 1) n).length →
      Keeps s.heap h' → Q (.ref s.heap.objs.size) { s with heap := h', toks := tk }) :
    wpAny (model Pg w) A (call (.type "set") [.ref r]) Q E s := by
  obtain ⟨c, tl, hmro⟩ := PySem.F.called_set.mro
  have hmade := PySem.F.called_set.made
  have hsub := PySem.F.called_set.sub
  refine wpAny_call (codeAny_of_tree ?_)
  show wpAny _ _ (callAny (.type "set") _) _ _ _
  refine wpAny_pure ⟨Code.quiet_builtin _ (by decide +kernel), codeAny_builtin PySem.F.entry_type_call ?_⟩
  rw [Around.under_plain (weight_type_call_type "set" [.ref r] []) rfl]
  have h1 := PySem.F.called_set.notType
  have h2 := PySem.F.called_set.canCreate
  have hct := PySem.F.typeCall_set_1 (.ref r)
  repeat (any_goals (first | assumption | wp_step))
  have hnew : codeAny (model Pg w) A.in1 (.call (.builtin "set.__new__") ⟨[.type "set", .ref r], []⟩)
      (wants (fun obj s₁ => ∃ led : Bool, obj = .ref s.heap.objs.size ∧ s₁ = { s with heap := s.heap.push { cls := .type "set", dict := none, data := .set #[] 0 (.fresh 0 0 led) } }) E) s :=
    code_set_new_1 (.ref r) fun led => ⟨led, rfl, rfl⟩
  refine codeAny_mono hnew fun res s₁ hres => ?_
  match res, hres with
  | .error e, hres => exact hres
  | .ok (.ret obj), hres =>
    obtain ⟨led, rfl, rfl⟩ := hres
    have hS : (s.heap.push { cls := .type "set", dict := none, data := .set #[] 0 (.fresh 0 0 led) }).get? s.heap.objs.size = some { cls := .type "set", dict := none, data := .set #[] 0 (.fresh 0 0 led) } := Heap.get?_push_size _ rfl
    have hT : Shared.TypeIs { s with heap := s.heap.push { cls := .type "set", dict := none, data := .set #[] 0 (.fresh 0 0 led) } } (.ref s.heap.objs.size) "set" := ⟨_, hS, rfl⟩
    have hli := PySem.F.called_set.init.lookup
    have hbi := PySem.F.called_set.init.bind (.ref s.heap.objs.size)
    repeat (any_goals (first | assumption | wp_step))
    have hinit : codeAny (model Pg w) A.in1 (.call (.builtin "set.__init__") ⟨[.ref s.heap.objs.size, .ref r], []⟩)
        (wants (fun x s₂ => x = .none ∧ ∃ h' tk, s₂ = { s with heap := h', toks := tk } ∧
          h'.SetOf (intKind Pg w) s.heap.objs.size (fun k => (firstMet (fun i => a + i * 1) n).any (· == k)) (firstMet (fun i => a + i * 1) n).length ∧ Keeps s.heap h') E)
        { s with heap := s.heap.push { cls := .type "set", dict := none, data := .set #[] 0 (.fresh 0 0 led) } } := by
      refine codeAny_call_builtin PySem.F.called_set.init.plain PySem.F.entry_set_init (check_set_init_1 hT ?_)
      have hr' : IsRange (s.heap.push { cls := .type "set", dict := none, data := .set #[] 0 (.fresh 0 0 led) }) r a b 1 t u v := Heap.get?_push_of_some _ hr
      refine wpAny_mono (init_range (s := { s with heap := s.heap.push { cls := .type "set", dict := none, data := .set #[] 0 (.fresh 0 0 led) } })
        (Q := fun x s₂ => x = .none ∧ ∃ h' tk, s₂ = { s with heap := h', toks := tk } ∧
          h'.SetOf (intKind Pg w) s.heap.objs.size (fun k => (firstMet (fun i => a + i * 1) n).any (· == k)) (firstMet (fun i => a + i * 1) n).length ∧ Keeps s.heap h') (by exact hh) hS hr' hsm hn hb
        fun h' tk hS' hk => ⟨rfl, h', tk, rfl, hS', fun c o e => hk c o (Nat.ne_of_lt (Heap.lt_size e)) (Heap.get?_push_of_some _ e)⟩) (fun fin s' hh => ?_) fun _ _ x => x
      obtain ⟨x, rfl, hx⟩ := hh
      exact hx
    refine codeAny_mono hinit fun res₂ s₂ hres₂ => ?_
    match res₂, hres₂ with
    | .error e, hres₂ => exact hres₂
    | .ok (.ret x), hres₂ =>
      obtain ⟨rfl, h', tk, rfl, hS', hk⟩ := hres₂
      repeat (any_goals (first | assumption | wp_step))
      exact hQ h' tk hS' hk
    | .ok .next, hres₂ => exact hres₂.elim
    | .ok .brk, hres₂ => exact hres₂.elim
    | .ok .cont, hres₂ => exact hres₂.elim
  | .ok .next, hres => exact hres.elim
  | .ok .brk, hres => exact hres.elim
  | .ok .cont, hres => exact hres.elim
end
end Mine
end

section
open PySem PySem.W PyProof.Rows PySem.Calls
namespace Mine

def rangeOf : PySem.Expr → Option (Int × Nat)
  | .Call (.Name f _) [.Constant (.int a) _ _, .Constant (.int b) _ _] [] _ => if f = ("range" : Str) ∧ 0 ≤ a ∧ a ≤ b ∧ b < 1000000 then some (a, (b - a).toNat) else none
  | _ => none
def litInts : List PySem.Expr → Option (List Int)
  | [] => some []
  | .Constant (.int i) _ _ :: r => (litInts r).map (i :: ·)
  | _ => none
def listOf' : PySem.Expr → Option (List Int)
  | .List elts _ => litInts elts
  | .Call (.Name f _) [e] [] _ => if f = ("list" : Str) then (rangeOf e).map fun x => upFrom x.1 x.2 else none
  | .BinOp l .Add r _ => match listOf' l, listOf' r with
    | some a, some b => some (a ++ b)
    | _, _ => none
  | _ => none
def setOf' : PySem.Expr → Option (List Int)
  | .Call (.Name f _) [e] [] _ => if f = ("set" : Str) then (match rangeOf e with | some x => some (upFrom x.1 x.2) | none => listOf' e) else none
  | _ => none

theorem upFrom_length (a : Int) (n : Nat) : (upFrom a n).length = n := by simp [upFrom]

theorem intsAre_own : ∀ (vs : List Value) (f : Nat → Int), (∀ (j : Nat) (v : Value), vs[j]? = some v → ∃ t, v = .int (f j) t) → IntsAre vs ((List.range vs.length).map f)
  | [], _, _ => .nil
  | v :: vs, f, h => by
    obtain ⟨t, rfl⟩ := h 0 v rfl
    rw [List.length_cons, List.range_succ_eq_map, List.map_cons, List.map_map]
    exact .cons _ _ (intsAre_own vs (f ∘ Nat.succ) fun j v hj => h (j + 1) v hj)

/-- The names that the module's top reads: the built-ins stand bare. -/
structure Bare (mg : Str → Option Value) (h : Heap) : Prop where
  g : h.Ns mainGlobals mg
  b : ∃ mb, h.Ns builtinsNs mb ∧ ∀ x : Str, x ≠ "__name__" → mb x = bootBuiltins x
  free : ∀ x : Str, x ∈ (["set", "list", "range"] : List Str) → mg x = none
theorem Bare.keeps {mg : Str → Option Value} {h h' : Heap} (X : Bare mg h) (hk : Keeps h h') : Bare mg h' :=
  ⟨X.g.keeps hk, let ⟨mb, h1, h2⟩ := X.b; ⟨mb, h1.keeps hk, h2⟩, X.free⟩

/-- The module's own block. -/
structure TopEnv (env : Env) : Prop where
  kind : env.scope.kind = .module
  locals : env.locals = env.globals
  globals : env.globals = mainGlobals
  builtins : env.builtins = builtinsNs

section
variable {w : World} {A : Around} {E : Value → Shared → Prop} {s : Shared} {mg : Str → Option Value} {env : Env}

theorem nm_top {x : Str} {v : Value} {pos : Pos} {Q : Value → Shared → Prop} (T : TopEnv env) (X : Bare mg s.heap) (hx : x ∈ (["set", "list", "range"] : List Str)) (hv : bootBuiltins x = some v) (h : Q v s)
    (hn : x ≠ "__name__" := by decide) (hd : (x == ("__debug__" : Str)) = false := by decide) :
    wpAny (model Pg w) A (eval (.Name x pos) env) Q E s :=
  let ⟨_, hb, hbs⟩ := X.b
  Name_module T.kind T.locals (loadGlobal_builtin (env := env) (T.globals ▸ X.g) (X.free x hx) (T.builtins ▸ hb) ((hbs x hn).trans hv) h) hd

theorem nm_range {pos : Pos} {Q : Value → Shared → Prop} (T : TopEnv env) (X : Bare mg s.heap) (h : Q (.type "range") s) : wpAny (model Pg w) A (eval (.Name "range" pos) env) Q E s :=
  nm_top T X (by decide) (by decide +kernel) h
theorem nm_list {pos : Pos} {Q : Value → Shared → Prop} (T : TopEnv env) (X : Bare mg s.heap) (h : Q (.type "list") s) : wpAny (model Pg w) A (eval (.Name "list" pos) env) Q E s :=
  nm_top T X (by decide) (by decide +kernel) h
theorem nm_setT {pos : Pos} {Q : Value → Shared → Prop} (T : TopEnv env) (X : Bare mg s.heap) (h : Q (.type "set") s) : wpAny (model Pg w) A (eval (.Name "set" pos) env) Q E s :=
  nm_top T X (by decide) (by decide +kernel) h

theorem range_eq {a b : Int} (h1 : a ≤ b) : Builtin.Range.rangeSize a b 1 = ((b - a).toNat : Int) := by
  unfold Builtin.Range.rangeSize
  rw [if_pos (by decide)]
  split <;> omega
theorem range_small {a b : Int} (h0 : 0 ≤ a) (h1 : a ≤ b) (h2 : b < 1000000) : Builtin.Range.small a b 1 = true := by
  unfold Builtin.Range.small
  rw [range_eq h1]
  unfold Builtin.Range.rangeFitsLong
  have hc : (1 : Int) > 0 := by decide
  simp only [hc, if_true, Bool.and_eq_true, Bool.or_eq_true, decide_eq_true_eq, beq_iff_eq]
  omega

theorem eval_range {e : PySem.Expr} {x : Int × Nat} {Q : Value → Shared → Prop} (he : rangeOf e = some x) (T : TopEnv env) (X : Bare mg s.heap)
    (hq : ∀ r h' tk t u v, s.heap.objs.size ≤ r → Keeps s.heap h' → IsRange h' r x.1 (x.1 + x.2) 1 t u v → Builtin.Range.small x.1 (x.1 + x.2) 1 = true → Builtin.Range.rangeSize x.1 (x.1 + x.2) 1 = (x.2 : Int) →
      Q (.ref r) { s with heap := h', toks := tk }) :
    wpAny (model Pg w) A (eval e env) Q E s := by
  unfold rangeOf at he
  split at he
  · rename_i f p a k₁ p₁ b k₂ p₂ pos
    split at he
    · rename_i hc
      obtain ⟨rfl, h0, h1, h2⟩ := hc
      cases he
      have hs : a + ((b - a).toNat : Int) = b := by omega
      dsimp only at hq
      rw [hs] at hq
      refine Call_Name rfl (nm_range T X ?_)
      refine PyProof.Rows.callWith_type1 (args_cons (wpAny_Constant_int (args_cons (wpAny_Constant_int (args_nil ?_)))))
      exact call_range_2 (hq _ _ _ _ _ _ (Nat.le_refl _) (fun _ _ e => Heap.get?_push_of_some _ e) (IsRange.new ..) (range_small h0 h1 h2) (range_eq h1))
    · cases he
  · cases he

theorem eval_lits : ∀ (elts : List PySem.Expr) (ns : List Int) (s : Shared) (pos : Pos) (Q : List Value → Shared → Prop), litInts elts = some ns →
    (∀ vs tk, IntsAre vs ns → Q vs { s with toks := tk }) → wpAny (model Pg w) A (spliced (backTo pos (starEach elts env))) Q E s := by
  intro elts
  induction elts with
  | nil => intro ns s pos Q he hq; cases he; exact args_nil (hq [] s.toks .nil)
  | cons e r ih =>
    intro ns s pos Q he hq
    unfold litInts at he
    split at he
    · rename_i heq; cases heq
    · rename_i i k p r' heq
      cases heq
      obtain ⟨ns', h1, rfl⟩ := Option.map_eq_some_iff.mp he
      refine args_cons (wpAny_Constant_int ?_)
      exact ih ns' _ pos _ h1 fun vs tk hv => hq _ tk (.cons _ _ hv)
    · cases he

theorem list_of_range {r : Addr} {a : Int} {n : Nat} {t u v : Tok} {Q : Value → Shared → Prop} (hh : A.handled = none) (hr : IsRange s.heap r a (a + n) 1 t u v) (hsm : Builtin.Range.small a (a + n) 1 = true)
    (hn : Builtin.Range.rangeSize a (a + n) 1 = (n : Int)) (hb : n ≤ 1000)
    (hq : ∀ D h' tk vs, s.heap.objs.size ≤ D → Keeps s.heap h' → h'.IsList D vs.toArray → IntsAre vs (upFrom a n) → Q (.ref D) { s with heap := h', toks := tk }) :
    wpAny (model Pg w) A (call (.type "list") [.ref r]) Q E s := by
  refine call_list_range (n := n) hh hr hsm hn (Nat.le_trans hb (by decide)) fun h' tk acc c' hk ho hacc => ?_
  refine hq _ h' tk acc.toList (Nat.le_refl _) hk ⟨_, ho, rfl, c', rfl⟩ ?_
  have e1 : n = acc.toList.length := by rw [Array.length_toList, hacc.1]
  unfold upFrom
  rw [e1]
  refine intsAre_own acc.toList (fun i => a + (i : Int)) fun j v hj => ?_
  obtain ⟨t, ht⟩ := hacc.2 j v (by rw [← Array.getElem?_toList]; exact hj)
  exact ⟨t, by rw [ht, Int.mul_one]⟩

theorem lt_list {h : Heap} {D : Addr} {its : Array Value} (x : h.IsList D its) : D < h.objs.size := let ⟨_, e, _⟩ := x; Heap.lt_size e
theorem add_k2 {l b : Addr} {vs ws : List Value} {Q : Value → Shared → Prop} (hl : s.heap.IsList l vs.toArray) (hb : s.heap.IsList b ws.toArray) (hsz : vs.length + ws.length ≤ sizeLine)
    (h : ∀ D h', s.heap.objs.size ≤ D → Keeps s.heap h' → h'.get? D = some { cls := .type "list", data := .seq (vs ++ ws).toArray } → Q (.ref D) { s with heap := h' }) :
    wpAny (model Pg w) A (binaryOp .Add (.ref l) (.ref b)) Q E s := by
  obtain ⟨⟨c1, d1, p1, s1⟩, g1, rfl, n1, rfl⟩ := hl
  obtain ⟨⟨c2, d2, p2, s2⟩, g2, rfl, n2, rfl⟩ := hb
  refine concat_meets ⟨_, g1, rfl⟩ ⟨_, g2, rfl⟩ noFill_list_add seq_list_add PySem.F.slot_list_add PySem.F.entry_list_add (PySem.F.args_list_add_2 _ _) (list_addW l b vs.toArray ws.toArray n1 n2 d1 d2 s1 s2 (by simpa using hsz)) ⟨g1, g2, ?_⟩
  refine h _ _ (Nat.le_refl _) (fun _ _ e => Heap.get?_push_of_some _ e) ((Heap.get?_push_size _ rfl).trans ?_)
  simp

theorem star_range {e : PySem.Expr} {x : Int × Nat} (hx : rangeOf e = some x) : starEach [e] env = (false, eval e env) :: starEach [] env := by
  unfold rangeOf at hx
  split at hx
  · rfl
  · cases hx
theorem star_list {e : PySem.Expr} {x : List Int} (hx : listOf' e = some x) : starEach [e] env = (false, eval e env) :: starEach [] env := by
  unfold listOf' at hx
  split at hx
  · rfl
  · rfl
  · rfl
  · cases hx

theorem eval_list : ∀ (e : PySem.Expr) (ns : List Int) (s : Shared) (Q : Value → Shared → Prop), listOf' e = some ns → ns.length ≤ 1000 → TopEnv env → Bare mg s.heap → A.handled = none →
    (∀ D h' tk vs, s.heap.objs.size ≤ D → Keeps s.heap h' → h'.IsList D vs.toArray → IntsAre vs ns → Q (.ref D) { s with heap := h', toks := tk }) →
    wpAny (model Pg w) A (eval e env) Q E s := by
  intro e
  fun_induction listOf' e with
  | case1 elts p =>
    intro ns s Q he hl T X hh hq
    refine List_ (eval_lits _ _ _ _ _ he fun vs tk hv => ?_)
    refine wpAny_newList (hq _ _ _ vs (Nat.le_refl _) (fun _ _ e => Heap.get?_push_of_some _ e) ⟨_, Heap.get?_push_size _ rfl, rfl, _, rfl⟩ hv) ?_
    have := hv.length
    unfold sizeLine
    omega
  | case2 p e pos =>
    intro ns s Q he hl T X hh hq
    obtain ⟨x, hx, rfl⟩ := Option.map_eq_some_iff.mp he
    rw [upFrom_length] at hl
    refine Call_Name rfl (nm_list T X ?_)
    have hstar := star_range (env := env) hx
    refine PyProof.Rows.callWith_type1 (args_cons (eval_range hx T X fun r h' tk t u v hr hk hR hsm hn => args_nil ?_) hstar) hstar
    refine list_of_range (s := { s with heap := h', toks := tk }) hh hR hsm hn hl fun D h'' tk'' vs hD hk'' hL hI => ?_
    exact hq D h'' tk'' vs (Nat.le_trans hr (Nat.le_trans (Nat.le_of_lt (Heap.lt_size hR)) hD)) (hk.trans hk'') hL hI
  | case3 => intro ns s Q he; cases he
  | case4 l r p a b hb ha ihl ihr =>
    intro ns s Q he hl T X hh hq
    cases he
    rw [List.length_append] at hl
    refine wpAny_BinOp (ihl _ _ _ ‹_› (by omega) T X hh fun D h' tk vs hD hk hL hI => ?_)
    refine ihr _ _ _ ‹_› (by omega) T (X.keeps hk) hh fun D' h'' tk' vs' hD' hk' hL' hI' => ?_
    refine add_k2 (s := { s with heap := h'', toks := tk' }) (let ⟨o, e, x⟩ := hL; ⟨o, hk' _ _ e, x⟩) hL' ?_ fun D'' h''' hD'' hk'' ho => ?_
    · have e1 := hI.length
      have e2 := hI'.length
      unfold sizeLine
      omega
    · exact hq D'' h''' tk' (vs ++ vs') (Nat.le_trans hD (Nat.le_trans (Nat.le_of_lt (lt_list hL)) (Nat.le_trans hD' (Nat.le_trans (Nat.le_of_lt (lt_list hL')) hD'')))) ((hk.trans hk').trans hk'') ⟨_, ho, rfl, _, rfl⟩ (hI.append hI')
  | case5 => intro ns s Q he; cases he
  | case6 => intro ns s Q he; cases he

theorem firstMet_contains (ns : List Int) (n : Nat) (f : Nat → Int) (h : (List.range n).map f = ns) : (fun k => (firstMet f n).any (· == k)) = fun k => ns.contains k := by
  funext k
  rw [firstMet_any, h, List.contains_eq_any_beq]
  congr 1
  funext x
  exact Bool.beq_comm

theorem eval_set {e : PySem.Expr} {ns : List Int} {Q : Value → Shared → Prop} (he : setOf' e = some ns) (hl : ns.length ≤ 1000) (T : TopEnv env) (X : Bare mg s.heap) (hh : A.handled = none)
    (hq : ∀ D h' tk n o, s.heap.objs.size ≤ D → Keeps s.heap h' → h'.get? D = some o → o.SetObjOf (intKind Pg w) (fun i => ns.contains i) n → n ≤ 1000 → Q (.ref D) { s with heap := h', toks := tk }) :
    wpAny (model Pg w) A (eval e env) Q E s := by
  unfold setOf' at he
  split at he
  · rename_i f p e pos
    split at he
    · rename_i hf
      subst hf
      refine Call_Name rfl (nm_setT T X ?_)
      split at he
      · rename_i x hx
        cases he
        rw [upFrom_length] at hl
        have hstar := star_range (env := env) hx
        refine PyProof.Rows.callWith_type1 (args_cons (eval_range hx T X fun r h' tk t u v hr hk hR hsm hn => args_nil ?_) hstar) hstar
        refine call_set_range (s := { s with heap := h', toks := tk }) hh hR hsm hn (by unfold scanBound; omega) fun h'' tk'' hS hk'' => ?_
        obtain ⟨o, ho, hso⟩ := hS.objOf
        have hle := firstMet_length_le (fun i => x.1 + i * 1) x.2
        refine hq _ h'' tk'' _ o (Nat.le_trans hr (Nat.le_of_lt (Nat.lt_of_le_of_lt (Nat.le_refl _) (Heap.lt_size hR)))) (hk.trans hk'') ho ?_ (Nat.le_trans hle hl)
        rw [firstMet_contains (upFrom x.1 x.2) x.2 _ (by simp [upFrom])] at hso
        exact hso
      · have hstar := star_list (env := env) he
        refine PyProof.Rows.callWith_type1 (args_cons (eval_list _ _ _ _ he hl T X hh fun D h' tk vs hD hk hL hI => args_nil ?_) hstar) hstar
        have hlen := hI.length
        refine call_set_list (s := { s with heap := h', toks := tk }) hh hL (by simpa using hI) (by simp only [List.size_toArray]; unfold scanBound; omega) fun h'' tk'' hS hk'' => ?_
        obtain ⟨o, ho, hso⟩ := hS.objOf
        have hle := firstMet_length_le (fun i => ns.getD i 0) vs.toArray.size
        rw [List.size_toArray] at hle hso
        refine hq _ h'' tk'' _ o (Nat.le_trans hD (Nat.le_of_lt (lt_list hL))) (hk.trans fun b o' e => hk'' b o' (Heap.lt_size e) e) ho ?_ (Nat.le_trans hle (by omega))
        rw [firstMet_contains ns vs.length _ ?_] at hso
        · exact hso
        · rw [hlen]
          exact List.ext_getElem (by simp) fun i h1 h2 => by simp [List.getD_eq_getElem?_getD, h2]
    · cases he
  · cases he
end
end Mine
end

section
open PySem PySem.W PyProof.Rows PySem.Calls
namespace Mine

theorem tree1 {name : Str} {x1 : Str} {p1 : Pos} {body : List Stmt} {scope : Scope} {pos : Pos} : PlainDefTree name ⟨[], [⟨x1, none, p1⟩], none, [], [], none, []⟩ body scope pos := by
  intro env; rfl
theorem tree2 {name : Str} {x1 x2 : Str} {p1 p2 : Pos} {body : List Stmt} {scope : Scope} {pos : Pos} : PlainDefTree name ⟨[], [⟨x1, none, p1⟩, ⟨x2, none, p2⟩], none, [], [], none, []⟩ body scope pos := by
  intro env; rfl
theorem tree3 {name : Str} {x1 x2 x3 : Str} {p1 p2 p3 : Pos} {body : List Stmt} {scope : Scope} {pos : Pos} : PlainDefTree name ⟨[], [⟨x1, none, p1⟩, ⟨x2, none, p2⟩, ⟨x3, none, p3⟩], none, [], [], none, []⟩ body scope pos := by
  intro env; rfl

inductive Act where
  | fn (d : DefItem)
  | nm (x v : Str)
  | set (x : Str) (ns : List Int)
  | tab (x : Str) (D : List (PyData × PyData))

def bare3 : List Arg → Bool
  | [⟨_, none, _⟩] => true
  | [⟨_, none, _⟩, ⟨_, none, _⟩] => true
  | [⟨_, none, _⟩, ⟨_, none, _⟩, ⟨_, none, _⟩] => true
  | _ => false
theorem bare3_tree {name : Str} {as : List Arg} {body : List Stmt} {scope : Scope} {pos : Pos} (h : bare3 as = true) : PlainDefTree name ⟨[], as, none, [], [], none, []⟩ body scope pos := by
  unfold bare3 at h
  split at h
  · exact tree1
  · exact tree2
  · exact tree3
  · cases h

def actOf : Stmt → Option Act
  | .FunctionDef name ⟨[], as, none, [], [], none, []⟩ body [] none [] scope none bind pos =>
    if bind = name ∧ bare3 as = true ∧ docOf body = none ∧ (∀ x ∈ scope.names, x.2 ≠ .free) then some (.fn ⟨name, ⟨[], as, none, [], [], none, []⟩, body, scope, pos⟩) else none
  | .Assign [.Name x _] (.Constant (PySem.Const.str v) _ _) _ => some (.nm x v)
  | .Assign [.Name x _] (.Dict ks vs _) _ => if ks.all (·.isSome) = true ∧ ks.length = vs.length then (litPairs ks vs).map (.tab x) else none
  | .Assign [.Name x _] (.Call f as kw p) _ => (setOf' (.Call f as kw p)).map (.set x)
  | _ => none

def Act.name : Act → Str
  | .fn d => d.name
  | .nm x _ => x
  | .set x _ => x
  | .tab x _ => x

def sortedB : List Int → Bool
  | [] => true
  | [_] => true
  | a :: b :: r => decide (a < b) && sortedB (b :: r)
theorem sorted_above : ∀ (r : List Int) (a : Int), sortedB (a :: r) = true → ∀ b ∈ r, a < b
  | [], _, _, _, hb => (nomatch hb)
  | b :: r, a, h, x, hx => by
    simp only [sortedB, Bool.and_eq_true, decide_eq_true_eq] at h
    rcases List.mem_cons.mp hx with rfl | hx
    · exact h.1
    · exact Int.lt_trans h.1 (sorted_above r b h.2 x hx)
theorem sorted_nodup : ∀ (l : List Int), sortedB l = true → l.Nodup
  | [], _ => List.nodup_nil
  | a :: r, h => by
    refine List.nodup_cons.mpr ⟨fun hm => absurd (sorted_above r a h a hm) (Int.lt_irrefl a), sorted_nodup r ?_⟩
    cases r with
    | nil => rfl
    | cons b r => simp only [sortedB, Bool.and_eq_true] at h; exact h.2

def intFst : List (PyData × PyData) → Option (List (Int × PyData))
  | [] => some []
  | (.int i, d) :: r => (intFst r).map ((i, d) :: ·)
  | _ => none
theorem intFst_enc : ∀ (D : List (PyData × PyData)) (xs : List (Int × PyData)), intFst D = some xs → D = encI xs
  | [], xs, h => by cases h; rfl
  | (k, d) :: r, xs, h => by
    cases k with
    | int i =>
      obtain ⟨ys, h1, rfl⟩ := Option.map_eq_some_iff.mp h
      rw [intFst_enc r ys h1]; rfl
    | _ => cases h
def okTab (D : List (PyData × PyData)) : Bool := match intFst D with
  | some xs => sortedB (xs.map (·.1)) && decide (xs.length ≤ 5000) && !xs.isEmpty
  | none => false

open PySem.Spec PyProof.V in
theorem litPairs_lit {w : World} {A : Around} {env : Env} {pos : Pos} : ∀ (ks : List (Option PySem.Expr)) (vs : List PySem.Expr) (xs : List (Int × PyData)), litPairs ks vs = some (encI xs) → LitPairs (model Pg w) A (pairTrees ks vs env pos) xs
  | [], [], xs, h => by
    cases xs with
    | nil => exact .nil
    | cons x xs => simp [litPairs, encI] at h
  | [], _ :: _, xs, h => by simp [litPairs] at h
  | none :: _, _, xs, h => by simp [litPairs] at h
  | some _ :: _, [], xs, h => by simp [litPairs] at h
  | some k :: ks, v :: vs, xs, h => by
    simp only [litPairs, Option.bind_eq_bind, Option.pure_def, Option.bind_eq_some_iff, Option.some.injEq] at h
    obtain ⟨dk, hk, dv, hv, r, hr, e⟩ := h
    cases xs with
    | nil => simp [encI] at e
    | cons x xs =>
      simp only [encI, List.map_cons, List.cons.injEq, Prod.mk.injEq] at e
      obtain ⟨⟨rfl, rfl⟩, rfl⟩ := e
      refine .cons ⟨fun s Q E hq => ?_, fun s Q E hq => ?_⟩ (litPairs_lit ks vs xs hr)
      · refine eval_lit hk fun kv tk fk => ?_
        obtain ⟨t, rfl⟩ := fk.int_inv
        exact hq t tk
      · exact wpAny_bind (eval_lit hv fun vv tk fv => wpAny_bind (wpAny_standAt (wpAny_pure (hq vv tk fv))))

theorem eval_tab {w : World} {A : Around} {E : Value → Shared → Prop} {s : Shared} {env : Env} {ks : List (Option PySem.Expr)} {vs : List PySem.Expr} {pos : Pos} {D : List (PyData × PyData)} {Q : Value → Shared → Prop}
    (hall : ks.all (·.isSome) = true) (hl : ks.length = vs.length) (hD : litPairs ks vs = some D) (hok : okTab D = true) (hlow : sysModules < s.heap.objs.size)
    (hq : ∀ a o h' tk, s.heap.objs.size ≤ a → h'.get? a = some o → TabObj (intKind Pg w) PyData.int D o → Keeps s.heap h' → Q (.ref a) { s with heap := h', toks := tk }) :
    wpAny (model Pg w) A (eval (.Dict ks vs pos) env) Q E s := by
  unfold okTab at hok
  split at hok
  · rename_i xs hx
    simp only [Bool.and_eq_true, decide_eq_true_eq, Bool.not_eq_true', List.isEmpty_eq_false_iff] at hok
    obtain ⟨⟨h1, h2⟩, h3⟩ := hok
    have hDx := intFst_enc D xs hx
    rw [arm_eval_Dict, zip_pairTrees ks vs env pos hall hl]
    refine wpAny_bind (wpAny_standAt (display_lits (litPairs_lit ks vs xs (hDx ▸ hD)) h3 (sorted_nodup _ h1) (by unfold sizeLine; omega) hlow fun a h' tk kvs ha hd hf hk => ?_))
    obtain ⟨o, ho, hdo⟩ := Heap.dictOf_iff.mp hd
    exact hq a o h' tk ha ho ⟨kvs, hdo, hDx ▸ hf⟩ hk
  · cases hok
end Mine
end

section
open PySem PySem.W PyProof.Rows PySem.Calls
namespace Mine

def okName (x : Str) : Bool := decide (Pg.main.scope.names.lookup x = some .local) && decide (x ≠ "__builtins__") && decide (x ∉ (["set", "list", "range"] : List Str))
def Act.ok (names : List Str) (poss : List (Nat × Nat)) : Act → Bool
  | .fn d => okName d.name && decide (d.name ∉ names) && decide (d.name ≠ "__name__") && decide (qualnameIn { scope := Pg.main.scope, locals := mainGlobals, globals := mainGlobals, cells := [] } d.name d.name = d.name) && decide ((d.pos.line, d.pos.col) ∉ poss)
  | .nm x _ => okName x && (decide (x = "__name__") || decide (x ∉ names))
  | .set x ns => okName x && decide (x ∉ names) && decide (x ≠ "__name__") && decide (ns.length ≤ 1000)
  | .tab x D => okName x && decide (x ∉ names) && decide (x ≠ "__name__") && okTab D
def Act.posOf : Act → List (Nat × Nat)
  | .fn d => [(d.pos.line, d.pos.col)]
  | _ => []
def okSeq : List Str → List (Nat × Nat) → List Act → Bool
  | _, _, [] => true
  | names, poss, a :: r => a.ok names poss && okSeq (a.name :: names) (a.posOf ++ poss) r

def SetP (w : World) (ns : List Int) (o : Obj) : Prop := ∃ n, o.SetObjOf (intKind Pg w) (fun i => ns.contains i) n ∧ n ≤ 1000
def TabP (w : World) (D : List (PyData × PyData)) (o : Obj) : Prop := TabObj (intKind Pg w) PyData.int D o
def Act.In (w : World) (defs : List DefItem) (consts : List (Str × PyData)) (objs : List (Str × (Obj → Prop))) : Act → Prop
  | .fn d => d ∈ defs
  | .nm x v => x = "__name__" ∨ (x, PyData.str v) ∈ consts
  | .set x ns => (x, SetP w ns) ∈ objs
  | .tab x D => (x, TabP w D) ∈ objs

section
variable {M : Model} {A : Around} {E : Value → Shared → Prop} {s : Shared} {prog : Program} {c Pl F : Addr} {h₀ : Heap} {mg₀ mg : Str → Option Value} {ps : Array Value}
  {defs : List DefItem} {consts : List (Str × PyData)} {objs : List (Str × (Obj → Prop))} {names : List Str} {Q : Flow → Shared → Prop}

/-- A name that nothing tracked bears is bound anew. -/
theorem rebind_loose {h' : Heap} {x : Str} {v : Value} (X : Mod h₀ mg₀ c Pl s.heap mg ps defs consts objs names) (hd : ∀ d ∈ defs, d.name ≠ x) (hc : ∀ p ∈ consts, p.1 ≠ x) (ho : ∀ p ∈ objs, p.1 ≠ x)
    (hm : h'.Main (fun y => if y = x then some v else mg y) c Pl ps) (keep : ∀ b o, b ≠ Pl → b ≠ mainGlobals → s.heap.get? b = some o → h'.get? b = some o) (hsz : h₀.objs.size ≤ h'.objs.size) :
    Mod h₀ mg₀ c Pl h' (fun y => if y = x then some v else mg y) ps defs consts objs (x :: names) := by
  have off : ∀ {a : Addr}, h₀.objs.size ≤ a → a ≠ Pl ∧ a ≠ mainGlobals := fun ha => ⟨Nat.ne_of_gt (Nat.lt_of_lt_of_le X.lowP ha), Nat.ne_of_gt (Nat.lt_of_lt_of_le X.lowG ha)⟩
  have same : ∀ {y : Str}, y ≠ x → (fun y => if y = x then some v else mg y) y = mg y := fun hy => if_neg hy
  refine ⟨hm, fun b o hP hG e => keep b o hP hG (X.keep b o hP hG e), fun d hd' => ?_, fun p hp => ?_, fun y hy => ?_, fun d hd' => List.mem_cons_of_mem _ (X.dnames d hd'),
    fun p hp => List.mem_cons_of_mem _ (X.cnames p hp), fun p hp => ?_, fun p hp => List.mem_cons_of_mem _ (X.onames p hp), hsz, X.lowP, X.lowG, fun d hd' => ?_⟩
  · obtain ⟨a, c', o, pm, doc, dV, h1, h2, h3, h4, h5, h6, h7⟩ := X.made d hd'
    exact ⟨a, c', o, pm, doc, dV, h1, h2, (same (hd d hd')).trans h3, keep _ _ (off h1).1 (off h1).2 h4, h5, h6.at fun o => keep _ o (off h2).1 (off h2).2, h7.above fun b o hb => keep b o (off hb).1 (off hb).2⟩
  · obtain ⟨u, hu, hr⟩ := X.bound p hp
    exact ⟨u, (same (hc p hp)).trans hu, hr⟩
  · have h1 : y ≠ x := fun e => hy (by rw [e]; exact List.mem_cons_self)
    exact (same h1).trans (X.others y fun e => hy (List.mem_cons_of_mem _ e))
  · obtain ⟨a, o, hN, hb, hg, hq⟩ := X.held p hp
    exact ⟨a, o, hN, (same (ho p hp)).trans hb, keep _ _ (off hN).1 (off hN).2 hg, hq⟩
  · obtain ⟨a, o, fd, c', P, h1, r⟩ := (X.tabs d hd').above (h' := h') fun b o hb => keep b o (off hb).1 (off hb).2
    exact ⟨a, o, fd, c', P, (same (hd d hd')).trans h1, r⟩

theorem assign_loose {x : Str} {pos' pos : Pos} {value : PySem.Expr} {d : PyData} (X : Mod h₀ mg₀ c Pl s.heap mg ps defs consts objs names)
    (hloc : prog.main.scope.names.lookup x = some .local) (hd : ∀ d ∈ defs, d.name ≠ x) (hc : ∀ p ∈ consts, p.1 ≠ x) (ho : ∀ p ∈ objs, p.1 ≠ x)
    (hval : ∀ Q' : Value → Shared → Prop, (∀ v tk, IsDatum v d → Q' v { s with toks := tk }) → wpAny M A (eval value (mainEnv prog c F)) Q' E s)
    (k : ∀ h' mg' tk, Mod h₀ mg₀ c Pl h' mg' ps defs consts objs (x :: names) → Q .next { s with heap := h', toks := tk })
    (hnb : x ≠ "__builtins__") (hmod : prog.main.scope.kind = .module) (hs : swapsWith value (some (.Name x pos')) pos.line (mainEnv prog c F) = pure false) :
    wpAny M A (exec (.Assign [.Name x pos'] value pos) (mainEnv prog c F)) Q E s := by
  refine wpAny_Assign_Name (hval _ fun v tk hv => ?_) hs
  refine wpAny_storeName_local (env := mainEnv prog c F) hloc X.main.g (fun h' hg' hs' => ?_)
    (by show (prog.main.scope.kind == .class || (prog.main.scope.kind == .module && mainGlobals != mainGlobals)) = false; rw [hmod]; rfl)
  obtain ⟨bm, o, hbm, hne0, hneG, hneP, hbo, hrest⟩ := X.main.bmod
  have hm : h'.Main (fun y => if y = x then some v else mg y) c Pl ps :=
    ⟨hg', X.main.code.sameBut hs' (Nat.ne_of_gt X.main.low.1) (Nat.ne_of_gt X.main.low.2), X.main.low, ⟨bm, o, (if_neg (Ne.symm hnb)).trans hbm, hne0, hneG, hneP, (hs'.2 _ hneG).trans hbo, hrest⟩⟩
  exact k h' _ _ (rebind_loose X hd hc ho hm (fun b o _ hG e => (hs'.2 _ hG).trans e) (Nat.le_trans X.grows (Nat.le_of_eq hs'.1.symm)))
end

theorem kindPg : Pg.main.scope.kind = .module := by decide +kernel
theorem topEnv (c F : Addr) : TopEnv (mainEnv Pg c F) := ⟨kindPg, rfl, rfl, rfl⟩
end Mine
end

section
open PySem PySem.W PyProof.Rows PySem.Calls
namespace Mine

section
variable {w : World} {A : Around} {E : Value → Shared → Prop} {c Pl F : Addr} {h₀ : Heap} {mg₀ : Str → Option Value}

/-- What the driver holds between two statements. -/
structure Dr (h₀ : Heap) (mg₀ : Str → Option Value) (c Pl : Addr) (h : Heap) (mg : Str → Option Value) (l : List (Pos × Addr)) (poss : List (Nat × Nat))
    (defs : List DefItem) (consts : List (Str × PyData)) (objs : List (Str × (Obj → Prop))) (names : List Str) : Prop where
  mod : Mod h₀ mg₀ c Pl h mg (triples l).toArray defs consts objs names
  nd : ∀ d ∈ defs, d.name ≠ "__name__"
  nc : ∀ p ∈ consts, p.1 ≠ "__name__"
  no : ∀ p ∈ objs, p.1 ≠ "__name__"
  at_ : ∀ q ∈ l, (q.1.line, q.1.col) ∈ poss
  bare : ∀ x ∈ (["set", "list", "range"] : List Str), x ∉ names

structure Ground0 (h₀ : Heap) (mg₀ : Str → Option Value) (Pl : Addr) : Prop where
  b : ∃ mb, h₀.Ns builtinsNs mb ∧ ∀ x : Str, x ≠ "__name__" → mb x = bootBuiltins x
  free : ∀ x ∈ (["set", "list", "range"] : List Str), mg₀ x = none
  apart : builtinsNs ≠ Pl ∧ builtinsNs ≠ mainGlobals
  low : sysModules < h₀.objs.size

variable {h : Heap} {mg : Str → Option Value} {l : List (Pos × Addr)} {poss : List (Nat × Nat)} {defs : List DefItem} {consts : List (Str × PyData)} {objs : List (Str × (Obj → Prop))} {names : List Str}

theorem Dr.toBare (X : Dr h₀ mg₀ c Pl h mg l poss defs consts objs names) (G : Ground0 h₀ mg₀ Pl) : Bare mg h :=
  ⟨X.mod.main.g, let ⟨mb, h1, h2⟩ := G.b; ⟨mb, h1.at fun o => X.mod.keep _ o G.apart.1 G.apart.2, h2⟩, fun x hx => (X.mod.others x (X.bare x hx)).trans (G.free x hx)⟩

/-- One statement of the top. -/
theorem drive1 {st : Stmt} {a : Act} {s : Shared} {Q : Flow → Shared → Prop} (hh : A.handled = none) (G : Ground0 h₀ mg₀ Pl) (ha : actOf st = some a) (hok : a.ok names poss = true)
    (X : Dr h₀ mg₀ c Pl s.heap mg l poss defs consts objs names)
    (k : ∀ h' mg' tk l' defs' consts' objs', Dr h₀ mg₀ c Pl h' mg' l' (a.posOf ++ poss) defs' consts' objs' (a.name :: names) → a.In w defs' consts' objs' → (∀ d ∈ defs, d ∈ defs') → (∀ d ∈ consts, d ∈ consts') → (∀ d ∈ objs, d ∈ objs') →
      Q .next { s with heap := h', toks := tk }) :
    wpAny (model Pg w) A (exec st (mainEnv Pg c F)) Q E s := by
  have hname : ∀ {x : Str}, okName x = true → Pg.main.scope.names.lookup x = some .local ∧ x ≠ "__builtins__" ∧ x ∉ (["set", "list", "range"] : List Str) := fun hx => by
    simp only [okName, Bool.and_eq_true, decide_eq_true_eq] at hx
    exact ⟨hx.1.1, hx.1.2, hx.2⟩
  have hbare : ∀ {x : Str}, x ∉ (["set", "list", "range"] : List Str) → ∀ y ∈ (["set", "list", "range"] : List Str), y ∉ x :: names := fun hx y hy hm => by
    rcases List.mem_cons.mp hm with rfl | hm
    · exact hx hy
    · exact X.bare y hy hm
  unfold actOf at ha
  split at ha
  · rename_i name as body scope bind pos
    split at ha
    · rename_i hc
      obtain ⟨rfl, hb3, hdoc, hfree⟩ := hc
      cases ha
      simp only [Act.ok, Bool.and_eq_true, decide_eq_true_eq] at hok
      obtain ⟨⟨⟨⟨h1, h2⟩, h3⟩, h4⟩, h5⟩ := hok
      obtain ⟨n1, n2, n3⟩ := hname h1
      refine Mod.def_plain X.mod (bare3_tree hb3) hfree hdoc n1 h4 h2 (fun h' mg' c' tk Y => ?_) n2 kindPg ?_ rfl
      · have Y' : Mod h₀ mg₀ c Pl h' mg' (triples (l ++ [(pos, c')])).toArray (⟨bind, ⟨[], as, none, [], [], none, []⟩, body, scope, pos⟩ :: defs) consts objs (bind :: names) := by
          rw [triples_append]
          simpa using Y
        refine k h' mg' tk (l ++ [(pos, c')]) _ _ _ ⟨Y', ?_, X.nc, X.no, ?_, hbare n3⟩ List.mem_cons_self (fun d hd => List.mem_cons_of_mem _ hd) (fun _ hd => hd) fun _ hd => hd
        · intro d hd
          rcases List.mem_cons.mp hd with rfl | hd
          · exact h3
          · exact X.nd d hd
        · intro q hq
          rcases List.mem_append.mp hq with hq | hq
          · exact List.mem_append_right _ (X.at_ q hq)
          · rw [List.mem_singleton.mp hq]; exact List.mem_append_left _ List.mem_cons_self
      · rw [List.toList_toArray]
        refine codeAmong_triples _ _ fun q hq he => h5 ?_
        have e1 := X.at_ q hq
        rw [he.1, he.2] at e1
        exact e1
    · cases ha
  · rename_i x px v kk pv pos
    cases ha
    simp only [Act.ok, Bool.and_eq_true, Bool.or_eq_true, decide_eq_true_eq] at hok
    obtain ⟨n1, n2, n3⟩ := hname hok.1
    rcases Decidable.em (x = "__name__") with hx | hx
    · subst hx
      refine assign_loose X.mod n1 X.nd X.nc X.no lit_str (fun h' mg' tk Y => ?_) n2 kindPg rfl
      exact k h' mg' tk l _ _ _ ⟨Y, X.nd, X.nc, X.no, X.at_, hbare n3⟩ (.inl rfl) (fun _ hd => hd) (fun _ hd => hd) fun _ hd => hd
    · have hn := hok.2.resolve_left hx
      refine Mod.assign X.mod n1 hn lit_str (fun h' mg' tk Y => ?_) n2 kindPg rfl
      refine k h' mg' tk l _ _ _ ⟨Y, X.nd, ?_, X.no, X.at_, hbare n3⟩ (.inr List.mem_cons_self) (fun _ hd => hd) (fun d hd => List.mem_cons_of_mem _ hd) fun _ hd => hd
      intro p hp
      rcases List.mem_cons.mp hp with rfl | hp
      · exact hx
      · exact X.nc p hp
  · rename_i x px ks vs pd pos
    split at ha
    · rename_i hc
      obtain ⟨D, hD, rfl⟩ := Option.map_eq_some_iff.mp ha
      simp only [Act.ok, Bool.and_eq_true, decide_eq_true_eq] at hok
      obtain ⟨⟨⟨h1, h2⟩, h3⟩, h4⟩ := hok
      obtain ⟨n1, n2, n3⟩ := hname h1
      refine Mod.assign_obj (P := TabP w D) X.mod n1 h2 (fun Q' hq => ?_) (fun h' mg' tk Y => ?_) n2 kindPg rfl
      · refine eval_tab hc.1 hc.2 hD h4 (Nat.lt_of_lt_of_le G.low X.mod.grows) fun a o h' tk ha' ho hP hk => hq a o h' tk ha' ho hP hk
      · refine k h' mg' tk l _ _ _ ⟨Y, X.nd, X.nc, ?_, X.at_, hbare n3⟩ List.mem_cons_self (fun _ hd => hd) (fun _ hd => hd) (fun d hd => List.mem_cons_of_mem _ hd)
        intro p hp
        rcases List.mem_cons.mp hp with rfl | hp
        · exact h3
        · exact X.no p hp
    · cases ha
  · rename_i x px f as kw pc pos
    obtain ⟨ns, hns, rfl⟩ := Option.map_eq_some_iff.mp ha
    simp only [Act.ok, Bool.and_eq_true, decide_eq_true_eq] at hok
    obtain ⟨⟨⟨h1, h2⟩, h3⟩, h4⟩ := hok
    obtain ⟨n1, n2, n3⟩ := hname h1
    refine Mod.assign_obj (P := SetP w ns) X.mod n1 h2 (fun Q' hq => ?_) (fun h' mg' tk Y => ?_) n2 kindPg rfl
    · exact eval_set hns h4 (topEnv c F) (X.toBare G) hh fun D h' tk n o hD hk ho hso hn => hq D o h' tk hD ho ⟨n, hso, hn⟩ hk
    · refine k h' mg' tk l _ _ _ ⟨Y, X.nd, X.nc, ?_, X.at_, hbare n3⟩ List.mem_cons_self (fun _ hd => hd) (fun _ hd => hd) (fun d hd => List.mem_cons_of_mem _ hd)
      intro p hp
      rcases List.mem_cons.mp hp with rfl | hp
      · exact h3
      · exact X.no p hp
  · cases ha

theorem Act.In.mono {defs' : List DefItem} {consts' : List (Str × PyData)} {objs' : List (Str × (Obj → Prop))} {a : Act} (x : a.In w defs consts objs) (h1 : ∀ d ∈ defs, d ∈ defs') (h2 : ∀ d ∈ consts, d ∈ consts') (h3 : ∀ d ∈ objs, d ∈ objs') :
    a.In w defs' consts' objs' := by
  cases a with
  | fn d => exact h1 _ x
  | nm x v => exact Or.imp id (h2 _) x
  | set x ns => exact h3 _ x
  | tab x D => exact h3 _ x
end

theorem drive {w : World} {A : Around} {E : Value → Shared → Prop} {c Pl F : Addr} {h₀ : Heap} {mg₀ : Str → Option Value} (hh : A.handled = none) (G : Ground0 h₀ mg₀ Pl) :
    ∀ (sts : List Stmt) (acts : List Act) (names : List Str) (poss : List (Nat × Nat)) (l : List (Pos × Addr)) (defs : List DefItem) (consts : List (Str × PyData)) (objs : List (Str × (Obj → Prop))) (mg : Str → Option Value) (s : Shared) (Q : Flow → Shared → Prop),
    sts.map actOf = acts.map some → okSeq names poss acts = true → Dr h₀ mg₀ c Pl s.heap mg l poss defs consts objs names →
    (∀ h' mg' tk l' poss' defs' consts' objs' names', Dr h₀ mg₀ c Pl h' mg' l' poss' defs' consts' objs' names' → (∀ a ∈ acts, a.In w defs' consts' objs') → (∀ d ∈ defs, d ∈ defs') → (∀ d ∈ consts, d ∈ consts') → (∀ d ∈ objs, d ∈ objs') →
      (∀ x ∈ names', x ∈ names ∨ x ∈ acts.map Act.name) → Q .next { s with heap := h', toks := tk }) →
    wpAny (model Pg w) A (execs sts (mainEnv Pg c F)) Q E s
  | [], acts, names, poss, l, defs, consts, objs, mg, s, Q, hm, _, X, k => by
    cases acts with
    | cons _ _ => simp at hm
    | nil => exact wpAny_execs_nil (k s.heap mg s.toks l poss defs consts objs names X (fun _ h => (nomatch h)) (fun _ h => h) (fun _ h => h) (fun _ h => h) fun _ h => .inl h)
  | st :: sts, acts, names, poss, l, defs, consts, objs, mg, s, Q, hm, hok, X, k => by
    cases acts with
    | nil => simp at hm
    | cons a acts =>
      simp only [List.map_cons, List.cons.injEq] at hm
      simp only [okSeq, Bool.and_eq_true] at hok
      refine wpAny_execs_cons (drive1 hh G hm.1 hok.1 X fun h' mg' tk l' defs' consts' objs' X' hin i1 i2 i3 => ?_)
      refine drive hh G sts acts _ _ l' defs' consts' objs' mg' _ Q hm.2 hok.2 X' fun h'' mg'' tk' l'' poss'' defs'' consts'' objs'' names'' X'' hall j1 j2 j3 hn => ?_
      refine k h'' mg'' tk' l'' poss'' defs'' consts'' objs'' names'' X'' ?_ (fun d hd => j1 d (i1 d hd)) (fun d hd => j2 d (i2 d hd)) (fun d hd => j3 d (i3 d hd)) ?_
      · intro b hb
        rcases List.mem_cons.mp hb with rfl | hb
        · exact hin.mono j1 j2 j3
        · exact hall b hb
      · intro x hx
        rcases hn x hx with hx | hx
        · rcases List.mem_cons.mp hx with rfl | hx
          · exact .inr List.mem_cons_self
          · exact .inl hx
        · exact .inr (List.mem_cons_of_mem _ hx)
end Mine
end

section
open PySem PySem.W PyProof.Rows PySem.Calls
namespace Mine

def acts : List Act := Pg.main.body.filterMap actOf
theorem acts_all : (Pg.main.body.all fun st => (actOf st).isSome) = true := by decide +kernel
theorem map_of_all : ∀ l : List Stmt, (l.all fun st => (actOf st).isSome) = true → l.map actOf = (l.filterMap actOf).map some
  | [], _ => rfl
  | st :: l, h => by
    simp only [List.all_cons, Bool.and_eq_true] at h
    obtain ⟨a, ha⟩ := Option.isSome_iff_exists.mp h.1
    rw [List.map_cons, List.filterMap_cons_some ha, List.map_cons, ha, map_of_all l h.2]
theorem acts_map : Pg.main.body.map actOf = acts.map some := map_of_all _ acts_all
theorem acts_ok : okSeq [] [] acts = true := by decide +kernel
theorem acts_names : ((["ord", "chr", "len", "range", "sum", "all", "isinstance", "bool", "set", "list"] : List Str).all fun x => decide (x ∉ acts.map Act.name) && decide (x ∉ bootMainNames)) = true := by decide +kernel
def isSet (p : Str × List Int) : Act → Bool
  | .set x ns => decide (x = p.1) && decide (ns = p.2)
  | _ => false
def isDots : Act → Bool
  | .nm x v => decide (x = "ELLIPSIS_MARKER") && decide (v = "...")
  | _ => false
theorem acts_sets : (setTab.all fun p => acts.any (isSet p)) = true := by decide +kernel
theorem acts_dots : acts.any isDots = true := by decide +kernel
theorem b3_some : (Pg.main.body.findSome? b3Of).isSome = true := by decide +kernel
end Mine
end

section
open PySem PySem.W PyProof.Rows PySem.Calls
namespace Mine

theorem isDatum_str {v : Value} {x : Str} (h : IsDatum v (.str x)) : ∃ t, v = .str x t := by
  cases h {} with
  | str _ t => exact ⟨t, rfl⟩

theorem act_fn {st : Stmt} {d : DefItem} {a : Act} (hi : itemOf st = some d) (ha : actOf st = some a) : a = .fn d ∧ d.params.defaults = [] ∧ d.params.kwonlyargs = [] ∧ d.params.kw_defaults = [] := by
  unfold actOf at ha
  split at ha
  · split at ha
    · rename_i hc
      cases ha
      simp only [itemOf, Option.some.injEq] at hi
      subst hi
      exact ⟨rfl, rfl, rfl, rfl⟩
    · cases ha
  · simp [itemOf] at hi
  · simp [itemOf] at hi
  · simp [itemOf] at hi
  · cases ha

theorem act_tab {st : Stmt} {D : List (PyData × PyData)} {a : Act} (hi : b3Of st = some D) (ha : actOf st = some a) : a = .tab "b3_exceptions" D := by
  unfold b3Of at hi
  split at hi
  · split at hi
    · rename_i x px ks vs pd pos hx
      have hx' : x = "b3_exceptions" := eq_of_beq hx
      subst hx'
      simp only [actOf] at ha
      split at ha
      · rw [hi] at ha
        cases ha
        rfl
      · cases ha
    · cases hi
  · cases hi

theorem mem_acts {st : Stmt} {a : Act} (hs : st ∈ Pg.main.body) (ha : actOf st = some a) : a ∈ acts := List.mem_filterMap.mpr ⟨st, hs, ha⟩
theorem act_of {st : Stmt} (hs : st ∈ Pg.main.body) : ∃ a, actOf st = some a ∧ a ∈ acts := by
  obtain ⟨a, ha⟩ := Option.isSome_iff_exists.mp (List.all_eq_true.mp acts_all st hs)
  exact ⟨a, ha, mem_acts hs ha⟩
theorem item_act {d : DefItem} (hd : d ∈ items) : Act.fn d ∈ acts ∧ d.params.defaults = [] ∧ d.params.kwonlyargs = [] ∧ d.params.kw_defaults = [] := by
  obtain ⟨st, hs, hi⟩ := List.mem_filterMap.mp hd
  obtain ⟨a, ha, hm⟩ := act_of hs
  obtain ⟨rfl, h⟩ := act_fn hi ha
  exact ⟨hm, h⟩
theorem set_act {p : Str × List Int} (hp : p ∈ setTab) : Act.set p.1 p.2 ∈ acts := by
  obtain ⟨a, ha, h⟩ := List.any_eq_true.mp (List.all_eq_true.mp acts_sets p hp)
  cases a with
  | set x ns =>
    simp only [isSet, Bool.and_eq_true, decide_eq_true_eq] at h
    obtain ⟨rfl, rfl⟩ := h
    exact ha
  | _ => cases h
theorem dots_act : Act.nm "ELLIPSIS_MARKER" "..." ∈ acts := by
  obtain ⟨a, ha, h⟩ := List.any_eq_true.mp acts_dots
  cases a with
  | nm x ns =>
    simp only [isDots, Bool.and_eq_true, decide_eq_true_eq] at h
    obtain ⟨rfl, rfl⟩ := h
    exact ha
  | _ => cases h
theorem b3_act : Act.tab "b3_exceptions" b3D ∈ acts := by
  obtain ⟨D, hD⟩ := Option.isSome_iff_exists.mp b3_some
  obtain ⟨st, hs, h⟩ := List.exists_of_findSome?_eq_some hD
  obtain ⟨a, ha, hm⟩ := act_of hs
  have e : b3D = D := by unfold b3D; rw [hD]; rfl
  rw [e, ← act_tab h ha]
  exact hm

section
variable {w : World} {c Pl : Addr} {h₀ h : Heap} {mg₀ mg : Str → Option Value} {ps : Array Value} {defs : List DefItem} {consts : List (Str × PyData)} {objs : List (Str × (Obj → Prop))} {names : List Str}

/-- What the whole top has left. -/
theorem wd_of_mod (X : Mod h₀ mg₀ c Pl h mg ps defs consts objs names) (hall : ∀ a ∈ acts, a.In w defs consts objs) (hn : ∀ x ∈ names, x ∈ acts.map Act.name)
    (hfree : ∀ x, x ∉ bootMainNames → mg₀ x = none) (hb : ∃ mb, h.Ns builtinsNs mb ∧ ∀ x : Str, x ≠ "__name__" → mb x = bootBuiltins x) (hnl : h.NoLimit) : Wd w mg h where
  g := X.main.g
  b := hb
  nolimit := hnl
  free := fun x hx => by
    have h1 := List.all_eq_true.mp acts_names x hx
    simp only [Bool.and_eq_true, decide_eq_true_eq] at h1
    exact (X.others x fun hm => h1.1 (hn x hm)).trans (hfree x h1.2)
  fn := fun d hd => by
    obtain ⟨hm, hdf, _⟩ := item_act hd
    obtain ⟨a, c', o, pm, doc, _, _, h1, h2, h3, h4⟩ := (X.made d (hall _ hm)).plain hdf
    exact ⟨a, o, pm, .ref c', doc, h1, h2, h3, h4⟩
  set := fun p hp => by
    obtain ⟨a, o, _, h1, h2, n, h3, h4⟩ := X.held _ (hall _ (set_act hp))
    exact ⟨a, o, n, h1, h2, h3.intSetOf, by unfold scanBound; omega⟩
  b3 := by
    obtain ⟨a, o, hN, h1, h2, kvs, h3, h4⟩ := X.held _ (hall _ b3_act)
    refine ⟨a, h1, TabAt.ofObj ?_ h2 h3 h4⟩
    exact beq_eq_false_iff_ne.mpr (Nat.ne_of_gt (Nat.lt_of_lt_of_le (Nat.lt_trans (by decide) X.lowG) hN))
  dots := by
    rcases hall _ dots_act with h1 | h1
    · cases h1
    · obtain ⟨v, h2, h3⟩ := X.bound _ h1
      obtain ⟨t, rfl⟩ := isDatum_str h3
      exact ⟨t, h2⟩

theorem item_def (x : Str) (hx : (Pg.theDef x).isSome = true) : ∃ d ∈ items, d.name = x ∧ Pg.theDef x = some (d.params, d.body, d.scope) := by
  unfold Program.theDef at hx ⊢
  split at hx
  · rename_i n args body r scope ts b pos hf
    have hm : Stmt.FunctionDef n args body [] r [] scope ts b pos ∈ [Stmt.FunctionDef n args body [] r [] scope ts b pos] := List.mem_singleton.mpr rfl
    rw [← hf] at hm
    obtain ⟨h1, h2⟩ := List.mem_filter.mp hm
    exact ⟨⟨n, args, body, scope, pos⟩, List.mem_filterMap.mpr ⟨_, h1, rfl⟩, eq_of_beq h2, rfl⟩
  · cases hx

theorem pin_of_wd (T : Wd w mg h) (x : Str) (hx : (Pg.theDef x).isSome = true) : isTheDefsW Pg h x := by
  obtain ⟨d, hd, rfl, hdef⟩ := item_def x hx
  obtain ⟨a, o, pm, cd, doc, h1, h2, h3, h4⟩ := T.fn d hd
  obtain ⟨_, e1, e2, e3⟩ := item_act hd
  refine ⟨a, o, _, d.params, d.body, d.scope, (PySem.Claim2Try.globalOf_of_ns T.g _).trans h1, h2, h3, hdef, rfl, rfl, rfl, rfl, rfl, rfl, rfl, rfl, .inl ⟨e1, rfl⟩, [], ?_, .inl ⟨rfl, rfl⟩⟩
  rw [e2, e3]; rfl
end
theorem law_def : (Pg.theDef "law").isSome = true := by decide +kernel
end Mine
end

section
open PySem PySem.W PyProof.Rows PySem.Calls
namespace Mine

/-- A caller's tree that ends comes, step by step, to its end. -/
theorem comes_through {prog : Program} {w : World} {t : Sem Fin} {s : Shared} {P : Shared → Prop} (hz : s.asleep)
    (h : wpAny (model prog w) callerA t (fun fin s' => ∃ f, fin = .done f ∧ P s' ∧ s'.gens = #[]) (fun _ _ => False) s) :
    ∃ n s' t', schedN (denote table) prog w n (.single s ⟨t, .builtin "claim.caller" {}, default, []⟩) = .running (.single s' t') ∧ through t' = true ∧ P s' ∧ s'.gens = #[] ∧ s'.heap.life = s.heap.life := by
  obtain ⟨n, s', σ, p', leaf, hr, hfo, hl⟩ := wp_reaches (M := model prog w) (c := .builtin "claim.caller" {}) (h _ default caller_in)
  have hseq : Sequential (denote table) prog w s ⟨t, .builtin "claim.caller" {}, default, []⟩ := by
    have hwp := wp_of_wpAny_done (R := fun _ s' => True ∧ leftWithCleanup s'.gens = false) caller_in
      (wpAny_mono h (fun fin s' ⟨f, e, _, hg⟩ => ⟨f, e, trivial, by rw [hg]; simp [leftWithCleanup]⟩) fun _ _ x => x.elim) default
    obtain ⟨k, r, s₁, hk, _⟩ := (wp_iff_halts (M := model prog w) t (fun _ _ => True) default s).mp hwp
    obtain ⟨s₂, hn, _, hc⟩ := runNI_real (denote table) prog w hk (outcomeOf_ends r)
    refine ⟨hc, fun j s₃ hj => ?_⟩
    have a := runN_mono (denote table) prog w k j s _ _ s₂ hn
    have b := runN_mono (denote table) prog w j k s _ _ s₃ hj
    rw [Nat.add_comm, b] at a
    injection a with a1 _
    have := outcomeOf_ends r
    rw [← a1] at this
    cases this
  rcases hl with ⟨a, rfl, f, rfl, hP, hg⟩ | ⟨e, _, hF⟩
  · obtain rfl := Shared.eq_of_forget_eq hfo hg
    refine ⟨n, σ, _, (schedN_eq_runN (denote table) prog w s _ hz hseq n).trans (congrArg Run.lift hr), rfl, hP, hg, runN_life_running hr⟩
  · exact hF.elim

theorem body_behind : behindTheImports Pg = Pg.main.body := rfl
theorem hann_Pg : hasAnns Pg.main.body = false := by decide +kernel
theorem hdoc_Pg : docOf Pg.main.body = none := by decide +kernel
theorem names_bound : (acts.all fun a => Pg.boundNames.contains a.name) = true := by decide +kernel
theorem laid_apart : (laidNames.all fun x => decide (x ∉ acts.map Act.name)) = true := by decide +kernel

/-- What stands when the top has run. -/
structure TopEnd (w : World) (s₀ : Shared) (mg₀ : Str → Option Value) (s₁ : Shared) : Prop where
  os : s₁.os = s₀.os
  keep : ∀ b o, b ≠ mainGlobals → s₀.heap.get? b = some o → s₁.heap.get? b = some o
  wd : ∃ mg, Wd w mg s₁.heap ∧ (∀ x, x ∉ acts.map Act.name → mg x = mg₀ x)
  bmod : ∃ mg bm o, s₁.heap.Ns mainGlobals mg ∧ mg "__builtins__" = some (.ref bm) ∧ s₁.heap.get? bm = some o ∧ o.cls = .type "module" ∧ o.dict = some builtinsNs

theorem top_runs {w : World} {s₀ : Shared} {mb mg₀ : Str → Option Value} {c₀ Pl₀ : Addr} (hB : BootLeft s₀.heap mb mg₀ c₀ Pl₀) (hg : s₀.gens = #[]) :
    wpAny (model Pg w) callerA (topStub Pg).cur (fun fin s' => ∃ f, fin = .done f ∧ TopEnd w s₀ mg₀ s' ∧ s'.gens = #[]) (fun _ _ => False) s₀ := by
  unfold topStub
  dsimp only
  refine wpAny_bind (wpAny_moduleCode fun c Pl h₁ tk₁ hk hc hP hcode => ?_)
  have hglt : mainGlobals < s₀.heap.objs.size := hB.g.lt
  have hg₁ := hB.g.keeps hk
  unfold newBodyFrame
  refine wpAny_bind (wpAny_bind (wpAny_nsGet hg₁ (wpAny_alloc ?_)))
  have hk₂ : ∀ (o : Obj) b o', s₀.heap.get? b = some o' → (h₁.push o).get? b = some o' := fun o b o' e => Heap.get?_push_of_some _ (hk b o' e)
  rw [body_behind]
  refine wpAny_bind (wpAny_run (codeAny_body hann_Pg hdoc_Pg ?_))
  have hbne : ∀ {b : Addr} {o : Obj}, s₀.heap.get? b = some o → b ≠ Pl := fun e => Nat.ne_of_lt (Nat.lt_of_lt_of_le (Heap.lt_size e) hP)
  have hmain : ∀ o : Obj, (h₁.push o).Main mg₀ c Pl #[] := fun o => by
    obtain ⟨bm, ob, h1, h2, h3, _, h5, h6⟩ := hB.bmod
    exact ⟨hg₁.push _, hcode.push _, ⟨Nat.lt_of_lt_of_le hglt hc, Nat.lt_of_lt_of_le hglt hP⟩, bm, ob, h1, h2, h3, hbne h5, hk₂ o _ _ h5, h6⟩
  have hmod : ∀ o : Obj, Mod (h₁.push o) mg₀ c Pl (h₁.push o) mg₀ (triples []).toArray [] [] [] [] := fun o =>
    ⟨hmain o, fun _ _ _ _ e => e, (fun _ hd => nomatch hd), (fun _ hp => nomatch hp), fun _ _ => rfl, (fun _ hd => nomatch hd), (fun _ hp => nomatch hp), (fun _ hp => nomatch hp), (fun _ hp => nomatch hp), Nat.le_refl _,
      ((hmain o).code).lt.2, (hg₁.push o).lt, (fun _ hd => nomatch hd)⟩
  obtain ⟨ob₀, hob₀⟩ : ∃ o, s₀.heap.get? builtinsNs = some o := let ⟨o, _, _, e, _⟩ := hB.b; ⟨o, e⟩
  have hgr : ∀ o : Obj, Ground0 (h₁.push o) mg₀ Pl := fun o =>
    ⟨⟨mb, hB.b.keeps (hk₂ o), hB.builtins⟩, fun x hx => hB.others x (by revert x; decide), ⟨hbne hob₀, by decide⟩,
      by rw [Heap.size_push]; exact Nat.lt_of_lt_of_le (Nat.lt_of_lt_of_le (Nat.lt_trans (by decide) hglt) hP) (Nat.le_succ_of_le (Nat.le_of_lt hcode.lt.2))⟩
  refine drive (w := w) rfl (hgr _) Pg.main.body acts [] [] [] [] [] [] mg₀ _ _ acts_map acts_ok ⟨hmod _, (fun _ hd => nomatch hd), (fun _ hd => nomatch hd), (fun _ hd => nomatch hd), (fun _ hd => nomatch hd), fun _ _ hd => nomatch hd⟩ ?_
  intro h' mg' tk l' poss' defs' consts' objs' names' X hall _ _ _ hn
  have hkeep : ∀ b o, b ≠ mainGlobals → s₀.heap.get? b = some o → h'.get? b = some o := fun b o hb e => X.mod.keep b o (hbne e) hb (hk₂ _ b o e)
  have hn' : ∀ x ∈ names', x ∈ acts.map Act.name := fun x hx => (hn x hx).resolve_left (fun h => nomatch h)
  refine wpAny_pure ⟨_, rfl, ⟨rfl, hkeep, ⟨mg', wd_of_mod X.mod hall hn' hB.others ⟨mb, hB.b.at fun o e => hkeep _ o (by decide) e, hB.builtins⟩ (Heap.NoLimit.at ⟨_, hB.statics, rfl⟩ fun o e => hkeep _ o (by decide) e),
    fun x hx => X.mod.others x fun hm => hx (hn' x hm)⟩, ?_⟩, hg⟩
  obtain ⟨bm, ob, h1, _, _, _, h5, h6, h7, _⟩ := X.mod.main.bmod
  exact ⟨mg', bm, ob, X.mod.main.g, h1, h5, h6, h7⟩

theorem opened (w : World) : (∃ s, AfterRun (opening Pg) w s) ∧ ∀ s, AfterRun (opening Pg) w s → s.gens = #[] ∧ ∃ mb mg c Pl, BootLeft s.heap mb mg c Pl ∧ ∀ x, mg x ≠ none → x ∈ bootMainNames := by
  refine AfterImport.of_body9 (prog := opening Pg) (out := #[]) fun hp tk mb mg c Pl F hB => ?_
  have hbody : (opening Pg).main.body = [] := rfl
  rw [hbody]
  refine codeAny_body rfl rfl (wpAny_mono (E := fun _ _ => False) (wpAny_execs_nil ?_) (fun _ _ x => x) fun _ _ x => x.elim)
  refine ⟨⟨_, rfl⟩, .of hB.toBootLeft (fun _ _ _ _ e => e) hB.g, ⟨rfl, mb, mg, c, Pl, hB.toBootLeft, fun x hx => Decidable.byContradiction fun h => hx (hB.others x h)⟩, rfl⟩
end Mine
end

section
open PySem PySem.W PyProof.Rows PySem.Calls
namespace Mine

theorem staticsNone {h : Heap} {m : Str → Option Value} (hs : h.Ns cStatics m) (hm : ∀ x, m x = none) (key : Str) : staticOf h key = none := (PySem.Pin.staticOf_of_ns hs key).trans (hm key)

theorem head (w : World) : (∃ s, AfterRun (opening Pg) w s) ∧ ∀ s, AfterRun (opening Pg) w s → ∃ s₀, fenceModules? Pg s = some s₀ ∧ s₀.gens = #[] ∧ ∃ s₁, TopRan Pg w s₀ s₁ ∧ s₁.asleep ∧ s₁.gens = #[] ∧ ∃ mg, Wd w mg s₁.heap := by
  refine ⟨(opened w).1, fun s hs => ⟨s, rfl, ?_⟩⟩
  obtain ⟨hg, mb, mg₀, c, Pl, hB, hboot⟩ := (opened w).2 s hs
  have hz : s.asleep := AfterImport.life hs
  obtain ⟨n, s₁, t', hrun, hth, hE, hg₁, hlife⟩ := comes_through hz (top_runs (w := w) hB hg)
  obtain ⟨mg, hW, hoth⟩ := hE.wd
  refine ⟨hg, s₁, ⟨⟨n, t', hrun, hth⟩, hlife, Shared.rest_eq hE.os, ?_, ?_, ?_, ?_, ?_, ?_, ?_, ?_, ?_⟩, Shared.asleep_of_life hlife hz, hg₁, mg, hW⟩
  · exact fun b o e hn => hE.keep b o (fun q => hn (.inl q)) e
  · have hst : s₁.heap.Ns cStatics fun _ => none := hB.statics.at fun o => hE.keep _ o (by decide)
    intro key v hv
    rw [staticsNone hst (fun _ => rfl) key] at hv
    cases hv
  · have hst : s₁.heap.Ns cStatics fun _ => none := hB.statics.at fun o => hE.keep _ o (by decide)
    exact fun key => .inl ((staticsNone hst (fun _ => rfl) key).trans (staticsNone hB.statics (fun _ => rfl) key).symm)
  · exact PySem.Pin.keysAreStrs_of_ns hW.g
  · obtain ⟨mb', hb', hbs'⟩ := hW.b
    exact fun x hx => (PySem.Pin.builtinOf_of_ns hb' x).trans (hbs' x hx)
  · obtain ⟨mg', bm, o, h1, h2, h3, h4, h5⟩ := hE.bmod
    exact ⟨bm, o, (PySem.Claim2Try.globalOf_of_ns h1 _).trans h2, h3, h4, h5⟩
  · intro g hgm
    rw [hg₁] at hgm
    simp at hgm
  · intro x v hv
    rw [PySem.Claim2Try.globalOf_of_ns hW.g] at hv
    by_cases hx : x ∈ acts.map Act.name
    · obtain ⟨a, ha, rfl⟩ := List.mem_map.mp hx
      exact .inr (List.contains_iff_mem.mp (List.all_eq_true.mp names_bound a ha))
    · refine .inl (hboot x ?_)
      rw [← hoth x hx, hv]
      exact fun e => by cases e
  · intro x hx
    rw [PySem.Claim2Try.globalOf_of_ns hW.g, PySem.Claim2Try.globalOf_of_ns hB.g]
    exact hoth x (of_decide_eq_true (List.all_eq_true.mp laid_apart x hx))

abbrev Rw : OpenRow := PySem.Challenge.rw_mj0207_01.row

theorem hasItems_ints : ∀ (xs : List WData), WShape.hasItems [] xs .int = true → ∃ ns : List Int, xs = ns.map WData.int
  | [], _ => ⟨[], rfl⟩
  | x :: xs, h => by
    simp only [WShape.hasItems, Bool.and_eq_true] at h
    obtain ⟨i, rfl⟩ := hasW_int h.1
    obtain ⟨ns, rfl⟩ := hasItems_ints xs h.2
    exact ⟨i :: ns, rfl⟩

theorem law_args {args : List WData} (h : Rw.toRowW.claim.pre args = true) : ∃ ns : List Int, args = [.list (ns.map WData.int)] ∧ ns.length ≤ 63 := by
  obtain ⟨h1, h2⟩ := pre_splitW h
  obtain ⟨d, r, rfl, hd, hr⟩ := hasAllW_cons (e := .list .int) (es := []) h1
  obtain rfl := hasAllW_nil hr
  obtain ⟨xs, rfl, hx⟩ := hasW_list hd
  obtain ⟨ns, rfl⟩ := hasItems_ints xs hx
  refine ⟨ns, rfl, ?_⟩
  have h3 : WTm.holds [] (.and (.not (.lt (.lit (.int 63)) (.len (.arg 0)))) (.lit (.bool true))) { args := [.list (ns.map WData.int)] } = true := h2
  simp only [WTm.holds, WTm.value, List.getElem?_cons_zero, List.length_map, less?, Num.less?, Option.map_some] at h3
  by_cases hc : (63 : Int) < ns.length
  · simp [hc] at h3
  · omega

theorem reads_ints {cl : Str → Option Addr} {h : Heap} : ∀ (ns : List Int) (vs : List Value) (as : List Addr), ReadsAllW [] cl h vs (ns.map WData.int) as → IntsAre vs ns
  | [], vs, as, r => by cases r; exact .nil
  | n :: ns, vs, as, r => by
    cases r with
    | cons r1 r2 =>
      cases r1 with
      | int _ t => exact .cons _ _ (reads_ints ns _ _ r2)

theorem reads_arg {cl : Str → Option Addr} {h : Heap} {ns : List Int} {vs : List Value} {as : List Addr} (r : ReadsAllW [] cl h vs [.list (ns.map WData.int)] as) :
    ∃ (a : Addr) (its : List Value), vs = [.ref a] ∧ h.IsList a its.toArray ∧ IntsAre its ns := by
  cases r with
  | cons r1 r2 =>
    cases r2
    cases r1 with
    | @list a o its n xs as' ho hc hd hr => exact ⟨a, its.toList, rfl, ⟨o, ho, hc, n, by simpa using hd⟩, reads_ints ns _ _ hr⟩
end Mine
end

section
open PySem PySem.W PyProof.Rows PySem.Calls
namespace Mine

theorem law_name : (itemNamed "law").isSome = true := by decide +kernel

theorem law_good {w : World} {s₁ : Shared} {mg : Str → Option Value} (T : Wd w mg s₁.heap) (hg : s₁.gens = #[]) {ns : List Int} (hlen : ns.length ≤ 63) {a : Addr} {its : List Value} (hl : s₁.heap.IsList a its.toArray) (hi : IntsAre its ns)
    (cl : Str → Option Addr) (mean : ExcName → Option Value) (args : List WData) :
    ∃ f, mg "law" = some f ∧ wpAny (model Pg w) callerA (call f [.ref a]) (fun v s' => GoodWG Rw.toRowW.claim cl mean args s₁ (.ok (.ret v)) s') (fun e s' => GoodWG Rw.toRowW.claim cl mean args s₁ (.error e) s') s₁ := by
  obtain ⟨d, hd⟩ := Option.isSome_iff_exists.mp law_name
  have hn : d.name = "law" := beq_iff_eq.mp (List.find?_some (p := fun e : DefItem => e.name == "law") hd)
  obtain ⟨f, o, pm, code, doc, h1, _⟩ := T.fn d (List.mem_of_find?_eq_some hd)
  rw [hn] at h1
  refine ⟨.ref f, h1, ?_⟩
  have hA : Ok 6 callerA := ⟨by decide, by decide, rfl⟩
  refine law_spec (E := _) T h1 hA hl hi hlen (ps := psOf ns) rfl (small_ps ns) (pat_col fun p hp => (gp_all ns p hp).pat) (fun p hp => (gp_all ns p hp).prep) (plain_law _) fun h' tk hk => ?_
  refine ⟨.inl ⟨.bool true, .bool true, [], rfl, fun _ => rfl, .bool true, ?_, fun _ => ⟨List.nodup_nil, fun _ h => (nomatch h)⟩⟩, .of_keep hk, rfl, .of_eq hg⟩
  show (WShape.has [] (.bool true) .bool && WTm.holds [] (.eq .res (.lit (.bool true))) { args := args, res := some (.bool true), after := args }) = true
  simp [WShape.has, WShape.arms, WTm.holds, WTm.value, same]

theorem row_holds (said : Rw.wellSaid = true) (hw : Rw.toRowW.promised) : Rw.Holds := by
  refine ⟨said, hw, ⟨⟨rfl, rfl, rfl, rfl, rfl, by decide +kernel⟩, by decide +kernel, rfl⟩, hw.witness, fun w => ⟨(head w).1, fun s hs => ?_⟩⟩
  obtain ⟨s₀, hf, hg₀, s₁, hT, hz, hg₁, mg, hW⟩ := (head w).2 s hs
  refine ⟨s₀, hf, hg₀, s₁, hT, ?_, (fun _ hx => nomatch hx), (fun _ hx => nomatch hx), ?_⟩
  · intro n hn
    obtain rfl : n = "law" := List.mem_singleton.mp hn
    exact pin_of_wd hW "law" law_def
  · refine ClaimW.callFrom_of_specG (c := Rw.toRowW.claim) hz hg₁ fun args hpre hlay ord hord => ?_
    obtain ⟨⟨vs, s₂⟩, hlaid⟩ := Option.isSome_iff_exists.mp (layAllW_isSome (R := []) (P := w.params) (ord := ord) (fun c hc => (nomatch hc)) args Rw.toRowW.args s₁ (pre_splitW hpre).1)
    have keeps := layAllW_keeps _ _ _ hlaid
    have hal := layAllW_rest _ _ _ hlaid
    obtain ⟨as, hrd, hin, hold⟩ := reads_layAllW hord _ _ _ hlaid hlay s₂.heap (fun _ _ e => e)
    have L : Laid [] w s₁ s₂ args vs as := ⟨⟨ord, hord, hlaid⟩, hrd, hin, hold, keeps, hal.1.trans hg₁, hal.2.2.1⟩
    obtain ⟨ns, rfl, hlen⟩ := law_args hpre
    obtain ⟨a, its, rfl, hl, hi⟩ := reads_arg hrd
    have hW₂ := hW.keeps keeps
    obtain ⟨f, hf, h⟩ := law_good hW₂ (hal.1.trans hg₁) hlen hl hi (classAt s₁.heap) (ExcName.means s₁.heap) [.list (ns.map WData.int)]
    refine ⟨[.ref a], s₂, hlaid, ?_⟩
    have fin : ∀ {r : Result} {s' : Shared}, GoodWG Rw.toRowW.claim (classAt s₁.heap) (ExcName.means s₁.heap) [.list (ns.map WData.int)] s₂ r s' →
        Rw.toRowW.claim.Ends s₁ [.list (ns.map WData.int)] [.ref a] s₂ r s' ∧ s'.os = s₁.os ∧ AllBare s'.gens ∧
          (Rw.writes = true → namesKept Rw.toRowW.claim.prog Rw.keeps s₁.heap s'.heap ∧ ∀ x ∈ Rw.toRowW.claim.records, ∀ a, classAt s₁.heap x.1 = some a → recordClass s'.heap a x.1 (x.2.map (·.1)) = true) := fun g => by
      obtain ⟨z1, z2, z3⟩ := g.laid (c := Rw.toRowW.claim) rfl rfl (ident_freeW (r := Rw.toRowW) rfl rfl rfl) L
      exact ⟨z1, z2, z3, fun q => by cases q⟩
    refine wpAny_bind (wpAny_nsGet hW₂.g ?_)
    have hf' : mg Rw.name = some f := hf
    rw [hf']
    exact wpAny_bind (wpAny_mono h (fun v s' g => wpAny_pure ⟨_, rfl, fin g⟩) fun e s' g => fin g)
end Mine
end
open PySem PySem.W PyProof.Rows
set_option maxRecDepth 100000 in
set_option maxHeartbeats 8000000 in
theorem PySem.Challenge.cw_mj0207_01_holds : PySem.Challenge.rw_mj0207_01.Holds := by
  w_on
  o_law
  refine Mine.row_holds ?_ ?_
  · assumption
  · w_witness2
