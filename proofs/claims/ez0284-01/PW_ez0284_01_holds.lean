import PyProof.Rows.All
import Wide.All
import OpenK.AllK
import Wide.FinOn
import PySem.Challenge.RW_ez0284_01
open PySem PySem.W PyProof.Rows
set_option Elab.async false
namespace Mine
set_option maxRecDepth 100000 in
set_option maxHeartbeats 8000000 in
open_top hd for PySem.Challenge.rw_ez0284_01
end Mine
open PySem.Calls
set_option maxRecDepth 100000
namespace Mine
/- B0 -/
section
theorem warm : (PySem.Challenge.rw_ez0284_01 = PySem.Challenge.rw_ez0284_01) ∧ (Mine.hd.heap_39 = Mine.hd.heap_39) := by
  k_fill
  exact ⟨rfl, rfl⟩
/-- what comes back from a call: a value, or an exception -/
abbrev Back (Q E : Value → Shared → Prop) : Result → Shared → Prop := fun r s' => match r with
  | .ok (.ret v) => Q v s'
  | .ok _ => False
  | .error e => E e s'
theorem call_of {prog : Program} {w : World} {A : Around} {Q E : Value → Shared → Prop} {s : Shared} {f : Value} {vs : List Value} (h : codeAny (model prog w) A (.call f ⟨vs, []⟩) (Back Q E) s) : wpAny (model prog w) A (call f vs) Q E s := wpAny_call h
theorem meth_of {prog : Program} {w : World} {A : Around} {Q E : Value → Shared → Prop} {s : Shared} {h₀ : Heap} {L q : Addr} {news : List (Addr × Obj)} {f self : Value} {pos : List Value} (N : News h₀ L s.heap news) (hq : (q, methodObj f self) ∈ news)
    (h : codeAny (model prog w) A (.call f ⟨self :: pos, []⟩) (Back Q E) s) : wpAny (model prog w) A (call (.ref q) pos) Q E s := call_meth N hq h
/-- what a call of the text's def f with vs hands back, from any frame -/
abbrev Claim (prog : Program) (w : World) (p : Program) (loose : List Str) (mean : ExcName → Option Value) (mg mb : Str → Option Value) (lv : Nat) (f : Addr) (vs : List Value)
   (Post : Heap → Addr → (Str → Option Value) → List (Addr × Obj) → Shared → (Value → Shared → Prop) → Prop) : Prop :=
  ∀ (dp un : Nat) (gd : Option (List Code)) (cn : Str) (cs : Scope) (a : Addr) (ccd : Value) (cl : List (Str × Addr)) (outer : List Env) (A₀ : Around) (base h₀ : Heap) (L : Addr) (m : Str → Option Value) (news : List (Addr × Obj)) (s : Shared) (Q E : Value → Shared → Prop),
    Below A₀ base outer h₀ → Fr h₀ L s.heap m → (Mine.hd.heap_39 w.params).In h₀ → News h₀ L s.heap news → Top p loose mean mg mb h₀ → cs.kind = .function →
    dp + 2 * lv < recursionLimit → un + 100 * lv < cLine → Post h₀ L m news s Q →
      codeAny (model prog w) (ktrTop dp un gd cn cs L a ccd cl outer) (.call (.ref f) ⟨vs, []⟩) (Back Q E) s
/-- a plain value comes back -/
def RetV (P : Value → Prop) (h₀ : Heap) (L : Addr) (m : Str → Option Value) (news : List (Addr × Obj)) (s : Shared) (Q : Value → Shared → Prop) : Prop :=
  ∀ h' tk v, Fr h₀ L h' m → News h₀ L h' news → P v → Q v { s with heap := h', toks := tk }
abbrev RetS (x : Str) := RetV (fun v => ∃ t, v = .str x t)
/-- a new list comes back -/
def RetL (P : List Value → Prop) (h₀ : Heap) (L : Addr) (m : Str → Option Value) (news : List (Addr × Obj)) (s : Shared) (Q : Value → Shared → Prop) : Prop :=
  ∀ h' tk l k vs, Fr h₀ L h' m → News h₀ L h' ((l, W.listOf vs.toArray k) :: news) → (∀ p ∈ news, p.1 < l) → P vs → Q (.ref l) { s with heap := h', toks := tk }
/-- a new list comes back; nothing is said of its address -/
def RetU (P : List Value → Prop) (h₀ : Heap) (L : Addr) (m : Str → Option Value) (news : List (Addr × Obj)) (s : Shared) (Q : Value → Shared → Prop) : Prop :=
  ∀ h' tk l k vs, Fr h₀ L h' m → News h₀ L h' ((l, W.listOf vs.toArray k) :: news) → P vs → Q (.ref l) { s with heap := h', toks := tk }
section
variable {h₀ : Heap} {L : Addr} {m : Str → Option Value} {news : List (Addr × Obj)} {s : Shared} {Q : Value → Shared → Prop}
theorem RetV.use {P : Value → Prop} (R : RetV P h₀ L m news s Q) {h' : Heap} {tk : Nat} {v : Value} (F : Fr h₀ L h' m) {news' : List (Addr × Obj)} (N : News h₀ L h' news') (sub : ∀ p ∈ news, p ∈ news') (hp : P v) : Q v { s with heap := h', toks := tk } :=
  R h' tk v F (fun p hp => N p (sub p hp)) hp
theorem RetU.use {P : List Value → Prop} (R : RetU P h₀ L m news s Q) {h' : Heap} {tk : Nat} {l k : Nat} {vs : List Value} (F : Fr h₀ L h' m) {news' : List (Addr × Obj)} (N : News h₀ L h' news') (sub : ∀ p ∈ (l, W.listOf vs.toArray k) :: news, p ∈ news') (hp : P vs) : Q (.ref l) { s with heap := h', toks := tk } :=
  R h' tk l k vs F (fun p hp => N p (sub p hp)) hp
theorem RetL.use {P : List Value → Prop} (R : RetL P h₀ L m news s Q) {h' : Heap} {tk : Nat} {l k : Nat} {vs : List Value} (F : Fr h₀ L h' m) {news' : List (Addr × Obj)} (N : News h₀ L h' news') (sub : ∀ p ∈ (l, W.listOf vs.toArray k) :: news, p ∈ news') (hl : ∀ p ∈ news, p.1 < l) (hp : P vs) : Q (.ref l) { s with heap := h', toks := tk } :=
  R h' tk l k vs F (fun p hp => N p (sub p hp)) hl hp
end
/-- the six first signs of a name: W and its number -/
def wname (n : Int) : Str := Str.ofString "W" ++ Str.ofString (toString n)
def nameOf (n : Int) : Str := if Int.fmod n 50 = 49 then Str.ofString "" else wname (Int.fmod n 50)
def placeOf (n : Int) : List Str := [Str.ofString (toString (4200 + n)) ++ Str.ofString "." ++ Str.ofString (toString (7 * n)), Txt.item (Str.ofString "NS") (n.fmod 2),
  Str.ofString "0" ++ Str.ofString (toString (7100 + n)) ++ Str.ofString ".25", Txt.item (Str.ofString "EW") ((n.fdiv 2).fmod 2)]
end
/- C1 -/
section
theorem fresh_C1 : True := by
  w_top off
  k_with_none
  exact True.intro
local macro_rules | `(tactic| walk_at "pad 0") => `(tactic| fail)
local macro_rules | `(tactic| walk_at "pad 1") => `(tactic| fail)
local macro_rules | `(tactic| walk_at "pad 2") => `(tactic| fail)
local macro_rules | `(tactic| walk_at "pad 3") => `(tactic| fail)
local macro_rules | `(tactic| walk_at "pad 4") => `(tactic| fail)
local macro_rules | `(tactic| walk_at "pad 5") => `(tactic| fail)
local macro_rules | `(tactic| walk_at "pad 6") => `(tactic| fail)
local macro_rules | `(tactic| walk_at "pad 7") => `(tactic| fail)
local macro_rules | `(tactic| walk_at "pad 8") => `(tactic| fail)
local macro_rules | `(tactic| walk_at "pad 9") => `(tactic| fail)
local macro_rules | `(tactic| walk_at "pad 10") => `(tactic| fail)
local macro_rules | `(tactic| walk_at "pad 11") => `(tactic| fail)
local macro_rules | `(tactic| walk_at "pad 12") => `(tactic| fail)
local macro_rules | `(tactic| walk_at "pad 13") => `(tactic| fail)
local macro_rules | `(tactic| walk_at "pad 14") => `(tactic| fail)
local macro_rules | `(tactic| walk_at "pad 15") => `(tactic| fail)
local macro_rules | `(tactic| walk_at "pad 16") => `(tactic| fail)
local macro_rules | `(tactic| walk_at "pad 17") => `(tactic| fail)
local macro_rules | `(tactic| walk_at "pad 18") => `(tactic| fail)
local macro_rules | `(tactic| walk_at "pad 19") => `(tactic| fail)
local macro_rules | `(tactic| walk_at "pad 20") => `(tactic| fail)
local macro_rules | `(tactic| walk_at "pad 21") => `(tactic| fail)
local macro_rules | `(tactic| walk_at "pad 22") => `(tactic| fail)
local macro_rules | `(tactic| walk_at "pad 23") => `(tactic| fail)
local macro_rules | `(tactic| walk_at "pad 24") => `(tactic| fail)
local macro_rules | `(tactic| walk_at "pad 25") => `(tactic| fail)
local macro_rules | `(tactic| walk_at "pad 26") => `(tactic| fail)
local macro_rules | `(tactic| walk_at "pad 27") => `(tactic| fail)
local macro_rules | `(tactic| walk_at "pad 28") => `(tactic| fail)
local macro_rules | `(tactic| walk_at "pad 29") => `(tactic| fail)
local macro_rules | `(tactic| walk_at "pad 30") => `(tactic| fail)
local macro_rules | `(tactic| walk_at "pad 31") => `(tactic| fail)
local macro_rules | `(tactic| walk_at "pad 32") => `(tactic| fail)
local macro_rules | `(tactic| walk_at "pad 33") => `(tactic| fail)
local macro_rules | `(tactic| walk_at "pad 34") => `(tactic| fail)
local macro_rules | `(tactic| walk_at "pad 35") => `(tactic| fail)
local macro_rules | `(tactic| walk_at "pad 36") => `(tactic| fail)
local macro_rules | `(tactic| walk_at "pad 37") => `(tactic| fail)
local macro_rules | `(tactic| walk_at "pad 38") => `(tactic| fail)
local macro_rules | `(tactic| walk_at "pad 39") => `(tactic| fail)
variable {prog : Program} {w : World} {p : Program} {loose : List Str} {mean : ExcName → Option Value} {mg mb : Str → Option Value}
local macro_rules | `(tactic| k_room) => `(tactic| ktr_room)
local macro_rules | `(tactic| ktr_room) => `(tactic| (simp only [depth_under_make, depth_under_kw, depth_in1, depth_deeper] at *; omega))
local macro_rules | `(tactic| k_units) => `(tactic| ktr_units)
local macro_rules | `(tactic| k_mem) => `(tactic| first | assumption | (refine List.mem_cons_of_mem _ ?_; k_mem))

set_option maxHeartbeats 400000 in
theorem name_c {n : Int} {t : Tok} : Claim prog w p loose mean mg mb 1 315 [.int n t] (RetS (nameOf n)) := by
  unfold Claim
  intro dp un gd cn cs a ccd cl outer A₀ base h₀ L m news s Q E B F X N T hk hd hu hret
  k_dflt (refine' code_def ?k1 ?k2 ?k3 ?k4 ?k5 ?kA ?kF ?kK ?k6 ?k7 ?k8 ?k9 ?kB ?_ ?c2 ?c3 ?c4 ?c5; (case kA => exact rfl); (case kF => exact rfl); (case kK => first | rfl | assumption); (case k1 => k_asm); (case k2 => k_asm); (case k3 => k_asm); (case k4 => k_asm); (case k5 => k_asm); (case k6 => k_is); (case k7 => k_is); (case k8 => ktr_room); (case k9 => exact BindsTo.of_eq rfl); (case c5 => decide); (case kB => exact locs rfl); (case c2 => exact rfl); (case c3 => exact rfl); (case c4 => exact rfl); k_whole; intro g' L' h1' FG' F' N' B' X' T'; (try dsimp only))

  k_steps
  · exact hret.use (by k_asm) (by k_asm) (fun _ h => h) (by rw [nameOf, if_pos (by assumption)]; exact ⟨_, rfl⟩)
  · exact hret.use (by k_asm) (by k_asm) (fun _ h => h) (by rw [nameOf, if_neg (by assumption)]; exact ⟨_, rfl⟩)
set_option maxHeartbeats 400000 in
theorem place_c {n : Int} {t : Tok} (h0 : 0 ≤ n) (h1 : n < 49) : Claim prog w p loose mean mg mb 1 308 [.int n t] (RetL fun vs => StrsAre vs (placeOf n)) := by
  unfold Claim
  intro dp un gd cn cs a ccd cl outer A₀ base h₀ L m news s Q E B F X N T hk hd hu hret
  k_dflt (refine' code_def ?k1 ?k2 ?k3 ?k4 ?k5 ?kA ?kF ?kK ?k6 ?k7 ?k8 ?k9 ?kB ?_ ?c2 ?c3 ?c4 ?c5; (case kA => exact rfl); (case kF => exact rfl); (case kK => first | rfl | assumption); (case k1 => k_asm); (case k2 => k_asm); (case k3 => k_asm); (case k4 => k_asm); (case k5 => k_asm); (case k6 => k_is); (case k7 => k_is); (case k8 => ktr_room); (case k9 => exact BindsTo.of_eq rfl); (case c5 => decide); (case kB => exact locs rfl); (case c2 => exact rfl); (case c3 => exact rfl); (case c4 => exact rfl); k_whole; intro g' L' h1' FG' F' N' B' X' T'; (try dsimp only))

  k_steps
  refine hret.use (k := 0) (vs := [_, _, _, _]) (by k_asm) (by k_asm) (fun _ h => h) (by assumption) ?_
  repeat constructor
set_option maxHeartbeats 400000 in
theorem due_none_c {t : Tok} : Claim prog w p loose mean mg mb 1 322 [.str (Str.ofString "") t] (RetV fun v => v = .none) := by
  unfold Claim
  intro dp un gd cn cs a ccd cl outer A₀ base h₀ L m news s Q E B F X N T hk hd hu hret
  k_dflt (refine' code_def ?k1 ?k2 ?k3 ?k4 ?k5 ?kA ?kF ?kK ?k6 ?k7 ?k8 ?k9 ?kB ?_ ?c2 ?c3 ?c4 ?c5; (case kA => exact rfl); (case kF => exact rfl); (case kK => first | rfl | assumption); (case k1 => k_asm); (case k2 => k_asm); (case k3 => k_asm); (case k4 => k_asm); (case k5 => k_asm); (case k6 => k_is); (case k7 => k_is); (case k8 => ktr_room); (case k9 => exact BindsTo.of_eq rfl); (case c5 => decide); (case kB => exact locs rfl); (case c2 => exact rfl); (case c3 => exact rfl); (case c4 => exact rfl); k_whole; intro g' L' h1' FG' F' N' B' X' T'; (try dsimp only))

  k_steps
  exact hret.use (by k_asm) (by k_asm) (fun _ h => h) rfl
theorem wname_slice : ∀ k : Nat, k < 49 → PySem.intText? (Txt.slice (wname k) (some 1) none) = some (k : Int) ∧ (Txt.slice (wname k) (some 1) none).length ≤ 640 ∧ (wname k == Str.ofString "") = false ∧ (wname k).length ≤ 3 := by decide +kernel
theorem wname_facts {n : Int} (h0 : 0 ≤ n) (h1 : n < 49) : PySem.intText? (Txt.slice (wname n) (some 1) none) = some n ∧ (Txt.slice (wname n) (some 1) none).length ≤ 640 ∧ (wname n == Str.ofString "") = false ∧ (wname n).length ≤ 3 := by
  obtain ⟨k, rfl⟩ := Int.eq_ofNat_of_zero_le h0
  exact wname_slice k (by omega)
local macro_rules | `(tactic| walk_at "call ref") => `(tactic| ((with_reducible show wpAny _ _ (call (Value.ref 308) [Value.int _ _]) _ _ _); k_dflt (refine call_of ?_; refine' place_c ?p0 ?p1 _ _ _ _ _ _ _ _ _ _ _ _ _ _ _ _ _ _ ?k1 ?k2 ?k3 ?k4 ?k5 ?k6 ?k7 ?k8 ?_; (case p0 => assumption); (case p1 => assumption); (case k1 => k_asm); (case k2 => k_asm); (case k3 => k_asm); (case k4 => k_asm); (case k5 => k_asm); (case k6 => first | rfl | assumption); (case k7 => ktr_room); (case k8 => ktr_units); intro h' tk' l' k' vs' F' N' l1 hP)))

set_option maxHeartbeats 400000 in
theorem due_c {n : Int} {t : Tok} (h0 : 0 ≤ n) (h1 : n < 49) : Claim prog w p loose mean mg mb 2 322 [.str (wname n) t] (RetL fun vs => StrsAre vs (placeOf n)) := by
  obtain ⟨hw1, hw2, hw3, hw4⟩ := wname_facts h0 h1
  unfold Claim
  intro dp un gd cn cs a ccd cl outer A₀ base h₀ L m news s Q E B F X N T hk hd hu hret
  k_dflt (refine' code_def ?k1 ?k2 ?k3 ?k4 ?k5 ?kA ?kF ?kK ?k6 ?k7 ?k8 ?k9 ?kB ?_ ?c2 ?c3 ?c4 ?c5; (case kA => exact rfl); (case kF => exact rfl); (case kK => first | rfl | assumption); (case k1 => k_asm); (case k2 => k_asm); (case k3 => k_asm); (case k4 => k_asm); (case k5 => k_asm); (case k6 => k_is); (case k7 => k_is); (case k8 => ktr_room); (case k9 => exact BindsTo.of_eq rfl); (case c5 => decide); (case kB => exact locs rfl); (case c2 => exact rfl); (case c3 => exact rfl); (case c4 => exact rfl); k_whole; intro g' L' h1' FG' F' N' B' X' T'; (try dsimp only))

  k_steps
  exact hret.use (by k_asm) (by k_asm) (fun _ h => h) (by assumption) (by assumption)
end
/- C2 -/
section
theorem fresh_C2 : True := by
  w_top off
  k_with_none
  exact True.intro
variable {prog : Program} {w : World} {p : Program} {loose : List Str} {mean : ExcName → Option Value} {mg mb : Str → Option Value}
local macro_rules | `(tactic| k_room) => `(tactic| ktr_room)
local macro_rules | `(tactic| ktr_room) => `(tactic| (simp only [depth_under_make, depth_under_kw, depth_in1, depth_deeper] at *; omega))
local macro_rules | `(tactic| k_units) => `(tactic| ktr_units)
local macro_rules | `(tactic| k_mem) => `(tactic| first | assumption | (refine List.mem_cons_of_mem _ ?_; k_mem))

section
variable {A : Around} {E : Value → Shared → Prop} {s : Shared} {h₀ : Heap} {L : Addr} {m : Str → Option Value} {env : Env}
theorem step_walks {I : Addr} (hh : A.handled = none) (a st : Int) (n : Nat) : Walks prog w A I [I] [I] n (fun i v => ∃ t, v = .int (a + (i : Int) * st) t) (fun i h => IsRangeIter h I (a + (i : Nat) * st) ((n : Int) - (i : Nat)) st) :=
  let W : Walks prog w A I [I] [I] n (fun i v => i < n ∧ ∃ t, v = .int (a + i * st) t) (fun i h => IsRangeIter h I (a + (i : Nat) * st) ((n : Int) - (i : Nat)) st) := (Walks.range hh I a st n).bound
  { sub := W.sub, frame := W.frame, done := W.done, self := W.self,
    item := fun i s Q E hi st hQ => W.item i s Q E hi st fun v h' tk hP => hQ v h' tk hP.2 }
theorem step_st {I : Addr} {a st : Int} {n : Nat} : ∀ i (h h' : Heap) (o : Obj) (nw : List (Addr × Obj)), IsRangeIter h I (a + (i : Nat) * st) ((n : Int) - (i : Nat)) st → h.get? I = some o → h'.get? I = some o → (∀ b o, h₀.get? b = some o → h'.get? b = some o) → News h₀ L h' nw → True → IsRangeIter h' I (a + (i : Nat) * st) ((n : Int) - (i : Nat)) st :=
  fun i h h' o nw z e e' _ _ _ => by
    have z' : h.get? I = some _ := z
    show h'.get? I = some _
    rw [e', ← e]; exact z'
def SrcStep (prog : Program) (w : World) (A : Around) (h₀ : Heap) (L : Addr) (m : Str → Option Value) (env : Env) (elt : Expr) (x : Str) (scope : Scope) (cl : List (Str × Addr)) (Fin : Shared → List Value → List (Addr × Obj) → Prop) (xv : Value) (s₁ : Shared) : Prop :=
  ∃ r a b st t u v n news, xv = .ref r ∧ A.handled = none ∧ Fr h₀ L s₁.heap m ∧ News h₀ L s₁.heap news ∧ IsRange s₁.heap r a b st t u v ∧ Builtin.Range.small a b st = true ∧ Builtin.Range.rangeSize a b st = ((n : Nat) : Int) ∧ n ≤ sizeLine ∧
    ∀ s₂ : Shared, (∃ h, s₂ = { s₁ with heap := h }) → LCg.CompRest prog w A h₀ L m env elt x scope cl s₂ (fun _ => True) (fun i v => ∃ t, v = .int (a + (i : Int) * st) t) (Fin s₂) n 0 [] news
theorem comp_step {elt iter : Expr} {x : Str} {px : Pos} {scope : Scope} {cl : List (Str × Addr)} {pos : Pos} {Q : Value → Shared → Prop} (_F₀ : Fr h₀ L s.heap m)
    (hclos : closureFor scope env = pure cl) (hcell : ∀ y ∈ scope.names, y.2 ≠ .cell) (hkind : scope.kind = .function)
    (hnames : ∀ y ∈ scope.names, y.2 = .local → scope.names.lookup y.1 = some .local) (hx : scope.names.lookup x = some .local)
    (h : wpAny (model prog w) A (eval iter env) (SrcStep prog w A h₀ L m env elt x scope cl (fun s₂ => LCg.FinE h₀ L m s₂ Q)) E s)
    (hs : ∀ x, foldedSetIterable iter env x = pure x := by intro _; rfl) :
    wpAny (model prog w) A (eval (.ListComp elt [⟨.Name x px, iter, [], 0⟩] scope pos) env) Q E s := by
  rw [eval_ListComp]
  refine wpAny_comprehension_free (use := none) rfl hs hclos hkind hnames (wpAny_mono h (fun xv s₁ h₁ => ?_) fun _ _ e => e)
  obtain ⟨r, a, b, st, t, u, v, n, news, rfl, hh, F, N, hr, hsm, hn, hsz, R⟩ := h₁
  refine wpAny_pyIter_range hr hsm ?_
  refine LCg.block_U (step_walks hh a st n) hsz (fun i h z => ⟨_, z⟩) step_st hcell hkind hx (by show IsRangeIter _ _ _ _ _; rw [hn]; simpa using Heap.get?_push_size _ rfl) (fun b hb => ?_)
    (F.keeps fun _ _ e => Heap.get?_push_of_some _ e) (N.grown fun _ _ e => Heap.get?_push_of_some _ e) (Nat.ne_of_lt F.ns.lt) (next_is_new F) (fun p hp => Nat.ne_of_lt (Heap.lt_size (N p hp).1)) trivial (R _ ⟨_, rfl⟩) ?_
  · rw [List.mem_singleton.mp hb]
    show s₁.heap.objs.size < (s₁.heap.push _).objs.size
    rw [Heap.size_push]; exact Nat.lt_succ_self _
  · intro D C h' tk m' ys news' F' N' o1 hn hC₀ hD₀ hCL hDL hCD offC fin
    refine ⟨m', hn, fun h'' hs'' => fin D h'' tk (F'.change hs'' hCL hC₀) (fun p hp => ?_) o1⟩
    refine ⟨hs''.extBut _ _ ?_ (N' p hp).1, (N' p hp).2⟩
    rcases List.mem_cons.mp hp with rfl | hp
    · exact Ne.symm hCD
    · exact offC p hp
end
theorem size_two {a b : Int} (h0 : 0 ≤ a) (h1 : a ≤ 1) (hb0 : 0 ≤ b) (h2 : b ≤ 63) : Builtin.Range.small a b 2 = true ∧ 2 * (Builtin.Range.rangeSize a b 2).toNat ≤ (b - a + 1).toNat ∧ ∀ i : Nat, i < (Builtin.Range.rangeSize a b 2).toNat → a + (i : Int) * 2 < b := by
  have e : Builtin.Range.rangeSize a b 2 = if a < b then (b - a - 1) / 2 + 1 else 0 := by
    unfold Builtin.Range.rangeSize; rw [if_pos (by decide)]
  refine ⟨?_, ?_, ?_⟩
  · unfold Builtin.Range.small
    rw [e]
    simp only [Builtin.Range.rangeFitsLong, Bool.and_eq_true, Bool.or_eq_true, decide_eq_true_eq, beq_iff_eq, show (2 : Int) > 0 by decide, if_true]
    split <;> omega
  · rw [e]; split <;> omega
  · intro i hi
    rw [e] at hi
    split at hi <;> omega
theorem rest_step {A : Around} {h₀ : Heap} {L : Addr} {m : Str → Option Value} {env : Env} {elt : Expr} {x : Str} {scope : Scope} {cl : List (Str × Addr)} {s : Shared} {Fin : List Value → List (Addr × Obj) → Prop} {news : List (Addr × Obj)} {n : Nat} {a b : Int} (g : Int → Int) (hlt : ∀ i : Nat, i < n → a + (i : Int) * 2 < b)
    (turn : ∀ k t I oI C oC D m₂ ys h tk (E' : Value → Shared → Prop), a ≤ k → k < b → LCg.NsObj oC m₂ → m₂ x = some (.int k t) → Fr h₀ L h m → News h₀ L h ((I, oI) :: (C, oC) :: (D, LCg.lst ys) :: news) → LCg.Off3 I C D news → ((@Ne Nat I C) ∧ (@Ne Nat I D) ∧ (@Ne Nat C D)) →
      wpAny (model prog w) A (eval elt (compEnvC scope cl C env)) (LCg.CompEnd h₀ L m { s with heap := h, toks := tk } I oI C oC D (LCg.lst ys) (fun _ => True) (fun y news' => KCfEl news (g k) y news')) E' { s with heap := h, toks := tk })
    (fin : ∀ ys (ks : List Int), ks.length = n → IntsAre ys ks → Fin ys news) : LCg.CompRest prog w A h₀ L m env elt x scope cl s (fun _ => True) (fun i v => ∃ t, v = .int (a + (i : Int) * 2) t) Fin n 0 [] news := by
  refine kcf_rest (ks := (List.range n).map fun i : Nat => a + (i : Int) * 2) g (by simp) (fun i v hi ⟨t, e⟩ => ⟨_, t, by simp [hi], e⟩) (fun k t I oI C oC D m₂ ys h tk E' hk hC hx F N off ne _ => ?_) (fun ys hy => fin ys _ (by simp) hy)
  obtain ⟨i, hi, rfl⟩ := List.mem_map.mp hk
  have := hlt i (List.mem_range.mp hi)
  exact turn _ t I oI C oC D m₂ ys h tk E' (by omega) this hC hx F N off ne
local macro_rules | `(tactic| walk_at "eval ListComp") => `(tactic| (k_here; k_dflt (refine comp_step (_F₀ := by k_asm) (by with_unfolding_all rfl) (by decide) (by rfl) (by decide) (by rfl) ?_)))
set_option maxHeartbeats 400000 in
theorem each_c {l : Addr} {vs : List Value} {ns : List Int} {first last : Int} {t u : Tok} (hi : IntsAre vs ns) (hb : ns.length ≤ 63) (h0 : 0 ≤ first) (h1 : first ≤ 1) (h2 : 12 ≤ last) (h3 : last ≤ 48) :
   Claim prog w p loose mean mg mb 1 294 [.ref l, .int first t, .int last u] (fun h₀ L m news s Q => h₀.IsList l vs.toArray ∧ RetU (fun ws => ∃ ks, IntsAre ws ks ∧ 2 * (ks.length : Int) ≤ last + 1 - first) h₀ L m news s Q) := by
  unfold Claim
  intro dp un gd cn cs a ccd cl outer A₀ base h₀ L m news s Q E B F X N T hk hd hu hret
  k_dflt (refine' code_defC ?k1 ?k2 ?k3 ?k4 ?k5 ?kA ?kF ?kK ?k6 ?k7 ?k8 ?k9 ?kB ?kD ?_ ?c2 ?c3 ?c4; (case kA => exact rfl); (case kF => exact rfl); (case kK => first | rfl | assumption); (case k1 => k_asm); (case k2 => k_asm); (case k3 => k_asm); (case k4 => k_asm); (case k5 => k_asm); (case k6 => k_is); (case k7 => k_is); (case k8 => ktr_room); (case k9 => exact BindsTo.of_eq rfl); (case kB => exact rfl); (case kD => decide +kernel); (case c2 => exact rfl); (case c3 => exact rfl); (case c4 => exact rfl); k_whole; intro g' L' h1' tk1' cells' FG' F' N' Y' B' X' T' l1'; k_cells Y'; (try simp only [List.cons_append, List.nil_append] at N'); (try dsimp only))

  obtain ⟨hl0, hret⟩ := hret
  have hl : g'.IsList l vs.toArray := hl0.at fun o e => FG'.keep l o e
  clear hl0
  k_steps
  have hz := size_two (b := if (ns.length : Int) < last then (ns.length : Int) else last) h0 h1 (by split <;> omega) (by split <;> omega)
  k_dflt (refine' ⟨_, _, _, _, _, _, _, _, _, rfl, rfl, ?k1, ?k2, ?k3, hz.1, rangeSize_toNat _ _ _, ?k4, ?_⟩; (case k1 => k_asm); (case k2 => k_asm); (case k3 => assumption); (case k4 => rw [PySem.sizeLine_eq]; have := hz.2.1; split at this <;> omega))
  rintro _ ⟨g2, rfl⟩
  refine rest_step (fun k => ns.getD k.toNat 0) hz.2.2 (fun k' t' I' oI' C' oC' D' m' ys' h' tk' E' hlo hhi hC' hx' F' N' off' ne' => ?_) ?_
  · have hk1 : k' < (ns.length : Int) := by split at hhi <;> omega
    k_steps
    exact ⟨rfl, _, rfl⟩
  · intro ys ks hlen hints D h9 tk9 F9 N9 off9
    have hlen2 : 2 * (ks.length : Int) ≤ last + 1 - first := by rw [hlen]; have := hz.2.1; split at this <;> omega
    k_steps
    exact hret.use (by k_asm) (by k_asm) (by kcf_all) ⟨ks, hints, hlen2⟩
end
/- C3 -/
section
theorem fresh_C3 : True := by
  w_top off
  k_with_none
  exact True.intro
local macro_rules | `(tactic| walk_at "pad 0") => `(tactic| fail)
local macro_rules | `(tactic| walk_at "pad 1") => `(tactic| fail)
local macro_rules | `(tactic| walk_at "pad 2") => `(tactic| fail)
local macro_rules | `(tactic| walk_at "pad 3") => `(tactic| fail)
local macro_rules | `(tactic| walk_at "pad 4") => `(tactic| fail)
local macro_rules | `(tactic| walk_at "pad 5") => `(tactic| fail)
local macro_rules | `(tactic| walk_at "pad 6") => `(tactic| fail)
local macro_rules | `(tactic| walk_at "pad 7") => `(tactic| fail)
local macro_rules | `(tactic| walk_at "pad 8") => `(tactic| fail)
local macro_rules | `(tactic| walk_at "pad 9") => `(tactic| fail)
local macro_rules | `(tactic| walk_at "pad 10") => `(tactic| fail)
local macro_rules | `(tactic| walk_at "pad 11") => `(tactic| fail)
local macro_rules | `(tactic| walk_at "pad 12") => `(tactic| fail)
local macro_rules | `(tactic| walk_at "pad 13") => `(tactic| fail)
local macro_rules | `(tactic| walk_at "pad 14") => `(tactic| fail)
local macro_rules | `(tactic| walk_at "pad 15") => `(tactic| fail)
local macro_rules | `(tactic| walk_at "pad 16") => `(tactic| fail)
local macro_rules | `(tactic| walk_at "pad 17") => `(tactic| fail)
local macro_rules | `(tactic| walk_at "pad 18") => `(tactic| fail)
local macro_rules | `(tactic| walk_at "pad 19") => `(tactic| fail)
local macro_rules | `(tactic| walk_at "pad 20") => `(tactic| fail)
local macro_rules | `(tactic| walk_at "pad 21") => `(tactic| fail)
local macro_rules | `(tactic| walk_at "pad 22") => `(tactic| fail)
local macro_rules | `(tactic| walk_at "pad 23") => `(tactic| fail)
local macro_rules | `(tactic| walk_at "pad 24") => `(tactic| fail)
local macro_rules | `(tactic| walk_at "pad 25") => `(tactic| fail)
local macro_rules | `(tactic| walk_at "pad 26") => `(tactic| fail)
local macro_rules | `(tactic| walk_at "pad 27") => `(tactic| fail)
local macro_rules | `(tactic| walk_at "pad 28") => `(tactic| fail)
local macro_rules | `(tactic| walk_at "pad 29") => `(tactic| fail)
local macro_rules | `(tactic| walk_at "pad 30") => `(tactic| fail)
local macro_rules | `(tactic| walk_at "pad 31") => `(tactic| fail)
local macro_rules | `(tactic| walk_at "pad 32") => `(tactic| fail)
local macro_rules | `(tactic| walk_at "pad 33") => `(tactic| fail)
local macro_rules | `(tactic| walk_at "pad 34") => `(tactic| fail)
local macro_rules | `(tactic| walk_at "pad 35") => `(tactic| fail)
local macro_rules | `(tactic| walk_at "pad 36") => `(tactic| fail)
local macro_rules | `(tactic| walk_at "pad 37") => `(tactic| fail)
local macro_rules | `(tactic| walk_at "pad 38") => `(tactic| fail)
local macro_rules | `(tactic| walk_at "pad 39") => `(tactic| fail)
variable {prog : Program} {w : World} {p : Program} {loose : List Str} {mean : ExcName → Option Value} {mg mb : Str → Option Value}
local macro_rules | `(tactic| k_room) => `(tactic| ktr_room)
local macro_rules | `(tactic| ktr_room) => `(tactic| (simp only [depth_under_make, depth_under_kw, depth_in1, depth_deeper] at *; omega))
local macro_rules | `(tactic| k_units) => `(tactic| ktr_units)
local macro_rules | `(tactic| k_mem) => `(tactic| first | assumption | (refine List.mem_cons_of_mem _ ?_; k_mem))

/-- the signs' numbers, one by one, each bit apart -/
def xsum (l : List Nat) : Nat := l.foldl (fun a c => a ^^^ c) 0
def xsumI (l : List Int) : Int := (xsum (l.map Int.toNat) : Nat)
def hexText (v : Int) : Str := Str.ofString "*" ++ Txt.item (Str.ofString "0123456789ABCDEF") (v.fdiv 16) ++ Txt.item (Str.ofString "0123456789ABCDEF") (v.fmod 16)
def hexOf (x : Str) : Str := hexText (xsumI (KStt.codes x))
theorem xor_add : ∀ (a b : Nat), (a ^^^ b) + 2 * (a &&& b) = a + b := by
  intro a
  induction a using Nat.strongRecOn with
  | _ a ih =>
    intro b
    by_cases ha : a = 0
    · subst ha; simp
    · have h := ih (a / 2) (by omega) (b / 2)
      have e1 : (a ^^^ b) / 2 = (a / 2) ^^^ (b / 2) := Nat.xor_div_two
      have e2 : (a &&& b) / 2 = (a / 2) &&& (b / 2) := Nat.and_div_two
      have e3 : (a ^^^ b) % 2 = (a % 2) ^^^ (b % 2) := by simpa using Nat.xor_mod_two_pow (a := a) (b := b) (n := 1)
      have e4 : (a &&& b) % 2 = (a % 2) &&& (b % 2) := by simpa using Nat.and_mod_two_pow (a := a) (b := b) (n := 1)
      have key : ∀ i, i < 2 → ∀ j, j < 2 → (i ^^^ j) + 2 * (i &&& j) = i + j := by decide
      have k := key (a % 2) (by omega) (b % 2) (by omega)
      omega
theorem xsumI_snoc (pre : List Int) (k : Nat) : xsumI (pre ++ [(k : Int)]) = ((xsum (pre.map Int.toNat) ^^^ k : Nat) : Int) := by
  unfold xsumI xsum
  rw [List.map_append, List.foldl_append]
  rfl
theorem xsum_step {x : Str} {pre post : List Int} {k : Nat} {v : Int} (ha : ∀ c ∈ KStt.codes x, c < 128) (e : KStt.codes x = pre ++ (k : Int) :: post) (h1 : v = xsumI pre) (h2 : 0 ≤ v) (h3 : v < 128) :
    v + (k : Int) - 2 * Builtin.bitAnd v (k : Int) = xsumI (pre ++ [(k : Int)]) ∧ 0 ≤ v + (k : Int) - 2 * Builtin.bitAnd v (k : Int) ∧ v + (k : Int) - 2 * Builtin.bitAnd v (k : Int) < 128 := by
  have hk : (k : Int) < 128 := ha _ (by rw [e]; simp)
  have hb : Builtin.bitAnd v (k : Int) = ((xsum (pre.map Int.toNat) &&& k : Nat) : Int) := by
    unfold Builtin.bitAnd
    rw [decide_eq_true h2, decide_eq_true (Int.natCast_nonneg k)]
    subst h1
    rfl
  have hx := xor_add (xsum (pre.map Int.toNat)) k
  have hlt : (xsum (pre.map Int.toNat) ^^^ k) < 2 ^ 7 := Nat.xor_lt_two_pow (by unfold xsumI at h1; omega) (by omega)
  rw [hb, xsumI_snoc]
  unfold xsumI at h1
  omega
set_option maxHeartbeats 400000 in
theorem hex_c {x : Str} {t : Tok} (hx : x.length < 1000) (ha : ∀ c ∈ KStt.codes x, c < 128) : Claim prog w p loose mean mg mb 1 301 [.str x t] (RetS (hexOf x)) := by
  unfold Claim
  intro dp un gd cn cs a ccd cl outer A₀ base h₀ L m news s Q E B F X N T hk hd hu hret
  k_dflt (refine' code_def ?k1 ?k2 ?k3 ?k4 ?k5 ?kA ?kF ?kK ?k6 ?k7 ?k8 ?k9 ?kB ?_ ?c2 ?c3 ?c4 ?c5; (case kA => exact rfl); (case kF => exact rfl); (case kK => first | rfl | assumption); (case k1 => k_asm); (case k2 => k_asm); (case k3 => k_asm); (case k4 => k_asm); (case k5 => k_asm); (case k6 => k_is); (case k7 => k_is); (case k8 => ktr_room); (case k9 => exact BindsTo.of_eq rfl); (case c5 => decide); (case kB => exact locs rfl); (case c2 => exact rfl); (case c3 => exact rfl); (case c4 => exact rfl); k_whole; intro g' L' h1' FG' F' N' B' X' T'; (try dsimp only))

  k_with "pyIter str" => k_state (fun pre v => v = xsumI pre ∧ 0 ≤ v ∧ v < 128) "value"
  k_with "state" => first | exact xsum_step ha (by assumption) (by assumption) (by assumption) (by assumption) | exact ⟨rfl, by decide, by decide⟩
  k_steps
  · exact hret.use (by k_asm) (by k_asm) (fun _ h => h) (by rw [hexOf, ← (by assumption : _ = xsumI (KStt.codes x))]; exact ⟨_, rfl⟩)
end
/- B1 -/
section
variable {prog : Program} {w : World} {p : Program} {loose : List Str} {mean : ExcName → Option Value} {mg mb : Str → Option Value}
local macro_rules | `(tactic| k_room) => `(tactic| ktr_room)
local macro_rules | `(tactic| ktr_room) => `(tactic| (simp only [depth_under_make, depth_under_kw, depth_in1, depth_deeper] at *; omega))
local macro_rules | `(tactic| k_units) => `(tactic| ktr_units)
local macro_rules | `(tactic| k_mem) => `(tactic| first | assumption | (refine List.mem_cons_of_mem _ ?_; k_mem))

section
variable {A : Around} {E : Value → Shared → Prop} {s : Shared} {h₀ : Heap} {L l : Addr} {m : Str → Option Value} {news : List (Addr × Obj)} {value slice : PySem.Expr} {vs : List Value} {k : Nat} {Q : Value → Shared → Prop}
theorem cut_from (vs : List Value) {x : Int} (h : 0 ≤ x) : slicePick vs.toArray (some x) none none = (vs.drop x.toNat).toArray := by
  have e : sliceBounds (some x) none none vs.toArray.size = (((min x.toNat vs.toArray.size : Nat) : Int), ((vs.toArray.size : Nat) : Int), 1) := by
    simp only [sliceBounds, Option.getD_none, show (1 : Int) > 0 by decide, if_true, if_neg (show ¬ (x < 0) by omega)]
    congr 1
    omega
  rw [kmk_pick_nat _ e]
  show ((vs.drop (min x.toNat vs.toArray.size)).take (vs.toArray.size - min x.toNat vs.toArray.size)).toArray = _
  rw [List.size_toArray, kmk_drop_min, List.take_of_length_le (by rw [List.length_drop]; omega)]
theorem cut_upto (vs : List Value) {y : Int} (h : 0 ≤ y) : slicePick vs.toArray none (some y) none = (vs.take y.toNat).toArray := by
  have e : sliceBounds none (some y) none vs.toArray.size = (((0 : Nat) : Int), ((min y.toNat vs.toArray.size : Nat) : Int), 1) := by
    simp only [sliceBounds, Option.getD_none, show (1 : Int) > 0 by decide, if_true, if_neg (show ¬ (y < 0) by omega)]
    congr 1
    congr 1
    omega
  rw [kmk_pick_nat _ e]
  show ((vs.drop 0).take (min y.toNat vs.toArray.size - 0)).toArray = _
  rw [List.drop_zero, Nat.sub_zero, List.size_toArray, kmk_take_min]
theorem sl_from {x : Int} {t : Tok} (F : Fr h₀ L s.heap m) (N : News h₀ L s.heap news) (hl : (l, W.listOf vs.toArray k) ∈ news) (hx : 0 ≤ x)
    (h : ∀ D h', Fr h₀ L h' m → News h₀ L h' ((D, W.listOf (vs.drop x.toNat).toArray 0) :: news) → (∀ p ∈ news, p.1 < D) → Q (.ref D) { s with heap := h' })
    (hs : subscripted slice false (.ref l) (.ref s.heap.objs.size) = operate [.ref s.heap.objs.size, .ref l] (getItem (.ref l) (.ref s.heap.objs.size))) (ht : ∀ r, letTemporaryGo value (.ref l) r = pure ()) (hz : vs.length ≤ 1000000) :
    wpAny (model prog w) A (subscriptTail value slice (.ref l) (.ref s.heap.objs.size)) Q E { s with heap := s.heap.push { cls := .type "slice", data := .fields #[.int x t, .none, .none] } } :=
  kmk_slice F N (News.isList N hl) (.int _ _) .none (fun D h' F' N' l1 => h D h' F' (by rw [← cut_from vs hx]; exact N') l1) hs ht (by rw [PySem.sizeLine_eq, List.size_toArray]; omega)
theorem sl_upto {y : Int} {t : Tok} (F : Fr h₀ L s.heap m) (N : News h₀ L s.heap news) (hl : (l, W.listOf vs.toArray k) ∈ news) (hy : 0 ≤ y)
    (h : ∀ D h', Fr h₀ L h' m → News h₀ L h' ((D, W.listOf (vs.take y.toNat).toArray 0) :: news) → (∀ p ∈ news, p.1 < D) → Q (.ref D) { s with heap := h' })
    (hs : subscripted slice false (.ref l) (.ref s.heap.objs.size) = operate [.ref s.heap.objs.size, .ref l] (getItem (.ref l) (.ref s.heap.objs.size))) (ht : ∀ r, letTemporaryGo value (.ref l) r = pure ()) (hz : vs.length ≤ 1000000) :
    wpAny (model prog w) A (subscriptTail value slice (.ref l) (.ref s.heap.objs.size)) Q E { s with heap := s.heap.push { cls := .type "slice", data := .fields #[.none, .int y t, .none] } } :=
  kmk_slice F N (News.isList N hl) .none (.int _ _) (fun D h' F' N' l1 => h D h' F' (by rw [← cut_upto vs hy]; exact N') l1) hs ht (by rw [PySem.sizeLine_eq, List.size_toArray]; omega)
theorem sl_add {a b : Addr} {us : List Value} {j : Nat} (F : Fr h₀ L s.heap m) (N : News h₀ L s.heap news) (ha : (a, W.listOf us.toArray j) ∈ news) (hb : (b, W.listOf vs.toArray k) ∈ news) (h1 : us.length + vs.length ≤ 1000000)
    (h : ∀ D h', Fr h₀ L h' m → News h₀ L h' ((D, W.listOf (us ++ vs).toArray 0) :: news) → (∀ p ∈ news, p.1 < D) → Q (.ref D) { s with heap := h' }) :
    wpAny (model prog w) A (binaryOp .Add (.ref a) (.ref b)) Q E s := by
  refine kmk_add_lit F N (News.isList N ha) (News.isList N hb) (zs := us ++ vs) (by simp) h (by rw [PySem.sizeLine_eq]; simp; omega)
theorem StrsAre.drop : ∀ {vs : List Value} {ys : List Str}, StrsAre vs ys → ∀ k : Nat, StrsAre (vs.drop k) (ys.drop k)
  | _, _, h, 0 => h
  | _, _, .nil, _ + 1 => .nil
  | _, _, .cons _ _ h, k + 1 => StrsAre.drop h k
theorem StrsAre.len : ∀ {vs : List Value} {ys : List Str}, StrsAre vs ys → vs.length = ys.length
  | _, _, .nil => rfl
  | _, _, .cons _ _ h => congrArg (· + 1) (StrsAre.len h)
theorem led_len {Q : Value → Shared → Prop} (N : News h₀ L s.heap news) (hl : (l, W.listOf vs.toArray k) ∈ news) (hz : vs.length ≤ 1000000)
    (h : ∀ t tk, Q (.int (vs.length : Nat) t) { s with toks := tk }) : wpAny (model prog w) A (call (.builtin "len") [.ref l]) Q E s :=
  len_list (News.isList N hl) (by rw [List.size_toArray]; omega) (by have := h (s.toks + 1) (s.toks + 1 + 1); simpa using this)
theorem strs_get : ∀ {vs : List Value} {ys : List Str}, StrsAre vs ys → ∀ i, i < ys.length → ∃ t, vs[i]? = some (.str (ys.getD i Str.empty) t)
  | _, _, .cons y t _, 0, _ => ⟨t, rfl⟩
  | _, _, .cons _ _ h, i + 1, hi => by
    obtain ⟨t, e⟩ := strs_get h i (Nat.lt_of_succ_lt_succ hi)
    exact ⟨t, by simpa using e⟩
theorem led_item {i : Int} {u : Tok} {v : Value} (N : News h₀ L s.heap news) (hl : (l, W.listOf vs.toArray k) ∈ news) (h0 : 0 ≤ i) (h1 : i < 2 ^ 63) (hx : vs[i.toNat]? = some v) (h : Q v s)
    (hs : subscripted slice false (.ref l) (.int i u) = operate [.ref l, .int i u] (getItem (.ref l) (.int i u)) := by with_unfolding_all rfl) :
    wpAny (model prog w) A (subscriptTail value slice (.ref l) (.int i u)) Q E s :=
  tail_any (News.isList N hl).typeIs slot_list_getitem.lookup (wpAny_getItem_list (News.isList N hl) h0 h1 (by simpa using hx) h) hs
theorem led_item_str {i : Int} {u : Tok} {ys : List Str} (N : News h₀ L s.heap news) (hl : (l, W.listOf vs.toArray k) ∈ news) (hS : StrsAre vs ys) (h0 : 0 ≤ i) (h1 : i < ys.length) (hz : ys.length ≤ 1000000) (h : ∀ t, Q (.str (ys.getD i.toNat Str.empty) t) s)
    (hs : subscripted slice false (.ref l) (.int i u) = operate [.ref l, .int i u] (getItem (.ref l) (.int i u)) := by with_unfolding_all rfl) :
    wpAny (model prog w) A (subscriptTail value slice (.ref l) (.int i u)) Q E s := by
  obtain ⟨t, e⟩ := strs_get hS i.toNat (by omega)
  exact led_item N hl h0 (by omega) e (h t) hs
end
end
/- E1 -/
section
variable {prog : Program} {w : World} {p : Program} {loose : List Str} {mean : ExcName → Option Value} {mg mb : Str → Option Value}
local macro_rules | `(tactic| k_room) => `(tactic| ktr_room)
local macro_rules | `(tactic| ktr_room) => `(tactic| (simp only [depth_under_make, depth_under_kw, depth_in1, depth_deeper] at *; omega))
local macro_rules | `(tactic| k_units) => `(tactic| ktr_units)
local macro_rules | `(tactic| k_mem) => `(tactic| first | assumption | (refine List.mem_cons_of_mem _ ?_; k_mem))

section
open PySem.Builtin AutoSeq1
theorem enum_new_tup (l : Addr) (items : Array Value) (n : Nat) (dct : Option Addr) (sl : Array (Option Value)) :
    Meets (Builtin.«enumerate.__new__» ⟨[.type "enumerate", .ref l], []⟩) (fun _ R s => s.heap.get? l = some { cls := .type "tuple", dict := dct, data := .seq items n, slots := sl } ∧
      R (.ok (.ret (.ref (s.heap.push { cls := .type "tuple_iterator", data := .fields #[.ref l, .int 0 0] }).objs.size)))
        { s with heap := (s.heap.push { cls := .type "tuple_iterator", data := .fields #[.ref l, .int 0 0] }).push { cls := .type "enumerate", data := .fields #[.none, .bool false, .ref s.heap.objs.size, rawInt 0, .none, .none] } }) :=
  .of_wp fun prog w A R s h => by
    obtain ⟨hp, g, d, tk, os⟩ := s; obtain ⟨hl, h⟩ := h
    have hsub := sub_enumerate
    have hL : IsTup (Shared.heap ⟨hp, g, d, tk, os⟩) l items := ⟨_, hl, rfl, n, rfl⟩
    wp_walk using wpAny_loadPart' hl
    refine wpAny_stack_any fun st => wpAny_pure ?_
    split
    · rename_i c _ _ _ _ _
      cases (c == Value.type "enumerate")
      · wp_walk using wpAny_loadPart' hl, iter_tuple hL
        exact ⟨_, rfl, h⟩
      · wp_walk using wpAny_loadPart' hl, iter_tuple hL
        exact ⟨_, rfl, h⟩
    · wp_walk using wpAny_loadPart' hl, iter_tuple hL
      exact ⟨_, rfl, h⟩
variable {A : Around} {E : Value → Shared → Prop} {s : Shared}
theorem enum_call_tup {l : Addr} {items : Array Value} {Q : Value → Shared → Prop} (hL : IsTup s.heap l items)
    (h : ∀ h', IsEnum h' (s.heap.objs.size + 1) s.heap.objs.size 0 .none → IsTupIter h' s.heap.objs.size l 0 → h'.objs.size = s.heap.objs.size + 2 →
      (∀ b o, s.heap.get? b = some o → h'.get? b = some o) → Q (.ref (s.heap.objs.size + 1)) { s with heap := h' }) :
    wpAny (model prog w) A (call (.type "enumerate") [.ref l]) Q E s := by
  obtain ⟨⟨c, dct, dt, sl⟩, hl, hc, n, hd⟩ := hL
  replace hc : c = .type "tuple" := hc
  replace hd : dt = .seq items n := hd
  subst hc hd
  refine callType_new F.called_enumerate (by decide) (F.typeCall_enumerate_1 _) (F.newCall_enumerate_1 _) (fun obj => F.args_object_init_2 obj _) F.entry_enumerate_new
    (enum_new_tup l items n dct sl) ⟨hl, ?_⟩
  have hz : (s.heap.push { cls := .type "tuple_iterator", data := .fields #[.ref l, .int 0 0] }).objs.size = s.heap.objs.size + 1 := Heap.size_push ..
  show _ ∧ _
  rw [hz]
  have he : IsEnum ((s.heap.push { cls := .type "tuple_iterator", data := .fields #[.ref l, .int 0 0] }).push
      { cls := .type "enumerate", data := .fields #[.none, .bool false, .ref s.heap.objs.size, rawInt 0, .none, .none] }) (s.heap.objs.size + 1) s.heap.objs.size 0 .none := by
    have := Heap.get?_push_size (s.heap.push { cls := .type "tuple_iterator", data := .fields #[.ref l, .int 0 0] })
      (o := { cls := .type "enumerate", data := .fields #[.none, .bool false, .ref s.heap.objs.size, rawInt 0, .none, .none] }) rfl
    rw [hz] at this; exact this
  refine ⟨⟨_, he, rfl⟩, h _ he ⟨_, Heap.get?_push_of_some _ (Heap.get?_push_size _ rfl), rfl, rfl⟩ (by rw [Heap.size_push, hz]) fun b o x => Heap.get?_push_of_some _ (Heap.get?_push_of_some _ x)⟩
theorem nextOf_tup_item {it t : Addr} {i : Nat} {items} {x : Value} {Q : Value → Shared → Prop} (hit : IsTupIter s.heap it t i)
    (ht : IsTup s.heap t items) (hx : items[i]? = some x)
    (hQ : ∀ h', IsTupIter h' it t (i + 1) → Heap.SameBut it s.heap h' → Q x { s with heap := h' }) :
    wpAny (model prog w) A (Builtin.SmallTypes.nextOf (.ref it)) Q E s := by
  obtain ⟨o, ho, hc, hd⟩ := id hit
  obtain ⟨ol, hol, _, nl, hdl⟩ := ht
  unfold Builtin.SmallTypes.nextOf
  refine wpAny_bind (wpAny_callSpecial?_slot (name := Str.ofString "__next__") hit.typeIs slot_tupleiter_next
    (wpAny_call_entry slot_tupleiter_next hit.typeIs entry_tupleiter_next ?_ (args_tupleiter_next _)))
  show wpAny _ _ (field (.ref it) 0 >>= _) _ _ s
  refine wpAny_bind (wpAny_field ho hd (x := .ref t) rfl ?_)
  show wpAny _ _ (if (Value.ref t == Value.none) = true then _ else _) _ _ s
  rw [if_neg (show ¬ ((Value.ref t == Value.none) = true) from Bool.false_ne_true)]
  show wpAny _ _ (field (.ref it) 1 >>= _) _ _ s
  refine wpAny_bind (wpAny_field ho hd (x := .int i 0) rfl ?_)
  show wpAny _ _ (seqItems? (.ref t) >>= _) _ _ s
  refine wpAny_bind (wpAny_seqItems hol hdl ?_)
  simp only [Int.toNat_natCast, hx]
  refine wpAny_bind (wpAny_setField ho hd (by simp) (wpAny_pure ⟨x, rfl, wpAny_pure (hQ _ ?_ (Heap.SameBut.update ..))⟩))
  exact ⟨_, Heap.get?_update_self _ ho (Obj.isFreed_of_fields (Obj.data_mapFields hd _)), (Obj.cls_mapFields ..).trans hc, by
    rw [Obj.data_mapFields hd]; simp [rawInt]⟩
theorem nextOf_tup_end {it t : Addr} {i : Nat} {items} {Q : Value → Shared → Prop} (hh : A.handled = none)
    (hit : IsTupIter s.heap it t i) (ht : IsTup s.heap t items) (hx : items[i]? = none)
    (hE : ∀ h' e, Heap.ExtBut it s.heap h' → (∃ o, h'.get? e = some o ∧ o.cls = .type "StopIteration") → E (.ref e) { s with heap := h' }) :
    wpAny (model prog w) A (Builtin.SmallTypes.nextOf (.ref it)) Q E s := by
  obtain ⟨o, ho, hc, hd⟩ := id hit
  obtain ⟨ol, hol, _, nl, hdl⟩ := ht
  unfold Builtin.SmallTypes.nextOf
  refine wpAny_bind (wpAny_callSpecial?_slot (name := Str.ofString "__next__") hit.typeIs slot_tupleiter_next
    (wpAny_call_entry slot_tupleiter_next hit.typeIs entry_tupleiter_next ?_ (args_tupleiter_next _)))
  show wpAny _ _ (field (.ref it) 0 >>= _) _ _ s
  refine wpAny_bind (wpAny_field ho hd (x := .ref t) rfl ?_)
  show wpAny _ _ (if (Value.ref t == Value.none) = true then _ else _) _ _ s
  rw [if_neg (show ¬ ((Value.ref t == Value.none) = true) from Bool.false_ne_true)]
  show wpAny _ _ (field (.ref it) 1 >>= _) _ _ s
  refine wpAny_bind (wpAny_field ho hd (x := .int i 0) rfl ?_)
  show wpAny _ _ (seqItems? (.ref t) >>= _) _ _ s
  refine wpAny_bind (wpAny_seqItems hol hdl ?_)
  simp only [Int.toNat_natCast, hx]
  refine wpAny_bind (wpAny_rule (wpAny_bind (wpAny_setField ho hd (by simp) ?_)))
  show wpAny _ _ (newExc (.type "StopIteration") [] >>= _) _ _ _
  refine wpAny_bind ?_
  simp only [newExc, newTuple]
  refine wpAny_bind (wpAny_newObj_type ?_ (by size_fits))
  refine wpAny_bind (m := firstArgMember _ _) (wpAny_of_eq (a := Value.none) (by first | rfl | (simp only [firstArgMember]; rfl)) ?_)
  refine wpAny_newObj_type ?_ (by size_fits)
  simp only [raiseNew]
  refine wpAny_bind (wpAny_handled ?_)
  first | rw [show A.in1.handled = none from hh] | rw [hh]
  refine wpAny_bind (wpAny_pure (wpAny_throw ?_))
  exact hE _ _ (((Heap.SameBut.update ..).extBut.push _).push _) ⟨_, Heap.get?_push_size _ rfl, rfl⟩
theorem enum_tup_next {e it l : Addr} {i : Nat} {items : Array Value} {x old : Value} {Q : Value → Shared → Prop}
    (he : IsEnum s.heap e it i old) (hit : IsTupIter s.heap it l i) (hl : IsTup s.heap l items) (hx : items[i]? = some x) (hne : e ≠ it)
    (hQ : ∀ h', IsEnumOut h' e it ((i : Int) + 1) x s.heap.objs.size → IsTupIter h' it l (i + 1) →
      h'.get? s.heap.objs.size = some { cls := .type "tuple", data := .seq #[.int i s.toks, x] } → h'.objs.size = s.heap.objs.size + 1 →
      (∀ b o, b ≠ e → b ≠ it → s.heap.get? b = some o → h'.get? b = some o) → Q (.ref s.heap.objs.size) { s with heap := h', toks := s.toks + 1 }) :
    wpAny (model prog w) A (Builtin.«enumerate.__next__» ⟨[.ref e], []⟩) (fun fin s' => ∃ v, fin = .done (.ret v) ∧ Q v s') E s := by
  obtain ⟨hp, g, d, tk, os⟩ := s
  show wpAny _ _ (field (.ref e) 2 >>= _) _ _ _
  refine wpAny_bind (wpAny_field he rfl (x := .ref it) rfl ?_)
  refine wpAny_bind (nextOf_tup_item hit hl hx fun h₁ hit₁ hs₁ => ?_)
  replace hs₁ : Heap.SameBut it hp h₁ := hs₁
  have he₁ : IsEnum h₁ e it i old := (hs₁.2 e hne).trans he
  show wpAny _ _ (field (.ref e) 3 >>= _) _ _ ⟨h₁, g, d, tk, os⟩
  refine wpAny_bind (wpAny_field he₁ rfl (x := rawInt i) rfl ?_)
  show wpAny _ _ (field (.ref e) 4 >>= _) _ _ ⟨h₁, g, d, tk, os⟩
  refine wpAny_bind (wpAny_field he₁ rfl (x := .none) rfl ?_)
  show wpAny _ _ (mkInt i >>= _) _ _ ⟨h₁, g, d, tk, os⟩
  refine wpAny_bind (wpAny_mkInt ?_)
  show wpAny _ _ (setField (.ref e) 3 (rawInt ((i : Int) + 1)) >>= _) _ _ ⟨h₁, g, d, tk + 1, os⟩
  refine wpAny_bind (wpAny_setField_rec he₁ (by simp) fun h₂ he₂ hs₂ => ?_)
  replace hs₂ : Heap.SameBut e h₁ h₂ := hs₂
  replace he₂ : IsEnum h₂ e it ((i : Int) + 1) old := he₂
  show wpAny _ _ (setField (.ref e) 4 .none >>= _) _ _ ⟨h₂, g, d, tk + 1, os⟩
  refine wpAny_bind (wpAny_setField_rec he₂ (by simp) fun h₃ he₃ hs₃ => ?_)
  replace hs₃ : Heap.SameBut e h₂ h₃ := hs₃
  replace he₃ : IsEnum h₃ e it ((i : Int) + 1) old := he₃
  show wpAny _ _ (newTuple [.int i tk, x] >>= _) _ _ ⟨h₃, g, d, tk + 1, os⟩
  refine wpAny_bind (wpAny_newTuple ?_)
  have he₄ : IsEnum (h₃.push { cls := .type "tuple", data := .seq #[.int i tk, x] }) e it ((i : Int) + 1) old := Heap.get?_push_of_some _ he₃
  have hsz : h₃.objs.size = hp.objs.size := by rw [hs₃.1, hs₂.1, hs₁.1]
  have hel : e < hp.objs.size := Heap.lt_size he
  have ht₄ : (h₃.push { cls := .type "tuple", data := .seq #[.int i tk, x] }).get? hp.objs.size = some { cls := .type "tuple", data := .seq #[.int i tk, x] } := by rw [← hsz]; exact Heap.get?_push_size _ rfl
  have hz₄ : (h₃.push { cls := .type "tuple", data := .seq #[.int i tk, x] }).objs.size = hp.objs.size + 1 := by rw [Heap.size_push, hsz]
  have hk₄ : ∀ b o, b ≠ e → b ≠ it → hp.get? b = some o → (h₃.push { cls := .type "tuple", data := .seq #[.int i tk, x] }).get? b = some o := fun b o hbe hbi hb =>
    Heap.get?_push_of_some _ (hs₃.extBut b o hbe (hs₂.extBut b o hbe (hs₁.extBut b o hbi hb)))
  have hit₄ : IsTupIter (h₃.push { cls := .type "tuple", data := .seq #[.int i tk, x] }) it l (i + 1) := by
    obtain ⟨o, ho, r⟩ := (hit₁.extBut hs₂.extBut (Ne.symm hne)).extBut hs₃.extBut (Ne.symm hne); exact ⟨o, Heap.get?_push_of_some _ ho, r⟩
  generalize h₃.push { cls := .type "tuple", data := .seq #[.int i tk, x] } = h₄ at he₄ ht₄ hz₄ hk₄ hit₄ ⊢
  show wpAny _ _ (Builtin.SmallTypes.ownedTupleIsFree (.ref e) >>= _) _ _ ⟨h₄, g, d, tk + 1, os⟩
  rw [hsz]
  clear he₃ hs₃ he₂ hs₂ he₁ hs₁ hit₁ hsz
  refine wpAny_bind ?_
  unfold Builtin.SmallTypes.ownedTupleIsFree
  refine wpAny_bind (wpAny_field he₄ rfl (x := .none) rfl (wpAny_pure ?_))
  simp only [if_true]
  refine wpAny_bind (wpAny_rule ?_)
  refine wpAny_bind (wpAny_field he₄ rfl (x := old) rfl ?_)
  refine wpAny_bind (wpAny_setField_rec he₄ (by simp) fun h₅ he₅ hs₅ => ?_)
  replace hs₅ : Heap.SameBut e h₄ h₅ := hs₅
  replace he₅ : IsEnum h₅ e it ((i : Int) + 1) x := he₅
  show wpAny _ _ (Builtin.SmallTypes.ownedTupleHandOut (.ref e) (.ref hp.objs.size) >>= _) _ _ ⟨h₅, g, d, tk + 1, os⟩
  refine wpAny_bind ?_
  unfold Builtin.SmallTypes.ownedTupleHandOut
  refine wpAny_bind (wpAny_setField_rec he₅ (by simp) fun h₆ he₆ hs₆ => ?_)
  replace hs₆ : Heap.SameBut e h₅ h₆ := hs₆
  replace he₆ : IsEnumOut h₆ e it ((i : Int) + 1) x hp.objs.size := he₆
  refine wpAny_setField_rec he₆ (by simp) fun h₇ he₇ hs₇ => ?_
  replace hs₇ : Heap.SameBut e h₆ h₇ := hs₇
  replace he₇ : IsEnumOut h₇ e it ((i : Int) + 1) x hp.objs.size := he₇
  refine wpAny_bind (wpAny_letGo (wpAny_pure ⟨_, rfl, hQ h₇ he₇ ?_ ?_ ?_ ?_⟩))
  · exact ((hit₄.extBut hs₅.extBut (Ne.symm hne)).extBut hs₆.extBut (Ne.symm hne)).extBut hs₇.extBut (Ne.symm hne)
  · exact hs₇.extBut _ _ (Nat.ne_of_gt hel) (hs₆.extBut _ _ (Nat.ne_of_gt hel) (hs₅.extBut _ _ (Nat.ne_of_gt hel) ht₄))
  · rw [hs₇.1, hs₆.1, hs₅.1, hz₄]
  · exact fun b o hbe hbi hb => hs₇.extBut b o hbe (hs₆.extBut b o hbe (hs₅.extBut b o hbe (hk₄ b o hbe hbi hb)))
theorem enum_tup_walks (hh : A.handled = none) (e it l : Addr) (hei : e ≠ it) (hle : l ≠ e) (hli : l ≠ it) (items : Array Value) :
    WalksU prog w A e [e, it, l] [e, it] items.size
      (fun i vals => ∃ t x, items[i]? = some x ∧ vals = #[.int i t, x])
      (fun i h => (∃ old, IsEnum h e it i old) ∧ IsTupIter h it l i ∧ IsTup h l items)
      (fun i T h => (∃ x, IsEnumOut h e it ((i : Int) + 1) x T) ∧ IsTupIter h it l (i + 1) ∧ IsTup h l items ∧ T ≠ e ∧ T ≠ it) where
  sub := fun b hb => by
    rcases List.mem_cons.mp hb with rfl | hb
    · exact List.mem_cons_self ..
    · exact List.mem_cons_of_mem _ (by rcases List.mem_cons.mp hb with rfl | hb; exact List.mem_cons_self ..; cases hb)
  frame := fun i h h' hst hk => by
    obtain ⟨⟨old, he⟩, ⟨o1, q1, r1⟩, ⟨o2, q2, r2⟩⟩ := hst
    exact ⟨⟨old, hk e (by simp) _ he⟩, ⟨o1, hk it (by simp) _ q1, r1⟩, ⟨o2, hk l (by simp) _ q2, r2⟩⟩
  item := fun i s Q E hi hst hQ => by
    obtain ⟨⟨old, he⟩, hit, hl⟩ := hst
    have hx : items[i]? = some items[i] := Array.getElem?_eq_getElem hi
    have hT : s.TypeIs (.ref e) "enumerate" := ⟨_, he, rfl⟩
    have helt : e < s.heap.objs.size := Heap.lt_size he
    have hilt : it < s.heap.objs.size := by obtain ⟨_, x, _⟩ := hit; exact Heap.lt_size x
    unfold pyNext
    refine wpAny_bind (wpAny_attempt (wpAny_callSpecial?_slot (name := Str.ofString "__next__") hT F.slot_enumerate_next
      (wpAny_call_entry F.slot_enumerate_next hT F.entry_enumerate_next
        (enum_tup_next he hit hl hx hei fun h' ho hit' hT hsz hk => wpAny_pure ?_) (F.args_enumerate_next_1 _))))
    exact hQ s.heap.objs.size #[.int i s.toks, items[i]] h' (s.toks + 1) ⟨_, _, hx, rfl⟩ ⟨_, hT, rfl, _, rfl⟩
      ⟨⟨_, ho⟩, hit', (let ⟨o2, q2, r2⟩ := hl; ⟨o2, hk l o2 hle hli q2, r2⟩), Nat.ne_of_gt helt, Nat.ne_of_gt hilt⟩
      fun b o hb x => hk b o (fun e' => hb (by simp [e'])) (fun e' => hb (by simp [e'])) x
  go := fun elts k pos i T s Q E hm hQ => by
    obtain ⟨⟨x, ho⟩, hit, hl, hTe, hTi⟩ := hm
    refine wpAny_letOwnedTupleGo_enum ho fun h' he' hs' => hQ h' ⟨⟨x, by simpa using he'⟩, hit.extBut hs'.extBut (Ne.symm hei), hl.extBut hs'.extBut hle⟩ fun b o hb y => ?_
    exact (hs'.2 b fun e' => hb (by simp [e'])).trans y
  apart := fun i T h hm hT => by
    obtain ⟨_, _, _, hTe, hTi⟩ := hm
    rcases List.mem_cons.mp hT with rfl | hT
    · exact hTe rfl
    · rcases List.mem_cons.mp hT with rfl | hT
      · exact hTi rfl
      · cases hT
  done := fun s Q E hst hQ => by
    obtain ⟨⟨old, he⟩, hit, hl⟩ := hst
    have hT : s.TypeIs (.ref e) "enumerate" := ⟨_, he, rfl⟩
    unfold pyNext
    refine wpAny_bind (wpAny_attempt (wpAny_callSpecial?_slot (name := Str.ofString "__next__") hT F.slot_enumerate_next
      (wpAny_call_entry F.slot_enumerate_next hT F.entry_enumerate_next ?_ (F.args_enumerate_next_1 _))))
    show wpAny _ _ (field (.ref e) 2 >>= _) _ _ _
    refine wpAny_bind (wpAny_field he rfl (x := .ref it) rfl ?_)
    refine wpAny_bind (nextOf_tup_end hh hit hl (Array.getElem?_eq_none (Nat.le_refl _)) fun h' x he' hx' => ?_)
    obtain ⟨o, ho, hc⟩ := hx'
    refine wpAny_bind (wpAny_isInstance (T := "StopIteration") (b := true) ⟨o, ho, hc⟩ isSubtype_stop ?_)
    exact wpAny_pure (hQ _ s.toks fun b o hb y => he' b o (fun e' => hb (by simp [e'])) y)
  self := fun i s Q E hst hQ => by
    obtain ⟨⟨old, he⟩, _, _⟩ := hst
    exact wpAny_pyIter_enum he hQ
end
end
/- E2 -/
section
variable {prog : Program} {w : World} {p : Program} {loose : List Str} {mean : ExcName → Option Value} {mg mb : Str → Option Value}
local macro_rules | `(tactic| k_room) => `(tactic| ktr_room)
local macro_rules | `(tactic| ktr_room) => `(tactic| (simp only [depth_under_make, depth_under_kw, depth_in1, depth_deeper] at *; omega))
local macro_rules | `(tactic| k_units) => `(tactic| ktr_units)
local macro_rules | `(tactic| k_mem) => `(tactic| first | assumption | (refine List.mem_cons_of_mem _ ?_; k_mem))

section
theorem valueAt_stored (kvs : List (Str × Value)) (k j : Str) (v : Value) : valueAt (stored kvs k v) j = if j = k then some v else valueAt kvs j := by
  unfold valueAt stored
  by_cases ha : (kvs.any fun kv => kv.1 = k) = true
  · rw [if_pos ha]
    induction kvs with
    | nil => simp at ha
    | cons p r ih =>
      by_cases hp : p.1 = k
      · by_cases hj : j = k
        · subst hj; simp [hp]
        · rw [if_neg hj]
          have e : ∀ l : List (Str × Value), (List.find? (fun kv => decide (kv.1 = j)) (l.map fun kv => if kv.1 = k then (kv.1, v) else kv)).map (·.2) = (List.find? (fun kv => decide (kv.1 = j)) l).map (·.2) := by
            intro l
            induction l with
            | nil => rfl
            | cons q l ihl =>
              rw [List.map_cons, List.find?_cons, List.find?_cons]
              by_cases hq : q.1 = k
              · rw [if_pos hq]
                have : decide (q.1 = j) = false := decide_eq_false (by rw [hq]; exact Ne.symm hj)
                simp only [this]; exact ihl
              · rw [if_neg hq]
                cases decide (q.1 = j) with
                | true => rfl
                | false => exact ihl
          exact e _
      · have ha' : (r.any fun kv => decide (kv.1 = k)) = true := by simpa [hp] using ha
        have ih' := ih ha'
        by_cases hj : p.1 = j
        · have hjk : ¬ j = k := by rw [← hj]; exact hp
          simp [hp, hj, hjk]
        · simp only [List.map_cons, if_neg hp, List.find?_cons, decide_eq_false hj]
          exact ih'
  · rw [if_neg ha]
    rw [List.find?_append]
    by_cases hj : j = k
    · subst hj
      have : List.find? (fun kv => decide (kv.1 = j)) kvs = none := by
        rw [List.find?_eq_none]
        intro x hx hd
        exact ha (List.any_eq_true.mpr ⟨x, hx, hd⟩)
      rw [this, if_pos rfl]; simp
    · rw [if_neg hj]
      have : List.find? (fun kv : Str × Value => decide (kv.1 = j)) [(k, v)] = none := by simp [Ne.symm hj]
      rw [this]
      simp
variable {A : Around} {E : Value → Shared → Prop} {s : Shared} {h₀ : Heap} {L : Addr} {m : Str → Option Value} {env : Env}
theorem dcp_loop {kx vx target iter : PySem.Expr} {scope : Scope} {pos : Pos} {it : Value} {D : Addr} {env : Env} {R : Result → Shared → Prop} (I : Nat → Shared → Prop)
    (turn : ∀ n s, I n s → wpAny (model prog w) A (pyNext it) (fun r s₁ => match r with
      | none => R (.ok .next) s₁
      | some v => wpAny (model prog w) A (letOwnedTupleGo target it v) (fun _ s₀ => wpAny (model prog w) A (assign target env v) (fun _ s₂ =>
          wpAny (model prog w) A (eval kx env) (fun kv s₄ => wpAny (model prog w) A (eval vx env) (fun vv s₅ =>
            wpAny (model prog w) A (dictSet D kv vv) (fun _ s₆ => ∃ m, m < n ∧ I m s₆) (notedBy (model prog w) A env fun e s' => R (.error e) s') s₅) (notedBy (model prog w) A env fun e s' => R (.error e) s') s₄) (notedBy (model prog w) A env fun e s' => R (.error e) s') s₂)
          (notedBy (model prog w) A env fun e s' => R (.error e) s') s₀) (notedBy (model prog w) A env fun e s' => R (.error e) s') s₁) (notedBy (model prog w) A env fun e s' => R (.error e) s') s)
    (n : Nat) (h : I n s) : codeAny (model prog w) A (.compLoop (.DictComp kx vx [⟨target, iter, [], 0⟩] scope pos) 0 it (.ref D) env) R s := by
  refine codeAny_loop rfl I (fun n s hI => ?_) n h
  show wpAny _ A ((compTurn (.DictComp kx vx [⟨target, iter, [], 0⟩] scope pos) 0 it (.ref D) env).onRaise (fun x => do noteFrame x env; theTreesLotGoes x)) _ _ s
  refine wpAny_noted ?_
  rw [compTurn_dict]
  refine wpAny_bind (wpAny_standAt (wpAny_bind (wpAny_mono (turn n s hI) (fun r s₁ h₁ => ?_) fun _ _ h' => h')))
  cases r with
  | none => exact wpAny_pure h₁
  | some v =>
    refine wpAny_bind (wpAny_mono h₁ (fun _ s₀ h₀' => ?_) fun _ _ h' => h')
    refine wpAny_bind (wpAny_mono h₀' (fun _ s₂ h₂ => ?_) fun _ _ h' => h')
    refine wpAny_bind (wpAny_tests_nil ?_)
    exact wpAny_bind (wpAny_bind (wpAny_mono h₂ (fun kv s₄ h₄ => wpAny_bind (wpAny_holding (wpAny_mono h₄ (fun vv s₅ h₅ => wpAny_bind (wpAny_standAt (wpAny_holding (wpAny_mono h₅ (fun _ s₆ h₆ => wpAny_pure ⟨rfl, h₆⟩) fun _ _ h' => h')))) fun _ _ h' => h'))) fun _ _ h' => h'))
/-- a table of a class's fields: each item is a tuple whose second place is a name -/
def Fields (h : Heap) (t : Addr) (keys : List Str) : Prop :=
  ∃ items : Array Value, IsTup h t items ∧ items.size = keys.length ∧ ∀ i v, items[i]? = some v → ∃ a x tk, v = .ref a ∧ IsTup h a #[x, .str (keys.getD i Str.empty) tk]
def DSrc (prog : Program) (w : World) (A : Around) (h₀ : Heap) (L : Addr) (m : Str → Option Value) (keys : List Str) (Q : Value → Shared → Prop) (xv : Value) (s₁ : Shared) : Prop :=
  ∃ e it t news, xv = .ref e ∧ A.handled = none ∧ Fr h₀ L s₁.heap m ∧ News h₀ L s₁.heap news ∧ IsEnum s₁.heap e it 0 .none ∧ IsTupIter s₁.heap it t 0 ∧ Fields h₀ t keys ∧ keys.length ≤ 100 ∧
    e ≠ it ∧ h₀.get? e = none ∧ h₀.get? it = none ∧ L ≠ e ∧ L ≠ it ∧ (∀ p ∈ news, p.1 ≠ e ∧ p.1 ≠ it) ∧
    ∀ D o h' tk kvs, Fr h₀ L h' m → News h₀ L h' ((D, o) :: news) → o.IsDictOf (PySem.strKind prog w) kvs →
      (∀ i, i < keys.length → (∀ j, j < keys.length → keys.getD j Str.empty = keys.getD i Str.empty → j = i) → ∃ tk, valueAt kvs (keys.getD i Str.empty) = some (.int (i : Nat) tk)) → Q (.ref D) { s₁ with heap := h', toks := tk }
theorem dcp_DictComp {iter : PySem.Expr} {a b : Str} {pa pb p1 p2 p3 p4 tp : Pos} {kk kc : Nat} {scope : Scope} {cl : List (Str × Addr)} {pos : Pos} {Q : Value → Shared → Prop} (keys : List Str) (_F₀ : Fr h₀ L s.heap m)
    (hclos : closureFor scope env = pure cl) (hcell : ∀ y ∈ scope.names, y.2 ≠ .cell) (hkind : scope.kind = .function)
    (hnames : ∀ y ∈ scope.names, y.2 = .local → scope.names.lookup y.1 = some .local) (hxa : scope.names.lookup a = some .local) (hxb : scope.names.lookup b = some .local) (hab : ¬ a = b) (hda : (a == ("__debug__" : Str)) = false) (hdb : (b == ("__debug__" : Str)) = false)
    (h : wpAny (model prog w) A (eval iter env) (DSrc prog w A h₀ L m keys Q) E s)
    (hs : ∀ x, foldedSetIterable iter env x = pure x := by intro _; rfl) :
    wpAny (model prog w) A (eval (.DictComp (.Subscript (.Name b p1) (.Constant (.int 1) kc p2) p3) (.Name a p4) [⟨.Tuple [.Name a pa, .Name b pb] kk tp, iter, [], 0⟩] scope pos) env) Q E s := by
  rw [arm_eval_DictComp]
  refine wpAny_comprehension_free (use := none) rfl hs hclos hkind hnames (wpAny_mono h (fun xv s₁ h₁ => ?_) fun _ _ e => e)
  obtain ⟨e, it, t, news, rfl, hh, F, N, he, hit, ⟨items, ht, hz, hI⟩, hk, hei, he0, hi0, hLe, hLi, off, hQ⟩ := h₁
  have hte : t ≠ e := fun q => by subst q; obtain ⟨o, ho, _⟩ := ht; rw [he0] at ho; cases ho
  have hti : t ≠ it := fun q => by subst q; obtain ⟨o, ho, _⟩ := ht; rw [hi0] at ho; cases ho
  have W := enum_tup_walks (prog := prog) (w := w) hh e it t hei hte hti items
  refine wpAny_pyIter_enum he ?_
  refine wpAny_newObj_type (wpAny_newFunctionEnv hcell (by intro y hy; simp at hy) (fun h₁ hns₁ hsb₁ => ?_) hkind)
  dsimp only at hns₁ hsb₁ ⊢
  have hnew : (s₁.heap.push { cls := .type "dict", dict := none, data := .dict #[] }).DictOf (PySem.strKind prog w) s₁.heap.objs.size [] := Heap.DictOf.new s₁.heap
  generalize hH2 : s₁.heap.push { cls := .type "dict", dict := none, data := .dict #[] } = H2 at hns₁ hsb₁ hnew ⊢
  have hC : H2.objs.size = s₁.heap.objs.size + 1 := by rw [← hH2, Heap.size_push]
  have hDC : s₁.heap.objs.size ≠ H2.objs.size := by rw [hC]; exact Nat.ne_of_lt (Nat.lt_succ_self _)
  have below : ∀ b, b < s₁.heap.objs.size → b ≠ H2.objs.size ∧ b ≠ s₁.heap.objs.size := fun b hb => ⟨by rw [hC]; exact Nat.ne_of_lt (Nat.lt_succ_of_lt hb), Nat.ne_of_lt hb⟩
  have hel : e < s₁.heap.objs.size := Heap.lt_size he
  have hil : it < s₁.heap.objs.size := by obtain ⟨_, q, _⟩ := hit; exact Heap.lt_size q
  have old : ∀ b o, s₁.heap.get? b = some o → h₁.get? b = some o := fun b o q => hsb₁.extBut b o (below b (Heap.lt_size q)).1 (Heap.get?_push_of_some _ (hH2 ▸ Heap.get?_push_of_some _ q))
  have hacc : h₁.DictOf (PySem.strKind prog w) s₁.heap.objs.size [] := hnew.at fun o q => hsb₁.extBut _ _ hDC (Heap.get?_push_of_some _ q)
  have hst₁ : (∃ old, IsEnum h₁ e it (0 : Nat) old) ∧ IsTupIter h₁ it t 0 ∧ IsTup h₁ t items :=
    ⟨⟨_, old _ _ he⟩, (let ⟨o, q, r⟩ := hit; ⟨o, old _ _ q, r⟩), (let ⟨o, q, r⟩ := ht; ⟨o, old _ _ (F.keep _ _ q), r⟩)⟩
  have fresh : ∀ a, s₁.heap.objs.size ≤ a → s₁.heap.get? a = none := fun a ha => by
    cases q : s₁.heap.get? a with
    | none => rfl
    | some o' => exact absurd (Heap.lt_size q) (Nat.not_lt.mpr ha)
  have hD₀ : h₀.get? s₁.heap.objs.size = none := by
    cases q : h₀.get? s₁.heap.objs.size with
    | none => rfl
    | some o' => have := F.keep _ _ q; rw [fresh _ (Nat.le_refl _)] at this; cases this
  have hC₀ : h₀.get? H2.objs.size = none := by
    cases q : h₀.get? H2.objs.size with
    | none => rfl
    | some o' => have := F.keep _ _ q; rw [fresh _ (by rw [hC]; exact Nat.le_succ _)] at this; cases this
  have hLlt : L < s₁.heap.objs.size := F.ns.lt
  have loop : ∀ s₃ : Shared, s₃ = { s₁ with heap := h₁, toks := s₁.toks + ([] : List (Str × Value)).length } →
      codeAny (model prog w) A (.compLoop (.DictComp (.Subscript (.Name b p1) (.Constant (.int 1) kc p2) p3) (.Name a p4) [⟨.Tuple [.Name a pa, .Name b pb] kk tp, iter, [], 0⟩] scope pos) 0 (.ref e) (.ref s₁.heap.objs.size) (compEnvC scope cl H2.objs.size env))
        (compPost (model prog w) A E none Q (.ref s₁.heap.objs.size) H2.objs.size) s₃ := by
    rintro s₃ rfl
    refine dcp_loop
      (fun k s' => ∃ h' tk i m' kvs, s' = { s₁ with heap := h', toks := tk } ∧ i ≤ items.size ∧ k = items.size + 1 - i ∧ ((∃ old, IsEnum h' e it (i : Nat) old) ∧ IsTupIter h' it t i ∧ IsTup h' t items) ∧ h'.DictOf (PySem.strKind prog w) s₁.heap.objs.size kvs ∧ h'.Ns H2.objs.size m' ∧
        kvs.length ≤ i ∧ (∀ j, j < i → (∀ j', j' < keys.length → keys.getD j' Str.empty = keys.getD j Str.empty → j' = j) → ∃ tk, valueAt kvs (keys.getD j Str.empty) = some (.int (j : Nat) tk)) ∧
        ∀ b o, b ≠ e → b ≠ it → s₁.heap.get? b = some o → h'.get? b = some o) ?_ (items.size + 1)
      ⟨h₁, _, 0, _, [], rfl, Nat.zero_le _, rfl, hst₁, hacc, hns₁, Nat.le_refl _, fun j hj => absurd hj (Nat.not_lt_zero _), fun b o _ _ q => old b o q⟩
    rintro k s' ⟨h', tk, i, m', kvs, rfl, hi, rfl, hst', hacc', hn', hlen, hval, hkeep⟩
    have hCe : H2.objs.size ∉ [e, it] := fun hm => by
      rcases List.mem_cons.mp hm with q | hm
      · exact (below e hel).1 q.symm
      · exact (below it hil).1 (List.mem_singleton.mp hm).symm
    have hDe : s₁.heap.objs.size ∉ [e, it] := fun hm => by
      rcases List.mem_cons.mp hm with q | hm
      · exact (below e hel).2 q.symm
      · exact (below it hil).2 (List.mem_singleton.mp hm).symm
    have nin : ∀ b, b ≠ e → b ≠ it → b ∉ [e, it] := fun b h1 h2 hm => by
      rcases List.mem_cons.mp hm with q | hm
      · exact h1 q
      · exact h2 (List.mem_singleton.mp hm)
    by_cases hlt : i < items.size
    · refine W.item i _ _ _ hlt hst' fun T vals h₂ tk₂ hP hT hM hk₂ => ?_
      refine W.go _ _ _ i T _ _ _ hM fun h₃ hst₃ hk₃ => ?_
      obtain ⟨ti, v, hv, rfl⟩ := hP
      have hT₃ : h₃.IsTuple T #[.int i ti, v] := hT.at fun o q => hk₃ T o (W.apart i T _ hM) q
      have up₃ : ∀ b o, b ≠ e → b ≠ it → h'.get? b = some o → h₃.get? b = some o := fun b o h1 h2 q => hk₃ b o (nin b h1 h2) (hk₂ b o (nin b h1 h2) q)
      refine kcp_assign (env := compEnvC scope cl H2.objs.size env) hh hT₃ (lookup_relabel_local hxa) (lookup_relabel_local hxb) (by simp [compEnvC, relabel, hkind]) (hn'.at' fun o q => hk₃ _ o hCe (hk₂ _ o hCe q)) fun h₄ tk₄ hn₄ hs₄ => ?_
      obtain ⟨fa, fx, ftk, rfl, hfa⟩ := hI i v hv
      have up₄ : ∀ b o, b ≠ e → b ≠ it → b ≠ H2.objs.size → h'.get? b = some o → h₄.get? b = some o := fun b o h1 h2 h3 q => hs₄ b o h3 (up₃ b o h1 h2 q)
      have hfa₄ : IsTup h₄ fa #[fx, .str (keys.getD i Str.empty) ftk] := by
        obtain ⟨o, q, r⟩ := hfa
        have q1 := F.keep _ _ q
        refine ⟨o, up₄ _ _ (fun z => by subst z; rw [he0] at q; cases q) (fun z => by subst z; rw [hi0] at q; cases q) (below _ (Heap.lt_size q1)).1 (hkeep _ _ (fun z => by subst z; rw [he0] at q; cases q) (fun z => by subst z; rw [hi0] at q; cases q) q1), r⟩
      have hn₄' : h₄.Ns (compEnvC scope cl H2.objs.size env).locals _ := hn₄
      refine Subscript_ (ldVarK hn₄' (v := .ref fa) (by simp) ?_ (by simp [compEnvC, relabel, hkind]) (lookup_relabel_local hxb) hdb)
      refine wpAny_Constant_int ?_
      refine item_tupleT (l := [fx, .str (keys.getD i Str.empty) ftk]) hfa₄ (by decide) (by decide) (j := 1) rfl rfl ?_
      refine ldVarK hn₄' (v := .int i ti) (by simp [hab]) ?_ (by simp [compEnvC, relabel, hkind]) (lookup_relabel_local hxa) hda
      have hD₄ : h₄.DictOf (PySem.strKind prog w) s₁.heap.objs.size kvs := hacc'.at fun o q => up₄ _ o (below e hel).2.symm (below it hil).2.symm hDC q
      refine wpAny_dictSet_pairs (hsz := by rw [PySem.sizeLine_eq]; omega) (strKind_is _ _ _ _) hD₄ fun h₅ hd₅ hs₅ => ?_
      have up₅ : ∀ b o, b ≠ s₁.heap.objs.size → h₄.get? b = some o → h₅.get? b = some o := fun b o h1 q => hs₅.extBut b o h1 q
      obtain ⟨⟨oe, hoe⟩, ⟨oi, qi, ri⟩, ⟨ot, qt, rt⟩⟩ := hst₃
      have tlt := (below t (Heap.lt_size (F.keep t _ (Classical.choose_spec ht).1)))
      refine ⟨items.size + 1 - (i + 1), by omega, h₅, _, i + 1, _, _, rfl, hlt, rfl, ⟨⟨oe, up₅ _ _ (below e hel).2 (hs₄ _ _ (below e hel).1 hoe)⟩, ⟨oi, up₅ _ _ (below it hil).2 (hs₄ _ _ (below it hil).1 qi), ri⟩, ⟨ot, up₅ _ _ tlt.2 (hs₄ _ _ tlt.1 qt), rt⟩⟩, hd₅,
        hn₄.sameBut hs₅ (Ne.symm hDC), ?_, ?_, fun b o h1 h2 q => up₅ b o (below b (Heap.lt_size q)).2 (up₄ b o h1 h2 (below b (Heap.lt_size q)).1 (hkeep b o h1 h2 q))⟩
      · have := stored_length_le kvs (keys.getD i Str.empty) (.int i ti); omega
      · intro j hj hu
        rw [valueAt_stored]
        by_cases hji : keys.getD j Str.empty = keys.getD i Str.empty
        · have : i = j := hu i (by omega) hji.symm
          subst this
          exact ⟨ti, by rw [if_pos rfl]⟩
        · rw [if_neg hji]
          refine hval j ?_ hu
          rcases Nat.lt_or_ge j i with h1 | h1
          · exact h1
          · exfalso; have : j = i := by omega
            subst this; exact hji rfl
    · have hin : i = items.size := by omega
      subst hin
      refine W.done _ _ _ hst' fun h₂ tk₂ hk₂ => ?_
      have up₂ : ∀ b o, b ≠ e → b ≠ it → h'.get? b = some o → h₂.get? b = some o := fun b o h1 h2 q => hk₂ b o (nin b h1 h2) q
      refine ⟨m', hn'.at' fun o q => hk₂ _ o hCe q, fun h'' hs'' => ?_⟩
      have up : ∀ b o, b ≠ e → b ≠ it → s₁.heap.get? b = some o → h''.get? b = some o := fun b o h1 h2 q => hs''.extBut b o (below b (Heap.lt_size q)).1 (up₂ b o h1 h2 (hkeep b o h1 h2 q))
      have hDD : h''.DictOf (PySem.strKind prog w) s₁.heap.objs.size kvs := hacc'.at fun o q => hs''.extBut _ o hDC (up₂ _ o (below e hel).2.symm (below it hil).2.symm q)
      obtain ⟨od, hod, hdd⟩ := Heap.dictOf_iff.mp hDD
      refine hQ s₁.heap.objs.size od h'' tk₂ kvs ⟨F.ns.at' fun o q => up _ o hLe hLi q, fun b o q => ?_, F.above⟩ (fun p hp => ?_) hdd (fun i hi' hu => hval i (by omega) hu)
      · exact up b o (fun z => by rw [z, he0] at q; cases q) (fun z => by rw [z, hi0] at q; cases q) (F.keep b o q)
      · rcases List.mem_cons.mp hp with rfl | hp
        · exact ⟨hod, Ne.symm (below L hLlt).2, hD₀⟩
        · exact ⟨up _ _ (off p hp).1 (off p hp).2 (N p hp).1, (N p hp).2⟩
  exact codeAny_compStart_dict (loop _ rfl) (W.self 0 _ _ _ hst₁ (loop _ rfl))
end
def KeysMark (_keys : List Str) : Prop := True
section
variable {A : Around} {E : Value → Shared → Prop} {s : Shared} {h₀ : Heap} {L : Addr} {m : Str → Option Value} {env : Env} {news : List (Addr × Obj)}
theorem dsrc_call {t : Addr} {keys : List Str} {Q : Value → Shared → Prop} (hh : A.handled = none) (F : Fr h₀ L s.heap m) (N : News h₀ L s.heap news) (hF : Fields h₀ t keys) (hk : keys.length ≤ 100)
    (h : ∀ D o h' tk kvs, Fr h₀ L h' m → News h₀ L h' ((D, o) :: news) → o.IsDictOf (PySem.strKind prog w) kvs →
      (∀ i, i < keys.length → (∀ j, j < keys.length → keys.getD j Str.empty = keys.getD i Str.empty → j = i) → ∃ tk, valueAt kvs (keys.getD i Str.empty) = some (.int (i : Nat) tk)) → Q (.ref D) { s with heap := h', toks := tk }) :
    wpAny (model prog w) A (call (.type "enumerate") [.ref t]) (DSrc prog w A h₀ L m keys Q) E s := by
  have hL : IsTup s.heap t (Classical.choose hF) := Fr.tup F (Classical.choose_spec hF).1
  have fresh : ∀ a, s.heap.objs.size ≤ a → h₀.get? a = none := fun a ha => by
    cases q : h₀.get? a with
    | none => rfl
    | some o' => exact absurd (Heap.lt_size (F.keep _ _ q)) (Nat.not_lt.mpr ha)
  refine enum_call_tup hL fun h' he hit hz hkp => ?_
  have hLlt : L < s.heap.objs.size := F.ns.lt
  refine ⟨_, _, _, news, rfl, hh, F.keeps hkp, N.grown hkp, he, hit, hF, hk, Nat.succ_ne_self _, fresh _ (Nat.le_succ _), fresh _ (Nat.le_refl _), Nat.ne_of_lt (Nat.lt_succ_of_lt hLlt), Nat.ne_of_lt hLlt, fun p hp => ?_, h⟩
  have := Heap.lt_size (N p hp).1
  exact ⟨Nat.ne_of_lt (Nat.lt_succ_of_lt this), Nat.ne_of_lt this⟩
end
def keysR : List Str := [Str.ofString "num_in_seq", Str.ofString "sen_num", Str.ofString "start_type", Str.ofString "active_route_id"]
def keysW : List Str := [Str.ofString "lat", Str.ofString "lat_dir", Str.ofString "lon", Str.ofString "lon_dir", Str.ofString "waypoint_id"]
theorem fields_rte {h : Heap} (X : (Mine.hd.heap_39 w.params).In h) : Fields h 258 keysR := by
  refine ⟨#[.ref 254, .ref 255, .ref 256, .ref 257], tupK X (by k_is), rfl, ?_⟩
  intro i v hv
  match i, hv with
  | 0, hv => cases hv; exact ⟨254, _, _, rfl, tupK X (by k_is)⟩
  | 1, hv => cases hv; exact ⟨255, _, _, rfl, tupK X (by k_is)⟩
  | 2, hv => cases hv; exact ⟨256, _, _, rfl, tupK X (by k_is)⟩
  | 3, hv => cases hv; exact ⟨257, _, _, rfl, tupK X (by k_is)⟩
  | k + 4, hv => simp at hv
theorem fields_wpl {h : Heap} (X : (Mine.hd.heap_39 w.params).In h) : Fields h 284 keysW := by
  refine ⟨#[.ref 279, .ref 280, .ref 281, .ref 282, .ref 283], tupK X (by k_is), rfl, ?_⟩
  intro i v hv
  match i, hv with
  | 0, hv => cases hv; exact ⟨279, _, _, rfl, tupK X (by k_is)⟩
  | 1, hv => cases hv; exact ⟨280, _, _, rfl, tupK X (by k_is)⟩
  | 2, hv => cases hv; exact ⟨281, _, _, rfl, tupK X (by k_is)⟩
  | 3, hv => cases hv; exact ⟨282, _, _, rfl, tupK X (by k_is)⟩
  | 4, hv => cases hv; exact ⟨283, _, _, rfl, tupK X (by k_is)⟩
  | k + 5, hv => simp at hv
theorem dget_item {A : Around} {E : Value → Shared → Prop} {s : Shared} {h₀ : Heap} {L d : Addr} {news : List (Addr × Obj)} {o : Obj} {kvs : List (Str × Value)} {k : Str} {t : Tok} {v : Value} {Q : Value → Shared → Prop}
    (N : News h₀ L s.heap news) (hp : (d, o) ∈ news) (hd : o.IsDictOf (PySem.strKind prog w) kvs) (hl : valueAt kvs k = some v) (h : Q v { s with toks := s.toks + 1 }) :
    wpAny (model prog w) A (getItem (.ref d) (.str k t)) Q E s := wpAny_getItem_of (strKind_is _ _ _ _) (kda_dict N hp hd).mapOf hl h
theorem fields_item {A : Around} {E : Value → Shared → Prop} {s : Shared} {h₀ : Heap} {L t : Addr} {m : Str → Option Value} {keys : List Str} {i : Nat} {u : Tok} {value slice : PySem.Expr} {Q : Value → Shared → Prop}
    (F : Fr h₀ L s.heap m) (hF : Fields h₀ t keys) (hi : i < keys.length) (hk : keys.length ≤ 100) (h : ∀ a x tk, IsTup h₀ a #[x, .str (keys.getD i Str.empty) tk] → Q (.ref a) s)
    (hs : subscripted slice false (.ref t) (.int (i : Nat) u) = operate [.ref t, .int (i : Nat) u] (getItem (.ref t) (.int (i : Nat) u)) := by with_unfolding_all rfl) :
    wpAny (model prog w) A (subscriptTail value slice (.ref t) (.int (i : Nat) u)) Q E s := by
  obtain ⟨items, ht, hz, hI⟩ := hF
  have hlt : i < items.size := by omega
  have hx : items[i]? = some items[i] := Array.getElem?_eq_getElem hlt
  obtain ⟨a, x, tk, e, hT⟩ := hI i _ hx
  have ht' : IsTup s.heap t items.toList.toArray := by rw [Array.toArray_toList]; exact Fr.tup F ht
  refine item_tupleT (l := items.toList) (j := i) ht' (by omega) (by omega) ?_ (x := .ref a) ?_ (h a x tk hT) hs
  · unfold seqIndex?
    simp
    omega
  · rw [← e]; simp
theorem tup2_len {A : Around} {E : Value → Shared → Prop} {s : Shared} {h₀ : Heap} {L a : Addr} {m : Str → Option Value} {x y : Value} {Q : Value → Shared → Prop}
    (F : Fr h₀ L s.heap m) (hT : IsTup h₀ a #[x, y]) (h : ∀ t tk, Q (.int 2 t) { s with toks := tk }) : wpAny (model prog w) A (call (.builtin "len") [.ref a]) Q E s :=
  len_tuple (Fr.tup F hT) (show ((2 : Nat) : Int) < 2 ^ 63 by decide) (h _ _)
end
/- M1 -/
section
variable {prog : Program} {w : World} {p : Program} {loose : List Str} {mean : ExcName → Option Value} {mg mb : Str → Option Value}
local macro_rules | `(tactic| k_room) => `(tactic| ktr_room)
local macro_rules | `(tactic| ktr_room) => `(tactic| (simp only [depth_under_make, depth_under_kw, depth_in1, depth_deeper] at *; omega))
local macro_rules | `(tactic| k_units) => `(tactic| ktr_units)
local macro_rules | `(tactic| k_mem) => `(tactic| first | assumption | (refine List.mem_cons_of_mem _ ?_; k_mem))

section
open PySem.Builtin AutoSeq1
theorem map_owner : Manifest.owners.lookup (String.ofList ['p', 'a', 'm'].reverse) = some Manifest.sig_map := by kernel_rfl
theorem map_sub : isSubtype (.type "map") (.type "map") = pure true := by rw [isSubtype_type]; kernel_rfl
theorem map_init : Slot "map" "__init__" "object.__init__" :=
  .of (owner := "object") (n := "__init__") (by rw [typeLookup_type, builtinLookup_eq_fast]; kernel_rfl) (by decide +kernel) (by decide +kernel) (by decide +kernel)
    (by first | exact .inl (by decide +kernel) | exact .inr (by decide +kernel)) (by rw [isSubtype_type]; kernel_rfl)
theorem map_iter : Slot "map" "__iter__" "map.__iter__" :=
  .of (owner := "map") (n := "__iter__") (by rw [typeLookup_type, builtinLookup_eq_fast]; kernel_rfl) (by decide +kernel) (by decide +kernel) (by decide +kernel)
    (by first | exact .inl (by decide +kernel) | exact .inr (by decide +kernel)) (by rw [isSubtype_type]; kernel_rfl)
theorem map_next : Slot "map" "__next__" "map.__next__" :=
  .of (owner := "map") (n := "__next__") (by rw [typeLookup_type, builtinLookup_eq_fast]; kernel_rfl) (by decide +kernel) (by decide +kernel) (by decide +kernel)
    (by first | exact .inl (by decide +kernel) | exact .inr (by decide +kernel)) (by rw [isSubtype_type]; kernel_rfl)
theorem map_iter_args (a : Value) : argsOk "map.__iter__" ⟨[a], []⟩ := by
  unfold argsOk; rw [signature?_of (id := "map.__iter__") (n := ['_', '_', 'r', 'e', 't', 'i', '_', '_']) (o := ['p', 'a', 'm']) (by kernel_rfl) map_owner]; kernel_rfl
theorem map_next_args (a : Value) : argsOk "map.__next__" ⟨[a], []⟩ := by
  unfold argsOk; rw [signature?_of (id := "map.__next__") (n := ['_', '_', 't', 'x', 'e', 'n', '_', '_']) (o := ['p', 'a', 'm']) (by kernel_rfl) map_owner]; kernel_rfl
theorem map_next_entry : entryFor table "map.__next__" = some Builtin.«map.__next__» := entryFor_of_tree (by kernel_rfl)
theorem map_new_entry : entryFor table "map.__new__" = some Builtin.«map.__new__» := entryFor_of_tree (by kernel_rfl)
theorem map_iter_entry : entryFor table "map.__iter__" = some Builtin.«dict_keyiterator.__iter__» :=
  entryFor_alias (id' := "dict_keyiterator.__iter__") (by rw [fastTable_eq_tree]; kernel_rfl) rfl (by decide +kernel) (by rw [fastTable_eq_tree]; kernel_rfl)
theorem map_mro : mroOf (.type "map") = pure [.type "map", .type "object"] := by rw [mroOf_type]; kernel_rfl
theorem map_lookup_new : typeLookup (.type "map") "__new__" = pure (some (.builtin "map.__new__")) := by rw [typeLookup_type, builtinLookup_eq_fast]; kernel_rfl
theorem map_called : TypeCalled "map" "map.__new__" "object.__init__" :=
  ⟨by decide +kernel, by decide +kernel, ⟨_, _, map_mro⟩, madeBy_type map_mro map_lookup_new (by decide +kernel), by decide +kernel, by rw [isSubtype_type]; kernel_rfl, map_init⟩
theorem map_typeCall (a b : Value) : checkTypeCall "map" ⟨[a, b], []⟩ = pure () := by kernel_rfl
theorem map_newCall (a b : Value) : checkBuiltinCall "map.__new__" ⟨[.type "map", a, b], []⟩ = pure () := by kernel_rfl
abbrev IsMap (h : Heap) (mp T : Addr) : Prop := h.get? mp = some { cls := .type "map", dict := none, data := .fields #[.ref T, .builtin "ord"], slots := #[] }
abbrev IsOne (h : Heap) (T it : Addr) : Prop := h.get? T = some { cls := .type "tuple", data := .seq #[.ref it] }
abbrev IsTwo (h : Heap) (T : Addr) (a b : Value) (n : Nat) : Prop := h.get? T = some { cls := .type "tuple", data := .seq #[a, b] n }
abbrev mapH1 (h : Heap) (O : Obj) : Heap := h.push O
abbrev mapH2 (h : Heap) (O : Obj) : Heap := (mapH1 h O).push { cls := .type "tuple", data := .seq #[.ref h.objs.size] }
abbrev mapH3 (h : Heap) (O : Obj) : Heap := (mapH2 h O).push { cls := .type "map", data := .fields #[.ref (mapH1 h O).objs.size, .builtin "ord"] }
theorem map_new_meets (v : Value) (O : Obj) (hP : ∀ (prog : Program) (w : World) (A : Around) (E : Value → Shared → Prop) (s : Shared) (Q : Value → Shared → Prop), Q (.ref s.heap.objs.size) { s with heap := s.heap.push O } → wpAny (model prog w) A (pyIter v) Q E s) :
    Meets (Builtin.«map.__new__» ⟨[.type "map", .builtin "ord", v], []⟩) (fun _ R s =>
      R (.ok (.ret (.ref (mapH2 s.heap O).objs.size))) { s with heap := mapH3 s.heap O }) :=
  .of_wp fun prog w A R s h => by
    obtain ⟨hp, g, d, tk, os⟩ := s
    have hsub := map_sub
    have hP' := hP prog w
    clear hP
    wp_walk using hP'
    exact ⟨_, rfl, h⟩
variable {A : Around} {E : Value → Shared → Prop} {s : Shared}
theorem map_call {x : Str} {t : Tok} {Q : Value → Shared → Prop} (ha : strIterType x = "str_ascii_iterator")
    (h : ∀ h', IsMap h' (s.heap.objs.size + 2) (s.heap.objs.size + 1) → IsOne h' (s.heap.objs.size + 1) s.heap.objs.size → h'.IsStrIter s.heap.objs.size "str_ascii_iterator" x t 0 → h'.objs.size = s.heap.objs.size + 3 →
      (∀ c o, s.heap.get? c = some o → h'.get? c = some o) → Q (.ref (s.heap.objs.size + 2)) { s with heap := h' }) :
    wpAny (model prog w) A (call (.type "map") [.builtin "ord", .str x t]) Q E s := by
  refine callType_new map_called (by decide) (map_typeCall _ _) (map_newCall _ _) (fun obj => F.args_object_init_3 obj _ _) map_new_entry (map_new_meets (.str x t) { cls := .type "str_ascii_iterator", data := .fields #[.str x t, .int 0 0] } (fun _ _ _ _ _ _ hQ => wpAny_pyIter_strU (by rw [ha]; exact hQ))) ?_
  generalize hO : ({ cls := .type "str_ascii_iterator", data := .fields #[.str x t, .int 0 0] } : Obj) = O
  have hf : O.isFreed = false := by rw [← hO]; rfl
  have z1 : (mapH1 s.heap O).objs.size = s.heap.objs.size + 1 := Heap.size_push ..
  have z2 : (mapH2 s.heap O).objs.size = s.heap.objs.size + 2 := by rw [Heap.size_push, z1]
  have z3 : (mapH3 s.heap O).objs.size = s.heap.objs.size + 3 := by rw [Heap.size_push, z2]
  have g3 : (mapH3 s.heap O).get? (mapH2 s.heap O).objs.size = some _ := Heap.get?_push_size _ rfl
  have g2 : (mapH3 s.heap O).get? (mapH1 s.heap O).objs.size = some _ := Heap.get?_push_of_some _ (Heap.get?_push_size _ rfl)
  have g1 : (mapH3 s.heap O).get? s.heap.objs.size = some _ := Heap.get?_push_of_some _ (Heap.get?_push_of_some _ (Heap.get?_push_size _ hf))
  show _ ∧ _
  rw [z2, z1] at g3
  rw [z1] at g2
  rw [z2]
  subst hO
  exact ⟨⟨_, g3, rfl⟩, h _ g3 g2 ⟨_, g1, rfl, rfl⟩ z3 fun c o q => Heap.get?_push_of_some _ (Heap.get?_push_of_some _ (Heap.get?_push_of_some _ q))⟩
theorem map_pyIter {mp T : Addr} {Q : Value → Shared → Prop} (hm : IsMap s.heap mp T) (h : Q (.ref mp) s) : wpAny (model prog w) A (pyIter (.ref mp)) Q E s := by
  have hT : s.TypeIs (.ref mp) "map" := ⟨_, hm, rfl⟩
  refine wpAny_pyIter_slot hT map_iter (wpAny_call_entry map_iter hT map_iter_entry ?_ (map_iter_args _))
  show wpAny _ _ (ret (.ref mp)) _ _ s
  exact wpAny_pure ⟨_, rfl, "map", _, hT, map_next.lookup, h⟩
theorem map_pyNext_item {mp T it : Addr} {x : Str} {t : Tok} {i c : Nat} {Q : Option Value → Shared → Prop} (hm : IsMap s.heap mp T) (hT : IsOne s.heap T it) (hit : s.heap.IsStrIter it "str_ascii_iterator" x t i) (hx : x.cps[i]? = some c)
    (hQ : ∀ h' tk tk', h'.IsStrIter it "str_ascii_iterator" x t (i + 1) → Heap.SameBut it s.heap h' → Q (some (.int c tk)) { s with heap := h', toks := tk' }) :
    wpAny (model prog w) A (pyNext (.ref mp)) Q E s := by
  have hY : s.TypeIs (.ref mp) "map" := ⟨_, hm, rfl⟩
  have hne : mp ≠ it := fun q => by subst q; obtain ⟨o, q, r, _⟩ := hit; rw [hm] at q; cases q; exact absurd (Value.type.inj r) (by decide)
  unfold pyNext
  refine wpAny_bind (wpAny_attempt (wpAny_callSpecial?_slot (name := Str.ofString "__next__") hY map_next (wpAny_call_entry map_next hY map_next_entry ?_ (map_next_args _))))
  show wpAny _ _ (field (.ref mp) 0 >>= _) _ _ _
  refine wpAny_bind (wpAny_field hm rfl (x := .ref T) rfl ?_)
  refine wpAny_bind (wpAny_seqItems hT rfl ?_)
  dsimp only
  simp only [List.forIn_toArray, List.forIn_cons, List.forIn_nil]
  refine wpAny_bind (wpAny_bind (wpAny_bind (wpAny_holding (wpAny_nextOf_ascii_item hit hx fun h' hit' hs' => ?_))))
  have hm' : IsMap h' mp T := hs'.extBut _ _ hne hm
  refine wpAny_pure (wpAny_pure (wpAny_bind (wpAny_field hm' rfl (x := .builtin "ord") rfl (wpAny_bind (wpAny_holding ?_)))))
  refine P.ord_of_char (wpAny_bind (wpAny_letGo ?_))
  exact wpAny_pure ⟨_, rfl, wpAny_pure (hQ h' _ _ hit' hs')⟩
theorem map_pyNext_end {mp T it : Addr} {x : Str} {t : Tok} {i : Nat} {Q : Option Value → Shared → Prop} (hh : A.handled = none) (hm : IsMap s.heap mp T) (hT : IsOne s.heap T it) (hit : s.heap.IsStrIter it "str_ascii_iterator" x t i) (hx : x.cps[i]? = none)
    (hQ : ∀ h', Heap.ExtBut it s.heap h' → Q none { s with heap := h' }) :
    wpAny (model prog w) A (pyNext (.ref mp)) Q E s := by
  have hY : s.TypeIs (.ref mp) "map" := ⟨_, hm, rfl⟩
  unfold pyNext
  refine wpAny_bind (wpAny_attempt (wpAny_callSpecial?_slot (name := Str.ofString "__next__") hY map_next (wpAny_call_entry map_next hY map_next_entry ?_ (map_next_args _))))
  show wpAny _ _ (field (.ref mp) 0 >>= _) _ _ _
  refine wpAny_bind (wpAny_field hm rfl (x := .ref T) rfl ?_)
  refine wpAny_bind (wpAny_seqItems hT rfl ?_)
  dsimp only
  simp only [List.forIn_toArray, List.forIn_cons, List.forIn_nil]
  refine wpAny_bind (wpAny_bind (wpAny_bind (wpAny_holding (wpAny_nextOf_ascii_end hh hit hx fun h' e hs' he => ?_))))
  obtain ⟨o, ho, hc⟩ := he
  refine wpAny_bind (wpAny_isInstance (T := "StopIteration") (b := true) ⟨o, ho, hc⟩ isSubtype_stop ?_)
  exact wpAny_pure (hQ _ hs')
end
end
/- A1 -/
section
variable {prog : Program} {w : World} {p : Program} {loose : List Str} {mean : ExcName → Option Value} {mg mb : Str → Option Value}
local macro_rules | `(tactic| k_room) => `(tactic| ktr_room)
local macro_rules | `(tactic| ktr_room) => `(tactic| (simp only [depth_under_make, depth_under_kw, depth_in1, depth_deeper] at *; omega))
local macro_rules | `(tactic| k_units) => `(tactic| ktr_units)
local macro_rules | `(tactic| k_mem) => `(tactic| first | assumption | (refine List.mem_cons_of_mem _ ?_; k_mem))

section
open PySem.Builtin PySem.Builtin.ObjectAttr
variable {A : Around} {E : Value → Shared → Prop} {s : Shared} {K : Frag} {x C f hook L : Addr} {ox od : Obj} {name : Str} {expr : Bool} {h₀ : Heap} {m : Str → Option Value} {news : List (Addr × Obj)} {es : List DictEntry} {n : Nat} {Q : Value → Shared → Prop}
/-- the class keeps object's __getattribute__ and has a __getattr__ of its own -/
def hooked (K : Frag) (C : Addr) (hook : Addr) : Prop := findIn K (.ref C) "__getattribute__" = some (some (.builtin "object.__getattribute__")) ∧ findIn K (.ref C) "__getattr__" = some (some (.ref hook)) ∧ isFn K (.ref hook) = true ∧ hasDictIn K C = true
theorem hk_own {attr : Option Value} {v : Value} (F : Fr h₀ L s.heap m) (X₀ : K.In h₀) (I : InstAt s.heap x ox C (some (dictOf es n))) (hg : hooked K C hook)
    (ha : findIn K (.ref C) name = some attr) (hn : noGet K attr = true) (hl : getL name es = some (some v)) (hv : handedIn v = true) (h : Q v { s with toks := s.toks + 1 }) :
    wpAny (model prog w) A (getAttr (.ref x) name expr) Q E s :=
  get_value (X₀.keeps F.keep) I hg.1 (findObj_own hg.2.2.2 ha hn hl) hv h
theorem hk_cls {a : Value} (F : Fr h₀ L s.heap m) (X₀ : K.In h₀) (I : InstAt s.heap x ox C (some (dictOf es n))) (hg : hooked K C hook)
    (ha : findIn K (.ref C) name = some (some a)) (hn : specialIn K a "__get__" = some none) (hv : handedIn a = true) (hc : copiedNames.contains name = false) (hl : getL name es = some none) (h : Q a { s with toks := s.toks + 1 }) :
    wpAny (model prog w) A (getAttr (.ref x) name expr) Q E s :=
  get_value (X₀.keeps F.keep) I hg.1 (findObj_cls hg.2.2.2 ha hn hv hc hl) hv h
theorem hk_bind {g a : Value} (X : K.In s.heap) (I : InstAt s.heap x ox C (some od)) (hg : hooked K C hook) (hf : findObj K C (some od) name = some (.bind g a))
    (h : wpAny (model prog w) A.in1 (call g [a, .ref x, .ref C]) (fun v s' => wpAny (model prog w) A (handedOut v) Q E s') (fun _ _ => False) { s with toks := s.toks + 1 }) :
    wpAny (model prog w) A (getAttr (.ref x) name expr) Q E s := by
  refine get_open X I hg.1 ?_
  obtain ⟨hh', gg, d, t, os⟩ := s
  have L0 := I.type (M := model prog w)
  have L1 := looks_find (M := model prog w) X I hf
  have L2 := looks_findIn (M := model prog w) X hg.2.1
  refine wpAny_bind (wpAny_pure (wpAny_bind (L0.at (wpAny_bind (L1.at (wpAny_bind (L2.at ?_)))))))
  show wpAny _ _ (bindOrHook g a (.ref x) (.ref C) _ (.ref hook)) _ _ _
  unfold bindOrHook
  refine wpAny_bind (wpAny_attempt (wpAny_holding ?_))
  show wpAny _ _ (holding [a] (call g [a, .ref x, .ref C]) >>= ret) _ _ _
  exact wpAny_bind (wpAny_holding (wpAny_mono h (fun v s' z => wpAny_pure (wpAny_pure z)) fun _ _ z => z.elim))
theorem hk_bound (F : Fr h₀ L s.heap m) (X₀ : K.In h₀) (N : News h₀ L s.heap news) (I : InstAt s.heap x ox C (some (dictOf es n))) (hg : hooked K C hook) (ha : findIn K (.ref C) name = some (some (.ref f))) (hf : isFn K (.ref f) = true)
    (hgf : specialIn K (.ref f) "__get__" = some (some (.builtin "function.__get__"))) (ht : takesIn K (.ref f) = some false) (hc : copiedNames.contains name = false) (hl : getL name es = some none)
    (h : ∀ q h', Fr h₀ L h' m → News h₀ L h' ((q, methodObj (.ref f) (.ref x)) :: news) → (∀ p ∈ news, p.1 < q) → Q (.ref q) { s with heap := h', toks := s.toks + 1 }) : wpAny (model prog w) A (getAttr (.ref x) name expr) Q E s :=
  hk_bind (X₀.keeps F.keep) I hg (findObj_fn hg.2.2.2 ha hgf ht hc (by show lookIn name (dictOf es n) = _; rw [lookIn_dict, hl]))
    (wpAny_call (fn_get (s := { s with toks := s.toks + 1 }) (X₀.keeps F.keep) (beq_iff_eq.mp hf) (handed_on rfl (h s.heap.objs.size _ (F.push _) (N.push F _) fun p hp => Heap.lt_size (N p hp).1))))
theorem hk_prop {q fget : Addr} {rest : List Value} (F : Fr h₀ L s.heap m) (X₀ : K.In h₀) (I : InstAt s.heap x ox C (some od)) (hg : hooked K C hook)
    (ha : findIn K (.ref C) name = some (some (.ref q))) (hn : specialIn K (.ref q) "__get__" = some (some (.builtin "property.__get__"))) (ht : takesIn K (.ref q) = some true) (hp : recIn K q "property" = some (.ref fget :: rest))
    (h : codeAny (model prog w) A.in1 (.call (.ref fget) ⟨[.ref x], []⟩) (Back (fun v s' => wpAny (model prog w) A (handedOut v) Q E s') (fun _ _ => False)) { s with toks := s.toks + 1 }) :
    wpAny (model prog w) A (getAttr (.ref x) name expr) Q E s :=
  hk_bind (X₀.keeps F.keep) I hg (findObj_data (by obtain ⟨cd, hc, _⟩ := any_some hg.2.2.2; rw [hc]; rfl) ha hn ht) (wpAny_call (prop_get (s := { s with toks := s.toks + 1 }) (X₀.keeps F.keep) hp h))
theorem findObj_miss (hh : hasDictIn K C = true) (ha : findIn K (.ref C) name = some none) (hc : copiedNames.contains name = false) (hl : lookIn name od = some none) : findObj K C (some od) name = some .missing := by
  obtain ⟨cd, hc', hd⟩ := any_some hh
  unfold findObj
  have ho : PySem.W.ownOf cd (some od) name = some none := by unfold PySem.W.ownOf; rw [if_pos hd]; exact hl
  rw [hc', Option.bind_some, ha, Option.bind_some]
  simp only [Option.bind_some, ho, hc, Bool.false_and, Bool.false_eq_true, if_false]
theorem hk_hook (F : Fr h₀ L s.heap m) (X₀ : K.In h₀) (I : InstAt s.heap x ox C (some (dictOf es n))) (hg : hooked K C hook) (ha : findIn K (.ref C) name = some none) (hc : copiedNames.contains name = false) (hl : getL name es = some none)
    (h : wpAny (model prog w) A.in1 (call (.ref hook) [.ref x, .str name s.toks]) (fun v s' => wpAny (model prog w) A (handedOut v) Q E s') (fun _ _ => False) { s with toks := s.toks + 1 }) :
    wpAny (model prog w) A (getAttr (.ref x) name expr) Q E s := by
  have X := X₀.keeps F.keep
  have hf := findObj_miss (od := dictOf es n) hg.2.2.2 ha hc (by rw [lookIn_dict, hl])
  refine get_open X I hg.1 ?_
  obtain ⟨hh', gg, d, t, os⟩ := s
  have L0 := I.type (M := model prog w)
  have L1 := looks_find (M := model prog w) X I hf
  have L2 := looks_findIn (M := model prog w) X hg.2.1
  have L3 := bind_fn (M := model prog w) X (.ref x) (beq_iff_eq.mp hg.2.2.1)
  refine wpAny_bind (wpAny_pure (wpAny_bind (L0.at (wpAny_bind (L1.at (wpAny_bind (L2.at ?_)))))))
  show wpAny _ _ (byHook (.ref x) _ (.ref hook)) _ _ _
  unfold byHook
  refine wpAny_bind (L3.at ?_)
  dsimp only
  exact wpAny_bind (wpAny_mono h (fun v s' z => wpAny_bind (wpAny_rule (wpAny_pure z))) fun _ _ z => z.elim)
theorem hk_method {pl : Sem Bool} {R : Value × List Value → Shared → Prop} (X₀ : K.In h₀) (F : Fr h₀ L s.heap m) (I : InstAt s.heap x ox C (some od)) (hg : hooked K C hook)
    (h : wpAny (model prog w) A (getAttr (.ref x) name) (fun v s' => R (v, []) s') E s) : wpAny (model prog w) A (getMethod (.ref x) name pl) R E s := by
  have X := X₀.keeps F.keep
  have hcan := PySem.F.canon_object_ga
  unfold getMethod specialOf
  refine wpAny_bind (wpAny_bind (I.type.here ((looks_findIn X hg.1).here ?_)))
  dsimp only
  rw [hcan, if_neg (by decide)]
  refine wpAny_bind (wpAny_bind (I.type.here ((looks_findIn X hg.2.1).here ?_)))
  rw [if_pos (show (some (Value.ref hook)).isSome = true from rfl)]
  exact wpAny_bind (wpAny_mono h (fun _ _ z => wpAny_pure z) fun _ _ z => z)
end
theorem hooked_rte : hooked (Mine.hd.heap_39 w.params) 269 132 := ⟨by k_is, by k_is, by k_is, by k_is⟩
theorem hooked_wpl : hooked (Mine.hd.heap_39 w.params) 287 132 := ⟨by k_is, by k_is, by k_is, by k_is⟩
/-- what a sentence's dict holds -/
structure MsgDict (es : List DictEntry) (kd : Str) (l : Addr) : Prop where
  tl : ∃ t, getL "talker" es = some (some (.str (Str.ofString "GP") t))
  st : ∃ t, getL "sentence_type" es = some (some (.str kd t))
  da : getL "data" es = some (some (.ref l))
  no : ∀ name : Str, name ≠ "talker" → name ≠ "sentence_type" → name ≠ "data" → getL name es = some none
/-- the ledger bears a sentence of class C, of kind kd, with the fields fs, at x -/
def IsMsg (news : List (Addr × Obj)) (x C : Addr) (kd : Str) (fs : List Str) : Prop :=
  ∃ dx es n l vs k, (x, instObj C dx) ∈ news ∧ (dx, dictOf es n) ∈ news ∧ (l, W.listOf vs.toArray k) ∈ news ∧ StrsAre vs fs ∧ MsgDict es kd l
theorem IsMsg.mono {news news' : List (Addr × Obj)} {x C : Addr} {kd : Str} {fs : List Str} (h : IsMsg news x C kd fs) (sub : ∀ p ∈ news, p ∈ news') : IsMsg news' x C kd fs :=
  let ⟨dx, es, n, l, vs, k, a, b, c, d, e⟩ := h
  ⟨dx, es, n, l, vs, k, sub _ a, sub _ b, sub _ c, d, e⟩
end
/- C4 -/
section
theorem fresh_C4 : True := by
  w_top off
  k_with_none
  exact True.intro
variable {prog : Program} {w : World} {p : Program} {loose : List Str} {mean : ExcName → Option Value} {mg mb : Str → Option Value}
local macro_rules | `(tactic| k_room) => `(tactic| ktr_room)
local macro_rules | `(tactic| ktr_room) => `(tactic| (simp only [depth_under_make, depth_under_kw, depth_in1, depth_deeper] at *; omega))
local macro_rules | `(tactic| k_units) => `(tactic| ktr_units)
local macro_rules | `(tactic| k_mem) => `(tactic| first | assumption | (refine List.mem_cons_of_mem _ ?_; k_mem))

local macro_rules | `(tactic| walk_at "getAttr ref") => `(tactic| (k_here; k_dflt (first
  | (refine' hk_own ?k1 ?k2 ?k3 ?k4 ?k6 ?k7 ?k8 ?k9 ?_; (case k3 => k_inst); (case k2 => k_asm); (case k4 => first | exact hooked_rte | exact hooked_wpl); (case k1 => k_asm); (case k6 => k_is); (case k7 => k_is); (case k8 => assumption); (case k9 => k_handed); k_whole)
  | (refine' hk_bound ?k1 ?k2 ?k3 ?k4 ?k5 ?k7 ?k8 ?k9 ?k10 ?k11 ?k12 ?_; (case k4 => k_inst); (case k2 => k_asm); (case k5 => first | exact hooked_rte | exact hooked_wpl); (case k1 => k_asm); (case k7 => k_is); (case k3 => k_asm); (case k8 => k_is); (case k9 => k_is); (case k10 => k_is); (case k11 => decide +kernel); (case k12 => exact MsgDict.no (by assumption) _ (by decide +kernel) (by decide +kernel) (by decide +kernel)); k_whole; intro q' h' F' N' l1))))
local macro_rules | `(tactic| walk_at "getMethod ref") => `(tactic| (k_here; k_dflt (refine' hk_method ?k1 ?k2 ?k3 ?k4 ?_; (case k3 => k_inst); (case k1 => k_asm); (case k2 => k_asm); (case k4 => first | exact hooked_rte | exact hooked_wpl); k_whole)))
local macro_rules | `(tactic| walk_at "subscriptTail") => `(tactic| (k_here; (with_reducible show wpAny _ _ (subscriptTail _ (PySem.Expr.Slice _ _ none _) (Value.ref _) (Value.ref _)) _ _ _); k_dflt (first
  | (refine' sl_from ?F ?N ?l ?x ?_ ?s ?t ?z; (case F => k_asm); (case N => k_asm); (case l => k_mem); (case x => first | decide | omega); (case s => with_unfolding_all rfl); (case t => kmk_pure); (case z => first | omega | assumption))
  | (refine' sl_upto ?F ?N ?l ?x ?_ ?s ?t ?z; (case F => k_asm); (case N => k_asm); (case l => k_mem); (case x => first | decide | omega); (case s => with_unfolding_all rfl); (case t => kmk_pure); (case z => first | omega | assumption))); intro D' h' F' N' l1))
local macro_rules | `(tactic| walk_at "call builtin:len") => `(tactic| (k_here; (with_reducible show wpAny _ _ (call (Value.builtin "len") [Value.ref _]) _ _ _); k_dflt (refine' led_len ?N ?l ?z ?_; (case N => k_asm); (case l => k_mem); (case z => first | omega | assumption)); intro t' tk'))
local macro_rules | `(tactic| walk_at "subscriptTail") => `(tactic| (k_here; (with_reducible show wpAny _ _ (subscriptTail _ _ (Value.ref _) (Value.int _ _)) _ _ _); k_dflt (refine' led_item_str ?N ?l ?S ?h0 ?h1 ?z ?_ ?s; (case N => k_asm); (case l => k_mem); (case S => assumption); (case h0 => omega); (case h1 => omega); (case z => omega); (case s => with_unfolding_all rfl)); intro t'))

set_option maxHeartbeats 400000 in
theorem ident_c {x C : Addr} {kd : Str} {fs : List Str} (hC : C = 269 ∨ C = 287) (hkd : kd.length ≤ 3) : Claim prog w p loose mean mg mb 1 189 [.ref x] (fun h₀ L m news s Q => IsMsg news x C kd fs ∧ RetS (Str.ofString "GP" ++ kd ++ Str.ofString ",") h₀ L m news s Q) := by
  unfold Claim
  intro dp un gd cn cs a ccd cl outer A₀ base h₀ L m news s Q E B F X N T hk hd hu hret
  k_dflt (refine' code_def ?k1 ?k2 ?k3 ?k4 ?k5 ?kA ?kF ?kK ?k6 ?k7 ?k8 ?k9 ?kB ?_ ?c2 ?c3 ?c4 ?c5; (case kA => exact rfl); (case kF => exact rfl); (case kK => first | rfl | assumption); (case k1 => k_asm); (case k2 => k_asm); (case k3 => k_asm); (case k4 => k_asm); (case k5 => k_asm); (case k6 => k_is); (case k7 => k_is); (case k8 => ktr_room); (case k9 => exact BindsTo.of_eq rfl); (case c5 => decide); (case kB => exact locs rfl); (case c2 => exact rfl); (case c3 => exact rfl); (case c4 => exact rfl); k_whole; intro g' L' h1' FG' F' N' B' X' T'; (try dsimp only))

  obtain ⟨⟨dx, es, n, l, vs, k, m1, m2, m3, m4, MD⟩, hret⟩ := hret
  obtain ⟨t1, h1⟩ := MD.tl
  obtain ⟨t2, h2⟩ := MD.st
  rcases hC with rfl | rfl
  all_goals k_steps
  all_goals exact hret.use (by k_asm) (by k_asm) (fun _ h => h) (by rw [Str.empty_append]; exact ⟨_, rfl⟩)
set_option maxHeartbeats 400000 in
theorem wl_c {x : Str} {n : Int} {t u : Tok} (hx : (x.length : Int) = n) (hn : n ≤ 100) (ha : Txt.isalnum (Txt.replace x (Str.ofString "_") (Str.ofString "a")) = true) : Claim prog w p loose mean mg mb 1 98 [.str x t, .int n u] (RetV fun v => v = .bool true) := by
  unfold Claim
  intro dp un gd cn cs a ccd cl outer A₀ base h₀ L m news s Q E B F X N T hk hd hu hret
  k_dflt (refine' code_def ?k1 ?k2 ?k3 ?k4 ?k5 ?kA ?kF ?kK ?k6 ?k7 ?k8 ?k9 ?kB ?_ ?c2 ?c3 ?c4 ?c5; (case kA => exact rfl); (case kF => exact rfl); (case kK => first | rfl | assumption); (case k1 => k_asm); (case k2 => k_asm); (case k3 => k_asm); (case k4 => k_asm); (case k5 => k_asm); (case k6 => k_is); (case k7 => k_is); (case k8 => ktr_room); (case k9 => exact BindsTo.of_eq rfl); (case c5 => decide); (case kB => exact locs rfl); (case c2 => exact rfl); (case c3 => exact rfl); (case c4 => exact rfl); k_whole; intro g' L' h1' FG' F' N' B' X' T'; (try dsimp only))

  k_steps
  all_goals first | (exfalso; exact absurd hx (by assumption)) | exact hret.use (by k_asm) (by k_asm) (fun _ h => h) (by rw [ha])
set_option maxHeartbeats 400000 in
theorem wpts_c {x : Addr} {kd : Str} {fs : List Str} (hb : fs.length ≤ 100) : Claim prog w p loose mean mg mb 1 265 [.ref x] (fun h₀ L m news s Q => IsMsg news x 269 kd fs ∧ RetL (fun ws => StrsAre ws (fs.drop 4)) h₀ L m news s Q) := by
  unfold Claim
  intro dp un gd cn cs a ccd cl outer A₀ base h₀ L m news s Q E B F X N T hk hd hu hret
  k_dflt (refine' code_def ?k1 ?k2 ?k3 ?k4 ?k5 ?kA ?kF ?kK ?k6 ?k7 ?k8 ?k9 ?kB ?_ ?c2 ?c3 ?c4 ?c5; (case kA => exact rfl); (case kF => exact rfl); (case kK => first | rfl | assumption); (case k1 => k_asm); (case k2 => k_asm); (case k3 => k_asm); (case k4 => k_asm); (case k5 => k_asm); (case k6 => k_is); (case k7 => k_is); (case k8 => ktr_room); (case k9 => exact BindsTo.of_eq rfl); (case c5 => decide); (case kB => exact locs rfl); (case c2 => exact rfl); (case c3 => exact rfl); (case c4 => exact rfl); k_whole; intro g' L' h1' FG' F' N' B' X' T'; (try dsimp only))

  obtain ⟨⟨dx, es, n, l, vs, k, m1, m2, m3, m4, MD⟩, hret⟩ := hret
  have h1 := MD.da
  have h3 := StrsAre.len m4
  k_steps
  exact hret.use (by k_asm) (by k_asm) (fun _ h => h) (by assumption) (StrsAre.drop m4 4)
end
/- C5 -/
section
theorem fresh_C5 : True := by
  w_top off
  k_with_none
  exact True.intro
local macro_rules | `(tactic| walk_at "pad 0") => `(tactic| fail)
local macro_rules | `(tactic| walk_at "pad 1") => `(tactic| fail)
local macro_rules | `(tactic| walk_at "pad 2") => `(tactic| fail)
local macro_rules | `(tactic| walk_at "pad 3") => `(tactic| fail)
local macro_rules | `(tactic| walk_at "pad 4") => `(tactic| fail)
local macro_rules | `(tactic| walk_at "pad 5") => `(tactic| fail)
local macro_rules | `(tactic| walk_at "pad 6") => `(tactic| fail)
local macro_rules | `(tactic| walk_at "pad 7") => `(tactic| fail)
local macro_rules | `(tactic| walk_at "pad 8") => `(tactic| fail)
local macro_rules | `(tactic| walk_at "pad 9") => `(tactic| fail)
local macro_rules | `(tactic| walk_at "pad 10") => `(tactic| fail)
local macro_rules | `(tactic| walk_at "pad 11") => `(tactic| fail)
local macro_rules | `(tactic| walk_at "pad 12") => `(tactic| fail)
local macro_rules | `(tactic| walk_at "pad 13") => `(tactic| fail)
local macro_rules | `(tactic| walk_at "pad 14") => `(tactic| fail)
local macro_rules | `(tactic| walk_at "pad 15") => `(tactic| fail)
local macro_rules | `(tactic| walk_at "pad 16") => `(tactic| fail)
local macro_rules | `(tactic| walk_at "pad 17") => `(tactic| fail)
local macro_rules | `(tactic| walk_at "pad 18") => `(tactic| fail)
local macro_rules | `(tactic| walk_at "pad 19") => `(tactic| fail)
local macro_rules | `(tactic| walk_at "pad 20") => `(tactic| fail)
local macro_rules | `(tactic| walk_at "pad 21") => `(tactic| fail)
local macro_rules | `(tactic| walk_at "pad 22") => `(tactic| fail)
local macro_rules | `(tactic| walk_at "pad 23") => `(tactic| fail)
local macro_rules | `(tactic| walk_at "pad 24") => `(tactic| fail)
local macro_rules | `(tactic| walk_at "pad 25") => `(tactic| fail)
local macro_rules | `(tactic| walk_at "pad 26") => `(tactic| fail)
local macro_rules | `(tactic| walk_at "pad 27") => `(tactic| fail)
local macro_rules | `(tactic| walk_at "pad 28") => `(tactic| fail)
local macro_rules | `(tactic| walk_at "pad 29") => `(tactic| fail)
local macro_rules | `(tactic| walk_at "pad 30") => `(tactic| fail)
local macro_rules | `(tactic| walk_at "pad 31") => `(tactic| fail)
local macro_rules | `(tactic| walk_at "pad 32") => `(tactic| fail)
local macro_rules | `(tactic| walk_at "pad 33") => `(tactic| fail)
local macro_rules | `(tactic| walk_at "pad 34") => `(tactic| fail)
local macro_rules | `(tactic| walk_at "pad 35") => `(tactic| fail)
local macro_rules | `(tactic| walk_at "pad 36") => `(tactic| fail)
local macro_rules | `(tactic| walk_at "pad 37") => `(tactic| fail)
local macro_rules | `(tactic| walk_at "pad 38") => `(tactic| fail)
local macro_rules | `(tactic| walk_at "pad 39") => `(tactic| fail)
variable {prog : Program} {w : World} {p : Program} {loose : List Str} {mean : ExcName → Option Value} {mg mb : Str → Option Value}
local macro_rules | `(tactic| k_room) => `(tactic| ktr_room)
local macro_rules | `(tactic| ktr_room) => `(tactic| (simp only [depth_under_make, depth_under_kw, depth_in1, depth_deeper] at *; omega))
local macro_rules | `(tactic| k_units) => `(tactic| ktr_units)
local macro_rules | `(tactic| k_mem) => `(tactic| first | assumption | (refine List.mem_cons_of_mem _ ?_; k_mem))

local macro_rules | `(tactic| walk_at "getAttr ref") => `(tactic| (k_here; k_dflt (first
  | (refine' hk_own ?k1 ?k2 ?k3 ?k4 ?k6 ?k7 ?k8 ?k9 ?_; (case k3 => k_inst); (case k2 => k_asm); (case k4 => first | exact hooked_rte | exact hooked_wpl); (case k1 => k_asm); (case k6 => k_is); (case k7 => k_is); (case k8 => assumption); (case k9 => k_handed); k_whole)
  | (refine' hk_bound ?k1 ?k2 ?k3 ?k4 ?k5 ?k7 ?k8 ?k9 ?k10 ?k11 ?k12 ?_; (case k4 => k_inst); (case k2 => k_asm); (case k5 => first | exact hooked_rte | exact hooked_wpl); (case k1 => k_asm); (case k7 => k_is); (case k3 => k_asm); (case k8 => k_is); (case k9 => k_is); (case k10 => k_is); (case k11 => decide +kernel); (case k12 => exact MsgDict.no (by assumption) _ (by decide +kernel) (by decide +kernel) (by decide +kernel)); k_whole; intro q' h' F' N' l1))))
local macro_rules | `(tactic| walk_at "getMethod ref") => `(tactic| (k_here; k_dflt (refine' hk_method ?k1 ?k2 ?k3 ?k4 ?_; (case k3 => k_inst); (case k1 => k_asm); (case k2 => k_asm); (case k4 => first | exact hooked_rte | exact hooked_wpl); k_whole)))
local macro_rules | `(tactic| walk_at "subscriptTail") => `(tactic| (k_here; (with_reducible show wpAny _ _ (subscriptTail _ (PySem.Expr.Slice _ _ none _) (Value.ref _) (Value.ref _)) _ _ _); k_dflt (first
  | (refine' sl_from ?F ?N ?l ?x ?_ ?s ?t ?z; (case F => k_asm); (case N => k_asm); (case l => k_mem); (case x => first | decide | omega); (case s => with_unfolding_all rfl); (case t => kmk_pure); (case z => first | omega | assumption))
  | (refine' sl_upto ?F ?N ?l ?x ?_ ?s ?t ?z; (case F => k_asm); (case N => k_asm); (case l => k_mem); (case x => first | decide | omega); (case s => with_unfolding_all rfl); (case t => kmk_pure); (case z => first | omega | assumption))); intro D' h' F' N' l1))
local macro_rules | `(tactic| walk_at "call builtin:len") => `(tactic| (k_here; (with_reducible show wpAny _ _ (call (Value.builtin "len") [Value.ref _]) _ _ _); k_dflt (refine' led_len ?N ?l ?z ?_; (case N => k_asm); (case l => k_mem); (case z => first | omega | assumption)); intro t' tk'))
local macro_rules | `(tactic| walk_at "subscriptTail") => `(tactic| (k_here; (with_reducible show wpAny _ _ (subscriptTail _ _ (Value.ref _) (Value.int _ _)) _ _ _); k_dflt (refine' led_item_str ?N ?l ?S ?h0 ?h1 ?z ?_ ?s; (case N => k_asm); (case l => k_mem); (case S => assumption); (case h0 => omega); (case h1 => omega); (case z => omega); (case s => with_unfolding_all rfl)); intro t'))

local macro_rules | `(tactic| walk_at "eval DictComp") => `(tactic| (k_here; k_dflt (refine' dcp_DictComp keysR ?F ?c1 ?c2 ?c3 ?c4 ?c5 ?c6 ?c7 ?c8 ?c9 ?_; (case F => k_asm); (case c1 => with_unfolding_all rfl); (case c2 => decide); (case c3 => rfl); (case c4 => decide); (case c5 => rfl); (case c6 => rfl); (case c7 => decide); (case c8 => decide); (case c9 => decide))))
local macro_rules | `(tactic| walk_at "call type:enumerate") => `(tactic| (k_here; k_dflt (refine' dsrc_call (by rfl) ?F ?N ?f ?k ?_; (case F => k_asm); (case N => k_asm); (case f => first | exact fields_rte (by k_asm) | exact fields_wpl (by k_asm)); (case k => decide); intro D' o' h' tk' kvs' F' N' hd' hv'; obtain ⟨tk9, hv9⟩ := hv' _ (by assumption) (by assumption))))
local macro_rules | `(tactic| walk_at "getItem ref str") => `(tactic| (k_here; k_dflt (refine' dget_item ?N ?m ?d ?v ?_; (case N => k_asm); (case m => k_mem); (case d => assumption); (case v => assumption))))
local macro_rules | `(tactic| walk_at "subscriptTail") => `(tactic| (k_here; (with_reducible show wpAny _ _ (subscriptTail _ _ (Value.ref 258) (Value.int _ _)) _ _ _); k_dflt (refine' fields_item ?F ?f ?i ?k ?_ ?s; (case F => k_asm); (case f => exact fields_rte (by k_asm)); (case i => assumption); (case k => decide); (case s => with_unfolding_all rfl); intro a' x' tk' hT')))
local macro_rules | `(tactic| walk_at "call builtin:len") => `(tactic| (k_here; (with_reducible show wpAny _ _ (call (Value.builtin "len") [Value.ref _]) _ _ _); k_dflt (refine' tup2_len ?F ?T ?_; (case F => k_asm); (case T => assumption)); intro t' tk'))
theorem keysR_ne : ∀ i, i < 4 → ∀ j, j < 4 → keysR.getD j Str.empty = keysR.getD i Str.empty → j = i := by decide +kernel
theorem keysW_ne : ∀ i, i < 5 → ∀ j, j < 5 → keysW.getD j Str.empty = keysW.getD i Str.empty → j = i := by decide +kernel
set_option maxHeartbeats 400000 in
theorem ga_rte {x : Addr} {kd : Str} {fs : List Str} {t : Tok} {i : Nat} (hb : fs.length ≤ 100) (h4 : 4 ≤ fs.length) (hi : i < 4) : Claim prog w p loose mean mg mb 2 132 [.ref x, .str (keysR.getD i Str.empty) t] (fun h₀ L m news s Q => IsMsg news x 269 kd fs ∧ RetS (fs.getD i Str.empty) h₀ L m news s Q) := by
  unfold Claim
  intro dp un gd cn cs a ccd cl outer A₀ base h₀ L m news s Q E B F X N T hk hd hu hret
  k_dflt (refine' code_def ?k1 ?k2 ?k3 ?k4 ?k5 ?kA ?kF ?kK ?k6 ?k7 ?k8 ?k9 ?kB ?_ ?c2 ?c3 ?c4 ?c5; (case kA => exact rfl); (case kF => exact rfl); (case kK => first | rfl | assumption); (case k1 => k_asm); (case k2 => k_asm); (case k3 => k_asm); (case k4 => k_asm); (case k5 => k_asm); (case k6 => k_is); (case k7 => k_is); (case k8 => ktr_room); (case k9 => exact BindsTo.of_eq rfl); (case c5 => decide); (case kB => exact locs rfl); (case c2 => exact rfl); (case c3 => exact rfl); (case c4 => exact rfl); k_whole; intro g' L' h1' FG' F' N' B' X' T'; (try dsimp only))

  obtain ⟨⟨dx, es, n, l, vs, k, m1, m2, m3, m4, MD⟩, hret⟩ := hret
  have h1 := MD.da
  have h3 := StrsAre.len m4
  have hu9 : ∀ j, j < keysR.length → keysR.getD j Str.empty = keysR.getD i Str.empty → j = i := fun j hj => keysR_ne i hi j hj
  have hi9 : i < keysR.length := hi
  k_steps
  exact hret.use (by k_asm) (by k_asm) (fun _ h => List.mem_cons_of_mem _ h) ⟨_, rfl⟩
local macro_rules | `(tactic| walk_at "eval DictComp") => `(tactic| (k_here; k_dflt (refine' dcp_DictComp keysW ?F ?c1 ?c2 ?c3 ?c4 ?c5 ?c6 ?c7 ?c8 ?c9 ?_; (case F => k_asm); (case c1 => with_unfolding_all rfl); (case c2 => decide); (case c3 => rfl); (case c4 => decide); (case c5 => rfl); (case c6 => rfl); (case c7 => decide); (case c8 => decide); (case c9 => decide))))
local macro_rules | `(tactic| walk_at "subscriptTail") => `(tactic| (k_here; (with_reducible show wpAny _ _ (subscriptTail _ _ (Value.ref 284) (Value.int _ _)) _ _ _); k_dflt (refine' fields_item ?F ?f ?i ?k ?_ ?s; (case F => k_asm); (case f => exact fields_wpl (by k_asm)); (case i => assumption); (case k => decide); (case s => with_unfolding_all rfl); intro a' x' tk' hT')))
set_option maxHeartbeats 400000 in
theorem ga_wpl {x : Addr} {kd : Str} {fs : List Str} {t : Tok} {i : Nat} (hb : fs.length ≤ 100) (h4 : 5 ≤ fs.length) (hi : i < 5) : Claim prog w p loose mean mg mb 2 132 [.ref x, .str (keysW.getD i Str.empty) t] (fun h₀ L m news s Q => IsMsg news x 287 kd fs ∧ RetS (fs.getD i Str.empty) h₀ L m news s Q) := by
  unfold Claim
  intro dp un gd cn cs a ccd cl outer A₀ base h₀ L m news s Q E B F X N T hk hd hu hret
  k_dflt (refine' code_def ?k1 ?k2 ?k3 ?k4 ?k5 ?kA ?kF ?kK ?k6 ?k7 ?k8 ?k9 ?kB ?_ ?c2 ?c3 ?c4 ?c5; (case kA => exact rfl); (case kF => exact rfl); (case kK => first | rfl | assumption); (case k1 => k_asm); (case k2 => k_asm); (case k3 => k_asm); (case k4 => k_asm); (case k5 => k_asm); (case k6 => k_is); (case k7 => k_is); (case k8 => ktr_room); (case k9 => exact BindsTo.of_eq rfl); (case c5 => decide); (case kB => exact locs rfl); (case c2 => exact rfl); (case c3 => exact rfl); (case c4 => exact rfl); k_whole; intro g' L' h1' FG' F' N' B' X' T'; (try dsimp only))

  obtain ⟨⟨dx, es, n, l, vs, k, m1, m2, m3, m4, MD⟩, hret⟩ := hret
  have h1 := MD.da
  have h3 := StrsAre.len m4
  have hu9 : ∀ j, j < keysW.length → keysW.getD j Str.empty = keysW.getD i Str.empty → j = i := fun j hj => keysW_ne i hi j hj
  have hi9 : i < keysW.length := hi
  k_steps
  exact hret.use (by k_asm) (by k_asm) (fun _ h => List.mem_cons_of_mem _ h) ⟨_, rfl⟩
end
/- M2 -/
section
variable {prog : Program} {w : World} {p : Program} {loose : List Str} {mean : ExcName → Option Value} {mg mb : Str → Option Value}
local macro_rules | `(tactic| k_room) => `(tactic| ktr_room)
local macro_rules | `(tactic| ktr_room) => `(tactic| (simp only [depth_under_make, depth_under_kw, depth_in1, depth_deeper] at *; omega))
local macro_rules | `(tactic| k_units) => `(tactic| ktr_units)
local macro_rules | `(tactic| k_mem) => `(tactic| first | assumption | (refine List.mem_cons_of_mem _ ?_; k_mem))

theorem or_split : ∀ (a b : Nat), (a ||| b) = (a ^^^ b) + (a &&& b) := by
  intro a
  induction a using Nat.strongRecOn with
  | _ a ih =>
    intro b
    by_cases ha : a = 0
    · subst ha; simp
    · have h := ih (a / 2) (by omega) (b / 2)
      have e0 : (a ||| b) / 2 = (a / 2) ||| (b / 2) := Nat.or_div_two
      have e1 : (a ^^^ b) / 2 = (a / 2) ^^^ (b / 2) := Nat.xor_div_two
      have e2 : (a &&& b) / 2 = (a / 2) &&& (b / 2) := Nat.and_div_two
      have e5 : (a ||| b) % 2 = (a % 2) ||| (b % 2) := by simpa using Nat.or_mod_two_pow (a := a) (b := b) (n := 1)
      have e3 : (a ^^^ b) % 2 = (a % 2) ^^^ (b % 2) := by simpa using Nat.xor_mod_two_pow (a := a) (b := b) (n := 1)
      have e4 : (a &&& b) % 2 = (a % 2) &&& (b % 2) := by simpa using Nat.and_mod_two_pow (a := a) (b := b) (n := 1)
      have key : ∀ i, i < 2 → ∀ j, j < 2 → (i ||| j) = (i ^^^ j) + (i &&& j) := by decide
      have k := key (a % 2) (by omega) (b % 2) (by omega)
      omega
theorem bitXor_nat (a b : Nat) : Builtin.bitXor (a : Int) (b : Int) = ((a ^^^ b : Nat) : Int) := by
  have h1 : Builtin.bitAnd (a : Int) (b : Int) = ((a &&& b : Nat) : Int) := by
    unfold Builtin.bitAnd
    rw [decide_eq_true (Int.natCast_nonneg a), decide_eq_true (Int.natCast_nonneg b)]
    rfl
  have h2 : Builtin.bitOr (a : Int) (b : Int) = ((a ||| b : Nat) : Int) := by
    unfold Builtin.bitOr Builtin.bitAnd Builtin.bitNot
    rw [decide_eq_false (show ¬ (0 : Int) ≤ -(a : Int) - 1 by omega), decide_eq_false (show ¬ (0 : Int) ≤ -(b : Int) - 1 by omega)]
    dsimp only
    have e1 : (-(-(a : Int) - 1) - 1).toNat = a := by omega
    have e2 : (-(-(b : Int) - 1) - 1).toNat = b := by omega
    rw [e1, e2]
    omega
  unfold Builtin.bitXor
  rw [h1, h2, or_split]
  omega
section
open PySem.Builtin
theorem xor_kind : builtinKind "_operator.xor" = none := by decide +kernel
theorem xor_plain : plainId "_operator.xor" = true := by decide +kernel
theorem xor_entry : entryFor table "_operator.xor" = some Builtin.«_operator.xor» := entryFor_of_tree (by kernel_rfl)
theorem xor_args (a b : Value) : argsOk "_operator.xor" ⟨[a, b], []⟩ := by unfold argsOk; kernel_rfl
theorem red_kind : builtinKind "_functools.reduce" = none := by decide +kernel
theorem red_plain : plainId "_functools.reduce" = true := by decide +kernel
theorem red_entry : entryFor table "_functools.reduce" = some Builtin.«_functools.reduce» := entryFor_of_tree (by kernel_rfl)
theorem red_args (a b c : Value) : argsOk "_functools.reduce" ⟨[a, b, c], []⟩ := by unfold argsOk; kernel_rfl
theorem loop_plain : plainId "_functools.reduce.loop" = true := by decide +kernel
theorem loop_entry : entryFor table "_functools.reduce.loop" = some Builtin.«_functools.reduce.loop» := entryFor_of_tree (by kernel_rfl)
variable {A : Around} {E : Value → Shared → Prop} {s : Shared}
theorem xor_call {a b : Nat} {t u : Tok} {Q : Value → Shared → Prop} (h : ∀ t tk, Q (.int ((a ^^^ b : Nat) : Int) t) { s with toks := tk }) :
    wpAny (model prog w) A (call (.builtin "_operator.xor") [.int (a : Nat) t, .int (b : Nat) u]) Q E s := by
  refine Calls.call_function_entry xor_kind xor_plain xor_entry (xor_args _ _) ?_
  unfold Builtin.«_operator.xor»
  refine wpAny_bind (wpAny_of_eq (a := (Value.int (a : Nat) t, Value.int (b : Nat) u)) (by first | rfl | kernel_rfl) ?_)
  dsimp only
  refine wpAny_bind (xor_int ?_)
  rw [bitXor_nat]
  exact wpAny_pure ⟨_, rfl, h _ _⟩
structure RedAt (h : Heap) (mp T it pr own : Addr) (x : Str) (t : Tok) (i : Nat) : Prop where
  fm : IsMap h mp T
  fT : IsOne h T it
  fi : h.IsStrIter it "str_ascii_iterator" x t i
  fp : ∃ a b, IsPair h pr a b
  fo : ∃ v n, h.get? own = some { cls := .type "tuple", data := .seq #[.builtin "_operator.xor", .ref mp, v] n }
  ne1 : mp ≠ it ∧ mp ≠ pr
  ne2 : T ≠ it ∧ T ≠ pr
  ne3 : it ≠ pr
  ne4 : own ≠ it ∧ own ≠ pr
theorem red_loop {mp T it pr own : Addr} {x : Str} {t : Tok} {R : Result → Shared → Prop} (hh : A.handled = none) :
    ∀ (n i acc : Nat) (tk : Tok) (s : Shared), n = x.cps.size - i → i ≤ x.cps.size → RedAt s.heap mp T it pr own x t i →
      (∀ h' tk tk', (∀ c o, c ≠ it → c ≠ pr → s.heap.get? c = some o → h'.get? c = some o) → R (.ok (.ret (.int ((x.cps.toList.drop i).foldl (fun a c => a ^^^ c) acc : Nat) tk))) { s with heap := h', toks := tk' }) →
      codeAny (model prog w) A (.builtin "_functools.reduce.loop" ⟨[.ref pr, .ref mp, .ref own, .int (acc : Nat) tk], []⟩) R s := by
  intro n
  induction n with
  | zero =>
    intro i acc tk s hn hi hr hR
    refine codeAny_builtin loop_entry ?_
    rw [Around.under_plainId loop_plain]
    unfold Builtin.«_functools.reduce.loop»
    obtain ⟨v, n', ho⟩ := hr.fo
    refine wpAny_bind (wpAny_seqItems ho rfl ?_)
    have hx : x.cps[i]? = none := Array.getElem?_eq_none (by omega)
    refine wpAny_bind (map_pyNext_end (by exact hh) hr.fm hr.fT hr.fi hx fun h' hs' => ?_)
    refine wpAny_pure ?_
    have := hR h' tk s.toks (fun c o h1 h2 q => hs' c o h1 q)
    rw [List.drop_of_length_le (by rw [Array.length_toList]; omega)] at this
    exact this
  | succ n ih =>
    intro i acc tk s hn hi hr hR
    refine codeAny_builtin loop_entry ?_
    rw [Around.under_plainId loop_plain]
    unfold Builtin.«_functools.reduce.loop»
    obtain ⟨v, n', ho⟩ := hr.fo
    obtain ⟨pa, pb, hp⟩ := hr.fp
    refine wpAny_bind (wpAny_seqItems ho rfl ?_)
    have hlt : i < x.cps.size := by omega
    have hx : x.cps[i]? = some x.cps[i] := Array.getElem?_eq_getElem hlt
    refine wpAny_bind (map_pyNext_item hr.fm hr.fT hr.fi hx fun h1 tk1 tk2 hit hs => ?_)
    have hp1 : IsPair h1 pr pa pb := hs.extBut _ _ (Ne.symm hr.ne3) hp
    refine wpAny_bind (wpAny_seqItems hp1 rfl ?_)
    refine wpAny_bind (wpAny_updateSeq_pair hp1 fun h2 hp2 hs2 => wpAny_bind (wpAny_letGo ?_))
    have hp2' : IsPair h2 pr (.int (acc : Nat) tk) pb := hp2
    refine wpAny_bind (wpAny_updateSeq_pair hp2' fun h3 hp3 hs3 => wpAny_bind (wpAny_letGo ?_))
    have hp3' : IsPair h3 pr (.int (acc : Nat) tk) (.int (x.cps[i] : Nat) tk1) := hp3
    have up : ∀ c o, c ≠ it → c ≠ pr → s.heap.get? c = some o → h3.get? c = some o := fun c o q1 q2 q => hs3.extBut c o q2 (hs2.extBut c o q2 (hs.extBut c o q1 q))
    refine wpAny_bind (xor_call fun t9 tk9 => wpAny_pure ⟨plainId_quiet loop_plain _, ?_⟩)
    refine ih (i + 1) (acc ^^^ x.cps[i]) t9 { s with heap := h3, toks := tk9 } (by omega) hlt ⟨up _ _ hr.ne1.1 hr.ne1.2 hr.fm, up _ _ hr.ne2.1 hr.ne2.2 hr.fT, (hit.extBut hs2.extBut hr.ne3).extBut hs3.extBut hr.ne3, ⟨_, _, hp3'⟩, ⟨v, n', up _ _ hr.ne4.1 hr.ne4.2 ho⟩, hr.ne1, hr.ne2, hr.ne3, hr.ne4⟩ ?_
    intro h' tk tk' hk
    have := hR h' tk tk' (fun c o q1 q2 q => hk c o q1 q2 (up c o q1 q2 q))
    have e : x.cps.toList.drop i = x.cps[i] :: x.cps.toList.drop (i + 1) := by
      rw [List.drop_eq_getElem_cons (by simpa using hlt)]; simp
    rw [e] at this
    exact this
theorem call_again {id : String} {b : Builtin} {args : List Value} {Q : Value → Shared → Prop} (hk : builtinKind id = none) (hp : plainId id = true)
    (hb : entryFor table id = some b) (ha : argsOk id ⟨args, []⟩)
    (hc : wpAny (model prog w) A.in1 (b ⟨args, []⟩) (fun fin s' => ∃ c', fin = .again c' ∧ c'.quiet = true ∧ codeAny (model prog w) A c' (fun r s' => match r with | .ok (.ret v) => Q v s' | .ok _ => False | .error e => E e s') s') E s) :
    wpAny (model prog w) A (call (.builtin id) args) Q E s := by
  refine wpAny_call (codeAny_call_builtin hp hb ?_)
  have hfin := wpAny_mono hc (Q' := fun fin s' => match fin with
      | .done f => (match (Except.ok f : Result) with | .ok (.ret v) => Q v s' | .ok _ => False | .error e => E e s')
      | .again c' => c'.quiet = true ∧ codeAny (model prog w) A c' (fun r s' => match r with | .ok (.ret v) => Q v s' | .ok _ => False | .error e => E e s') s')
    (fun fin s' h' => by obtain ⟨c', rfl, hv⟩ := h'; exact hv) fun _ _ h' => h'
  simp only [checkBuiltinCall, hk]
  cases hsig : Manifest.signature? id with
  | none => exact wpAny_pure hfin
  | some sig =>
    simp only [argsOk, hsig] at ha
    have h2 : Bind.checkArgs id sig ⟨args, []⟩ = pure () := ha
    show wpAny _ A.in1 (Bind.checkArgs id sig ⟨args, []⟩) _ _ s
    rw [h2]; exact wpAny_pure hfin
theorem red_call {mp T it : Addr} {x : Str} {t u : Tok} {Q : Value → Shared → Prop} (hh : A.handled = none) (hm : IsMap s.heap mp T) (hT : IsOne s.heap T it) (hi : s.heap.IsStrIter it "str_ascii_iterator" x t 0)
    (hQ : ∀ h' tk tk', (∀ c o, c ≠ it → s.heap.get? c = some o → h'.get? c = some o) → Q (.int (xsum x.cps.toList : Nat) tk) { s with heap := h', toks := tk' }) :
    wpAny (model prog w) A (call (.builtin "_functools.reduce") [.builtin "_operator.xor", .ref mp, .int 0 u]) Q E s := by
  refine call_again red_kind red_plain red_entry (red_args _ _ _) ?_
  unfold Builtin.«_functools.reduce»
  refine wpAny_bind (wpAny_of_eq (a := [Value.builtin "_operator.xor", Value.ref mp, Value.int 0 u]) (by first | rfl | kernel_rfl) ?_)
  refine wpAny_bind (wpAny_tryCatch (map_pyIter hm ?_))
  refine wpAny_bind (wpAny_holding (wpAny_newTuple ?_))
  refine wpAny_bind (wpAny_holding (wpAny_newTuple ?_))
  refine wpAny_pure ⟨_, rfl, plainId_quiet loop_plain _, ?_⟩
  have z1 : (s.heap.push { cls := .type "tuple", data := .seq #[rawInt 0, rawInt 0] }).objs.size = s.heap.objs.size + 1 := Heap.size_push ..
  have up : ∀ c o, s.heap.get? c = some o → ((s.heap.push { cls := .type "tuple", data := .seq #[rawInt 0, rawInt 0] }).push { cls := .type "tuple", data := .seq #[.builtin "_operator.xor", .ref mp, .int 0 u] }).get? c = some o := fun c o q => Heap.get?_push_of_some _ (Heap.get?_push_of_some _ q)
  have lm : mp < s.heap.objs.size := Heap.lt_size hm
  have lT : T < s.heap.objs.size := Heap.lt_size hT
  have li : it < s.heap.objs.size := by obtain ⟨_, q, _⟩ := hi; exact Heap.lt_size q
  have ne : mp ≠ it := fun q => by subst q; obtain ⟨o, q, r, _⟩ := hi; rw [hm] at q; cases q; exact absurd (Value.type.inj r) (by decide)
  have ne2 : T ≠ it := fun q => by subst q; obtain ⟨o, q, r, _⟩ := hi; rw [hT] at q; cases q; exact absurd (Value.type.inj r) (by decide)
  refine red_loop (T := T) (it := it) (x := x) (t := t) hh _ 0 0 u _ rfl (Nat.zero_le _) ⟨up _ _ hm, up _ _ hT, (let ⟨o, q, r⟩ := hi; ⟨o, up _ _ q, r⟩), ⟨_, _, Heap.get?_push_of_some _ (Heap.get?_push_size _ rfl)⟩, ⟨_, _, Heap.get?_push_size _ rfl⟩, ⟨ne, Nat.ne_of_lt lm⟩, ⟨ne2, Nat.ne_of_lt lT⟩, Nat.ne_of_lt li, ⟨?_, ?_⟩⟩ ?_
  · show (s.heap.push _).objs.size ≠ it
    rw [z1]; exact Nat.ne_of_gt (Nat.lt_succ_of_lt li)
  · show (s.heap.push _).objs.size ≠ s.heap.objs.size
    rw [z1]; exact Nat.succ_ne_self _
  · intro h' tk tk' hk
    exact hQ h' tk tk' fun c o q1 q => hk c o q1 (Nat.ne_of_lt (Heap.lt_size q)) (up c o q)
end
end
/- C6 -/
section
theorem fresh_C6 : True := by
  w_top off
  k_with_none
  exact True.intro
variable {prog : Program} {w : World} {p : Program} {loose : List Str} {mean : ExcName → Option Value} {mg mb : Str → Option Value}
local macro_rules | `(tactic| k_room) => `(tactic| ktr_room)
local macro_rules | `(tactic| ktr_room) => `(tactic| (simp only [depth_under_make, depth_under_kw, depth_in1, depth_deeper] at *; omega))
local macro_rules | `(tactic| k_units) => `(tactic| ktr_units)
local macro_rules | `(tactic| k_mem) => `(tactic| first | assumption | (refine List.mem_cons_of_mem _ ?_; k_mem))

theorem codes_toNat (x : Str) : (KStt.codes x).map Int.toNat = x.cps.toList := by
  unfold KStt.codes
  rw [List.map_map]
  exact (List.map_congr_left (g := _root_.id) fun c _ => Int.toNat_natCast c).trans (List.map_id _)
theorem ascii_type {x : Str} (ha : ∀ c ∈ KStt.codes x, c < 128) : strIterType x = "str_ascii_iterator" := by
  have : x.cps.all (· < 128) = true := by
    rw [← Array.all_toList, List.all_eq_true]
    intro c hc
    have := ha c (by unfold KStt.codes; exact List.mem_map.mpr ⟨c, hc, rfl⟩)
    exact decide_eq_true (by omega)
  unfold strIterType
  rw [if_pos this]
theorem sum_map_call {A : Around} {E : Value → Shared → Prop} {s : Shared} {h₀ : Heap} {L : Addr} {m : Str → Option Value} {news : List (Addr × Obj)} {x : Str} {t : Tok} {Q : Value → Shared → Prop} (ha : ∀ c ∈ KStt.codes x, c < 128) (F : Fr h₀ L s.heap m) (N : News h₀ L s.heap news)
    (h : ∀ h' mp T it tk, Fr h₀ L h' m → News h₀ L h' news → IsMap h' mp T → IsOne h' T it → h'.IsStrIter it "str_ascii_iterator" x t 0 → h₀.get? it = none → L ≠ it → (∀ p ∈ news, p.1 ≠ it) → h'.get? it ≠ none → Q (.ref mp) { s with heap := h', toks := tk }) :
    wpAny (model prog w) A (call (.type "map") [.builtin "ord", .str x t]) Q E s := by
  refine map_call (ascii_type ha) fun h' hm hT hi hz hk => ?_
  have hf : h₀.get? s.heap.objs.size = none := by
    cases q : h₀.get? s.heap.objs.size with
    | none => rfl
    | some o' => exact absurd (Heap.lt_size (F.keep _ _ q)) (Nat.lt_irrefl _)
  exact h h' _ _ _ s.toks (F.keeps hk) (N.grown hk) hm hT hi hf (Nat.ne_of_lt F.ns.lt) (fun p hp => Nat.ne_of_lt (Heap.lt_size (N p hp).1)) (by obtain ⟨o, q, _⟩ := hi; rw [q]; simp)
theorem sum_red_call {A : Around} {E : Value → Shared → Prop} {s : Shared} {h₀ : Heap} {L mp T it : Addr} {m : Str → Option Value} {news : List (Addr × Obj)} {x : Str} {t u : Tok} {Q : Value → Shared → Prop} (hh : A.handled = none) (F : Fr h₀ L s.heap m) (N : News h₀ L s.heap news)
    (hm : IsMap s.heap mp T) (hT : IsOne s.heap T it) (hi : s.heap.IsStrIter it "str_ascii_iterator" x t 0) (h0 : h₀.get? it = none) (hL : L ≠ it) (off : ∀ p ∈ news, p.1 ≠ it)
    (h : ∀ h' tk tk', Fr h₀ L h' m → News h₀ L h' news → Q (.int (xsumI (KStt.codes x)) tk) { s with heap := h', toks := tk' }) :
    wpAny (model prog w) A (call (.builtin "_functools.reduce") [.builtin "_operator.xor", .ref mp, .int 0 u]) Q E s := by
  refine red_call hh hm hT hi fun h' tk tk' hk => ?_
  have := h h' tk tk' ⟨F.ns.at' fun o q => hk _ o hL q, fun b o q => hk b o (fun z => by rw [z, h0] at q; cases q) (F.keep b o q), F.above⟩ (fun p hp => ⟨hk _ _ (off p hp) (N p hp).1, (N p hp).2⟩)
  unfold xsumI at this
  rw [codes_toNat] at this
  exact this
local macro_rules | `(tactic| walk_at "call type:map") => `(tactic| (k_here; k_dflt (refine' sum_map_call ?a ?F ?N ?_; (case a => assumption); (case F => k_asm); (case N => k_asm); intro h' mp' T' it' tk' F' N' hm' hT' hi' h0' hL' off' _)))
local macro_rules | `(tactic| walk_at "call builtin:_functools.reduce") => `(tactic| (k_here; k_dflt (refine' sum_red_call (by rfl) ?F ?N ?m ?T ?i ?z ?L ?o ?_; (case F => k_asm); (case N => k_asm); (case m => assumption); (case T => assumption); (case i => assumption); (case z => assumption); (case L => assumption); (case o => assumption); intro h' tk' tk2' F' N')))
set_option maxHeartbeats 400000 in
theorem sum_c {x : Str} {t : Tok} (ha : ∀ c ∈ KStt.codes x, c < 128) : Claim prog w p loose mean mg mb 1 113 [.str x t] (RetV fun v => ∃ t, v = .int (xsumI (KStt.codes x)) t) := by
  unfold Claim
  intro dp un gd cn cs a ccd cl outer A₀ base h₀ L m news s Q E B F X N T hk hd hu hret
  k_dflt (refine' code_def ?k1 ?k2 ?k3 ?k4 ?k5 ?kA ?kF ?kK ?k6 ?k7 ?k8 ?k9 ?kB ?_ ?c2 ?c3 ?c4 ?c5; (case kA => exact rfl); (case kF => exact rfl); (case kK => first | rfl | assumption); (case k1 => k_asm); (case k2 => k_asm); (case k3 => k_asm); (case k4 => k_asm); (case k5 => k_asm); (case k6 => k_is); (case k7 => k_is); (case k8 => ktr_room); (case k9 => exact BindsTo.of_eq rfl); (case c5 => decide); (case kB => exact locs rfl); (case c2 => exact rfl); (case c3 => exact rfl); (case c4 => exact rfl); k_whole; intro g' L' h1' FG' F' N' B' X' T'; (try dsimp only))

  k_steps
  exact hret.use (by k_asm) (by k_asm) (fun _ h => h) ⟨_, rfl⟩
end
/- H1 -/
section
variable {prog : Program} {w : World} {p : Program} {loose : List Str} {mean : ExcName → Option Value} {mg mb : Str → Option Value}
local macro_rules | `(tactic| k_room) => `(tactic| ktr_room)
local macro_rules | `(tactic| ktr_room) => `(tactic| (simp only [depth_under_make, depth_under_kw, depth_in1, depth_deeper] at *; omega))
local macro_rules | `(tactic| k_units) => `(tactic| ktr_units)
local macro_rules | `(tactic| k_mem) => `(tactic| first | assumption | (refine List.mem_cons_of_mem _ ?_; k_mem))

open Builtin Builtin.Str in
/-- how %02X shows a number -/
def hexField (n : Int) : List Nat :=
  let f : Percent := { zero := true, width := some 2, type := 88 }
  let t := percentInt f (decide (n < 0)) ((Nat.toDigits 16 n.natAbs).map Char.toNat)
  (percentField f true t).getD t
theorem hexField_ok : ∀ k : Fin 128, (Str.ofString "*" ++ ⟨(hexField k.val).toArray⟩ : Str) = hexText (k.val : Int) ∧ (hexField k.val).length ≤ 2 := by decide +kernel
open Builtin Builtin.Str PySem.W in
theorem after_field {α β : Type} {M : Model} {A : Around} {E : Value → Shared → Prop} {s : Shared} {w : Writer} {o : Option (List Nat)} {tx : List Nat} {b : Option Value} {p : α} {r : β} {T X : Str} {N : Nat} {Q : ForInStep (α × Writer × β) → Shared → Prop} (g : KPc.Good w T N) (hb : b = none)
    (he : T ++ (⟨(o.getD tx).toArray⟩ : Str) = X) (hl : (o.getD tx).length ≤ 2) (h : ∀ w', KPc.Good w' X (N + 2) → Q (.yield (p, w', r)) s) :
    wpAny M A (match o with | none => pure (.yield (p, w.add ⟨tx.toArray⟩ b, r)) | some laid => pure (.yield (p, w.add ⟨laid.toArray⟩ none, r))) Q E s := by
  subst hb
  have step : ∀ x : List Nat, x.length ≤ 2 → T ++ (⟨x.toArray⟩ : Str) = X → KPc.Good (w.add ⟨x.toArray⟩ none) X (N + 2) := by
    intro x hx e
    have := KPc.good_add (x := ⟨x.toArray⟩) g (KPc.obj_none rfl)
    rw [e] at this
    exact KPc.good_mono this (by show N + x.toArray.size ≤ N + 2; simp; omega)
  cases o with
  | none => exact wpAny_pure (h _ (step _ hl he))
  | some l => exact wpAny_pure (h _ (step _ hl he))
open Builtin Builtin.Str PySem.W in
theorem mod02X {n : Int} {t u : Tok} (h0 : 0 ≤ n) (h1 : n < 128) : Meets («str.__mod__» ⟨[.str (Str.ofString "*%02X") t, .int n u], []⟩) (fun _ R s => ∀ t' k, R (.ok (.ret (.str (hexText n) t'))) { s with toks := k }) := by
  have hk := hexField_ok ⟨n.toNat, by omega⟩
  rw [show ((⟨n.toNat, (by omega : n.toNat < 128)⟩ : Fin 128).val : Int) = n from Int.toNat_of_nonneg h0] at hk
  have e : Str.ofString "*%02X" = ⟨#[42, 37, 48, 50, 88]⟩ := by decide +kernel
  rw [e]
  apply KPc.meets_of
  intro prog w A s Q E hQ
  rw [KPc.entry_is]
  unfold Builtin.Str.percentFormat
  refine wpAny_bind (wpAny_isInstance (typeIs_int _ _ _) F.sub_int_tuple ?_)
  refine wpAny_bind (wpAny_of_eq (a := none) rfl ?_)
  refine wpAny_bind (wpAny_of_eq (KPc.fills _ _) ?_)
  kpc_if
  refine wpAny_bind (wpAny_pure ?_)
  refine wpAny_bind ?_
  rw [KPc.range_list]
  refine KPc.start ?_
  intro w0 g0
  refine KPc.turn ?_
  kpc_check
  repeat kpc_if
  refine wpAny_pure ?_
  kpc_piece
  refine KPc.turn ?_
  kpc_check
  repeat kpc_if
  refine wpAny_bind ?_
  refine wpAny_holding ?_
  repeat kpc_if
  refine wpAny_bind (wpAny_of_eq (a := _) rfl ?_)
  repeat kpc_if
  refine wpAny_bind ?_
  repeat kpc_if
  refine wpAny_pure ?_
  refine wpAny_pure ?_
  k_dflt (refine after_field (X := hexText n) (by kpc_g) ?_ ?_ ?_ ?_)
  · exact ite_self _
  · exact hk.1
  · exact hk.2
  · intro w2 g2
    k_dflt dsimp only
    refine KPc.turn ?_
    kpc_check
    repeat kpc_if
    kpc_close
theorem hexText_mod {A : Around} {E : Value → Shared → Prop} {s : Shared} {Q : Value → Shared → Prop} {X : Str} {n : Int} {t u : Tok} (hX : X = Str.ofString "*%02X") (h0 : 0 ≤ n) (h1 : n < 128) (h : ∀ t' k, Q (.str (hexText n) t') { s with toks := k }) : wpAny (model prog w) A (binaryOp .Mod (.str X t) (.int n u)) Q E s :=
  KPc.mod_lit hX (shown (N := 2 ^ 1920) (by omega) (by omega) (Int.le_refl _)) (fun _ _ => mod02X h0 h1) h
theorem xsum_lt : ∀ (l : List Nat) (a : Nat), a < 128 → (∀ c ∈ l, c < 128) → l.foldl (fun a c => a ^^^ c) a < 128
  | [], _, h, _ => h
  | c :: l, a, h, hl => xsum_lt l _ (Nat.xor_lt_two_pow (n := 7) h (hl c (List.mem_cons_self ..))) fun d hd => hl d (List.mem_cons_of_mem _ hd)
theorem xsumI_lt {l : List Int} (h : ∀ c ∈ l, c < 128) : 0 ≤ xsumI l ∧ xsumI l < 128 := by
  have := xsum_lt (l.map Int.toNat) 0 (by decide) (by
    intro c hc
    obtain ⟨d, hd, rfl⟩ := List.mem_map.mp hc
    have := h d hd
    omega)
  unfold xsumI xsum
  omega
/-- the parts and the signs between them stay far below the line -/
def Joinable (x : Str) (ys : List Str) : Prop := (ys.map (·.length)).sum + ys.length * x.length ≤ 16777216
theorem join_led {A : Around} {E : Value → Shared → Prop} {s : Shared} {Q : Value → Shared → Prop} {h₀ : Heap} {L l : Addr} {news : List (Addr × Obj)} {vs : List Value} {ys : List Str} {k : Nat} {x : Str} {t : Tok} (N : News h₀ L s.heap news) (hl : (l, W.listOf vs.toArray k) ∈ news) (hi : StrsAre vs ys) (hok : Joinable x ys)
    (h : ∀ t' k, Q (.str (Txt.join x ys) t') { s with toks := k }) : wpAny (model prog w) A (call (.builtin "str.join") [.str x t, .ref l]) Q E s :=
  join_list ⟨_, (N _ hl).1, rfl, k, rfl⟩ hi hok h
theorem add_short {A : Around} {E : Value → Shared → Prop} {s : Shared} {Q : Value → Shared → Prop} {x y : Str} {t u : Tok} (hs : (x ++ y).length ≤ 16777216) (h : ∀ t' k, Q (.str (x ++ y) t') { s with toks := k }) : wpAny (model prog w) A (binaryOp .Add (.str x t) (.str y u)) Q E s :=
  PySem.W.KXadd.add (Nat.le_refl _) (Nat.le_refl _) (by rw [Str.length_append] at hs; exact hs) fun t' k _ => h t' k
theorem hexText_len (v : Int) : (hexText v).length = 3 := by
  unfold hexText
  rw [Str.length_append, Str.length_append]
  rfl
theorem join_len (sep : Str) : ∀ ys : List Str, (Str.join sep ys).length ≤ (ys.map (·.length)).sum + ys.length * sep.length
  | [] => Nat.zero_le _
  | [x] => by simp [Str.join]
  | x :: y :: r => by
    have := join_len sep (y :: r)
    simp only [Str.join, Str.length_append, List.map_cons, List.sum_cons, List.length_cons] at this ⊢
    rw [Nat.add_mul (r.length + 1)]
    omega
theorem tjoin_eq (sep : Str) (ys : List Str) : Txt.join sep ys = Str.join sep ys := PySem.StrLaws.glued_eq_join sep ys
theorem tjoin_len {ys : List Str} : (Txt.join (Str.ofString ",") ys).length ≤ (ys.map (·.length)).sum + ys.length := by
  have := join_len (Str.ofString ",") ys
  rw [tjoin_eq]
  rw [show (Str.ofString ",").length = 1 from by decide, Nat.mul_one] at this
  exact this
theorem str_assoc (a b c : Str) : a ++ b ++ c = a ++ (b ++ c) := Str.ext' (by simp [Str.cps_append, Array.append_assoc])
theorem len_GP : (Str.ofString "GP").length = 2 := by decide
theorem len_comma : (Str.ofString ",").length = 1 := by decide
theorem len_dollar : (Str.ofString "$").length = 1 := by decide
end
/- C7 -/
section
theorem fresh_C7 : True := by
  w_top off
  k_with_none
  exact True.intro
local macro_rules | `(tactic| walk_at "pad 0") => `(tactic| fail)
local macro_rules | `(tactic| walk_at "pad 1") => `(tactic| fail)
local macro_rules | `(tactic| walk_at "pad 2") => `(tactic| fail)
local macro_rules | `(tactic| walk_at "pad 3") => `(tactic| fail)
local macro_rules | `(tactic| walk_at "pad 4") => `(tactic| fail)
local macro_rules | `(tactic| walk_at "pad 5") => `(tactic| fail)
local macro_rules | `(tactic| walk_at "pad 6") => `(tactic| fail)
local macro_rules | `(tactic| walk_at "pad 7") => `(tactic| fail)
local macro_rules | `(tactic| walk_at "pad 8") => `(tactic| fail)
local macro_rules | `(tactic| walk_at "pad 9") => `(tactic| fail)
local macro_rules | `(tactic| walk_at "pad 10") => `(tactic| fail)
local macro_rules | `(tactic| walk_at "pad 11") => `(tactic| fail)
local macro_rules | `(tactic| walk_at "pad 12") => `(tactic| fail)
local macro_rules | `(tactic| walk_at "pad 13") => `(tactic| fail)
local macro_rules | `(tactic| walk_at "pad 14") => `(tactic| fail)
local macro_rules | `(tactic| walk_at "pad 15") => `(tactic| fail)
local macro_rules | `(tactic| walk_at "pad 16") => `(tactic| fail)
local macro_rules | `(tactic| walk_at "pad 17") => `(tactic| fail)
local macro_rules | `(tactic| walk_at "pad 18") => `(tactic| fail)
local macro_rules | `(tactic| walk_at "pad 19") => `(tactic| fail)
local macro_rules | `(tactic| walk_at "pad 20") => `(tactic| fail)
local macro_rules | `(tactic| walk_at "pad 21") => `(tactic| fail)
local macro_rules | `(tactic| walk_at "pad 22") => `(tactic| fail)
local macro_rules | `(tactic| walk_at "pad 23") => `(tactic| fail)
local macro_rules | `(tactic| walk_at "pad 24") => `(tactic| fail)
local macro_rules | `(tactic| walk_at "pad 25") => `(tactic| fail)
local macro_rules | `(tactic| walk_at "pad 26") => `(tactic| fail)
local macro_rules | `(tactic| walk_at "pad 27") => `(tactic| fail)
local macro_rules | `(tactic| walk_at "pad 28") => `(tactic| fail)
local macro_rules | `(tactic| walk_at "pad 29") => `(tactic| fail)
local macro_rules | `(tactic| walk_at "pad 30") => `(tactic| fail)
local macro_rules | `(tactic| walk_at "pad 31") => `(tactic| fail)
local macro_rules | `(tactic| walk_at "pad 32") => `(tactic| fail)
local macro_rules | `(tactic| walk_at "pad 33") => `(tactic| fail)
local macro_rules | `(tactic| walk_at "pad 34") => `(tactic| fail)
local macro_rules | `(tactic| walk_at "pad 35") => `(tactic| fail)
local macro_rules | `(tactic| walk_at "pad 36") => `(tactic| fail)
local macro_rules | `(tactic| walk_at "pad 37") => `(tactic| fail)
local macro_rules | `(tactic| walk_at "pad 38") => `(tactic| fail)
local macro_rules | `(tactic| walk_at "pad 39") => `(tactic| fail)
variable {prog : Program} {w : World} {p : Program} {loose : List Str} {mean : ExcName → Option Value} {mg mb : Str → Option Value}
local macro_rules | `(tactic| k_room) => `(tactic| ktr_room)
local macro_rules | `(tactic| ktr_room) => `(tactic| (simp only [depth_under_make, depth_under_kw, depth_in1, depth_deeper] at *; omega))
local macro_rules | `(tactic| k_units) => `(tactic| ktr_units)
local macro_rules | `(tactic| k_mem) => `(tactic| first | assumption | (refine List.mem_cons_of_mem _ ?_; k_mem))

local macro_rules | `(tactic| walk_at "getAttr ref") => `(tactic| (k_here; k_dflt (first
  | (refine' hk_own ?k1 ?k2 ?k3 ?k4 ?k6 ?k7 ?k8 ?k9 ?_; (case k3 => k_inst); (case k2 => k_asm); (case k4 => first | exact hooked_rte | exact hooked_wpl); (case k1 => k_asm); (case k6 => k_is); (case k7 => k_is); (case k8 => assumption); (case k9 => k_handed); k_whole)
  | (refine' hk_bound ?k1 ?k2 ?k3 ?k4 ?k5 ?k7 ?k8 ?k9 ?k10 ?k11 ?k12 ?_; (case k4 => k_inst); (case k2 => k_asm); (case k5 => first | exact hooked_rte | exact hooked_wpl); (case k1 => k_asm); (case k7 => k_is); (case k3 => k_asm); (case k8 => k_is); (case k9 => k_is); (case k10 => k_is); (case k11 => decide +kernel); (case k12 => exact MsgDict.no (by assumption) _ (by decide +kernel) (by decide +kernel) (by decide +kernel)); k_whole; intro q' h' F' N' l1))))
local macro_rules | `(tactic| walk_at "getMethod ref") => `(tactic| (k_here; k_dflt (refine' hk_method ?k1 ?k2 ?k3 ?k4 ?_; (case k3 => k_inst); (case k1 => k_asm); (case k2 => k_asm); (case k4 => first | exact hooked_rte | exact hooked_wpl); k_whole)))
local macro_rules | `(tactic| walk_at "subscriptTail") => `(tactic| (k_here; (with_reducible show wpAny _ _ (subscriptTail _ (PySem.Expr.Slice _ _ none _) (Value.ref _) (Value.ref _)) _ _ _); k_dflt (first
  | (refine' sl_from ?F ?N ?l ?x ?_ ?s ?t ?z; (case F => k_asm); (case N => k_asm); (case l => k_mem); (case x => first | decide | omega); (case s => with_unfolding_all rfl); (case t => kmk_pure); (case z => first | omega | assumption))
  | (refine' sl_upto ?F ?N ?l ?x ?_ ?s ?t ?z; (case F => k_asm); (case N => k_asm); (case l => k_mem); (case x => first | decide | omega); (case s => with_unfolding_all rfl); (case t => kmk_pure); (case z => first | omega | assumption))); intro D' h' F' N' l1))
local macro_rules | `(tactic| walk_at "call builtin:len") => `(tactic| (k_here; (with_reducible show wpAny _ _ (call (Value.builtin "len") [Value.ref _]) _ _ _); k_dflt (refine' led_len ?N ?l ?z ?_; (case N => k_asm); (case l => k_mem); (case z => first | omega | assumption)); intro t' tk'))
local macro_rules | `(tactic| walk_at "subscriptTail") => `(tactic| (k_here; (with_reducible show wpAny _ _ (subscriptTail _ _ (Value.ref _) (Value.int _ _)) _ _ _); k_dflt (refine' led_item_str ?N ?l ?S ?h0 ?h1 ?z ?_ ?s; (case N => k_asm); (case l => k_mem); (case S => assumption); (case h0 => omega); (case h1 => omega); (case z => omega); (case s => with_unfolding_all rfl)); intro t'))
local macro_rules | `(tactic| walk_at "binaryOp Add str str") => `(tactic| (k_here; (with_reducible show wpAny _ _ (binaryOp Operator.Add (Value.str _ _) (Value.str _ _)) _ _ _); k_dflt (refine' add_short ?z ?_; (case z => (simp only [Str.length_append, hexText_len, len_GP, len_comma, len_dollar]; omega))); intro t' tk'))

local macro_rules | `(tactic| walk_at "call ref") => `(tactic| (k_here; (with_reducible show wpAny _ _ (call (Value.ref _) []) _ _ _); k_dflt (refine' meth_of (f := .ref 189) ?n1 ?n2 ?_; (case n1 => k_asm); (case n2 => k_mem); refine' ident_c ?p0 ?p1 _ _ _ _ _ _ _ _ _ _ _ _ _ _ _ _ _ _ ?k1 ?k2 ?k3 ?k4 ?k5 ?k6 ?k7 ?k8 ⟨?im, ?_⟩; (case k1 => k_asm); (case k2 => k_asm); (case k3 => k_asm); (case k4 => k_asm); (case k5 => k_asm); (case k6 => first | rfl | assumption); (case k7 => ktr_room); (case k8 => ktr_units); (case im => exact IsMsg.mono (by assumption) (by kcf_all)); (case p0 => first | exact Or.inl rfl | exact Or.inr rfl); (case p1 => assumption); intro h' tk' v' F' N' hv'; obtain ⟨t', e'⟩ := hv'; subst e')))

local macro_rules | `(tactic| walk_at "call ref") => `(tactic| ((with_reducible show wpAny _ _ (call (Value.ref 113) [_]) _ _ _); k_dflt (refine call_of ?_; refine' sum_c ?p0 _ _ _ _ _ _ _ _ _ _ _ _ _ _ _ _ _ _ ?k1 ?k2 ?k3 ?k4 ?k5 ?k6 ?k7 ?k8 ?_; (case k1 => k_asm); (case k2 => k_asm); (case k3 => k_asm); (case k4 => k_asm); (case k5 => k_asm); (case k6 => first | rfl | assumption); (case k7 => ktr_room); (case k8 => ktr_units); (case p0 => assumption); intro h' tk' v' F' N' hv'; obtain ⟨t', e'⟩ := hv'; subst e')))

local macro_rules | `(tactic| walk_at "call builtin:str.join") => `(tactic| (k_here; k_dflt (refine' join_led ?N ?l ?S ?k ?_; (case N => k_asm); (case l => k_mem); (case S => with_reducible assumption); (case k => with_reducible assumption)); intro t' tk'))
local macro_rules | `(tactic| walk_at "binaryOp Mod str int") => `(tactic| (k_here; k_dflt (refine' hexText_mod ?X ?a ?b ?_; (case X => (first | rfl | decide +kernel)); (case a => assumption); (case b => assumption)); intro t' tk'))
/-- what a sentence says: its head, its fields -/
def bodyOf (kd : Str) (fs : List Str) : Str := Str.ofString "GP" ++ kd ++ Str.ofString "," ++ Txt.join (Str.ofString ",") fs
/-- its line -/
def lineOf (b : Bool) (x : Str) : Str := Str.ofString "$" ++ (if b then x ++ hexOf x else x)
set_option maxHeartbeats 800000 in
theorem render_c {x C : Addr} {kd : Str} {fs : List Str} {b : Bool} (hC : C = 269 ∨ C = 287) (hkd : kd.length ≤ 3) (hfs : fs.length ≤ 100) (hsum : (fs.map (·.length)).sum ≤ 1000) (ha : ∀ c ∈ KStt.codes (bodyOf kd fs), c < 128) :
    Claim prog w p loose mean mg mb 2 154 [.ref x, .bool b, .bool true, .bool false] (fun h₀ L m news s Q => IsMsg news x C kd fs ∧ RetS (lineOf b (bodyOf kd fs)) h₀ L m news s Q) := by
  unfold Claim
  intro dp un gd cn cs a ccd cl outer A₀ base h₀ L m news s Q E B F X N T hk hd hu hret
  k_dflt (refine' code_def ?k1 ?k2 ?k3 ?k4 ?k5 ?kA ?kF ?kK ?k6 ?k7 ?k8 ?k9 ?kB ?_ ?c2 ?c3 ?c4 ?c5; (case kA => exact rfl); (case kF => exact rfl); (case kK => first | rfl | assumption); (case k1 => k_asm); (case k2 => k_asm); (case k3 => k_asm); (case k4 => k_asm); (case k5 => k_asm); (case k6 => k_is); (case k7 => k_is); (case k8 => ktr_room); (case k9 => first | exact BindsTo.of_eq rfl | exact binds_K (by k_in) rfl (by k_is) rfl rfl rfl); (case c5 => decide); (case kB => exact locs rfl); (case c2 => exact rfl); (case c3 => exact rfl); (case c4 => exact rfl); k_whole; intro g' L' h1' FG' F' N' B' X' T'; (try dsimp only))

  obtain ⟨im, hret⟩ := hret
  obtain ⟨dx, es, n, l, vs, k, m1, m2, m3, m4, MD⟩ := id im
  have h1 := MD.da
  have h3 := StrsAre.len m4
  have hj : Joinable (Str.ofString ",") fs := by unfold Joinable; rw [show (Str.ofString ",").length = 1 from by decide]; omega
  have h6 := tjoin_len (ys := fs)
  have h7 : (hexText (xsumI (KStt.codes (bodyOf kd fs)))).length = 3 := hexText_len _
  have h4 := (xsumI_lt ha).1
  have h5 := (xsumI_lt ha).2
  unfold bodyOf at *
  rcases hC with rfl | rfl
  all_goals cases b
  all_goals k_steps
  all_goals exact hret.use (by k_asm) (by k_asm) (by kcf_all) ⟨_, rfl⟩
set_option maxHeartbeats 800000 in
theorem bare_c {x C : Addr} {kd : Str} {fs : List Str} (hC : C = 269 ∨ C = 287) (hkd : kd.length ≤ 3) (hfs : fs.length ≤ 100) (hsum : (fs.map (·.length)).sum ≤ 1000) :
    Claim prog w p loose mean mg mb 2 154 [.ref x, .bool false, .bool false, .bool false] (fun h₀ L m news s Q => IsMsg news x C kd fs ∧ RetS (bodyOf kd fs) h₀ L m news s Q) := by
  unfold Claim
  intro dp un gd cn cs a ccd cl outer A₀ base h₀ L m news s Q E B F X N T hk hd hu hret
  k_dflt (refine' code_def ?k1 ?k2 ?k3 ?k4 ?k5 ?kA ?kF ?kK ?k6 ?k7 ?k8 ?k9 ?kB ?_ ?c2 ?c3 ?c4 ?c5; (case kA => exact rfl); (case kF => exact rfl); (case kK => first | rfl | assumption); (case k1 => k_asm); (case k2 => k_asm); (case k3 => k_asm); (case k4 => k_asm); (case k5 => k_asm); (case k6 => k_is); (case k7 => k_is); (case k8 => ktr_room); (case k9 => first | exact BindsTo.of_eq rfl | exact binds_K (by k_in) rfl (by k_is) rfl rfl rfl); (case c5 => decide); (case kB => exact locs rfl); (case c2 => exact rfl); (case c3 => exact rfl); (case c4 => exact rfl); k_whole; intro g' L' h1' FG' F' N' B' X' T'; (try dsimp only))

  obtain ⟨im, hret⟩ := hret
  obtain ⟨dx, es, n, l, vs, k, m1, m2, m3, m4, MD⟩ := id im
  have h1 := MD.da
  have h3 := StrsAre.len m4
  have hj : Joinable (Str.ofString ",") fs := by unfold Joinable; rw [show (Str.ofString ",").length = 1 from by decide]; omega
  have h6 := tjoin_len (ys := fs)
  unfold bodyOf at *
  rcases hC with rfl | rfl
  all_goals k_steps
  all_goals exact hret.use (by k_asm) (by k_asm) (by kcf_all) ⟨_, rfl⟩
end
/- H2 -/
section
variable {prog : Program} {w : World} {p : Program} {loose : List Str} {mean : ExcName → Option Value} {mg mb : Str → Option Value}
local macro_rules | `(tactic| k_room) => `(tactic| ktr_room)
local macro_rules | `(tactic| ktr_room) => `(tactic| (simp only [depth_under_make, depth_under_kw, depth_in1, depth_deeper] at *; omega))
local macro_rules | `(tactic| k_units) => `(tactic| ktr_units)
local macro_rules | `(tactic| k_mem) => `(tactic| first | assumption | (refine List.mem_cons_of_mem _ ?_; k_mem))

section
open PySem.NumText PySem.W.KIN
theorem wp_text16 {M : Model} {A : Around} {E : Value → Shared → Prop} {s : Shared} {Q : Value → Shared → Prop} {v : Value} {text : List Nat} {n : Int}
    (hs : (text.takeWhile (· != 0)).length ≤ 640) (hr : (int_private% "readNumeral") 0 16 (text.takeWhile (· != 0)) = (int_private% "Numeral.value") n)
    (ha : ((text.takeWhile (· != 0)).length == text.length) = true) (h : Q (.int n s.toks) { s with toks := s.toks + 1 }) :
    wpAny M A ((int_private% "intFromText") v text 16) Q E s := by
  obtain ⟨hp, g, d, tk, os⟩ := s
  repeat (any_goals (first
    | assumption
    | (with_reducible refine wpAny_ite_true (decide_eq_true hs) ?_)
    | (with_reducible refine wpAny_ite_true (decide_eq_true ha) ?_)
    | wp_step))
  all_goals (try rw [hr])
  all_goals (try dsimp only)
  repeat (any_goals (first
    | assumption
    | (with_reducible refine wpAny_ite_true (decide_eq_true hs) ?_)
    | (with_reducible refine wpAny_ite_true (decide_eq_true ha) ?_)
    | wp_step))
set_option maxHeartbeats 4000000 in
theorem gives_text16 {x : PySem.Str} {u t : Tok} {n : Int} (hs : (numSeenOf x).length ≤ 640) (hr : (int_private% "readNumeral") 0 16 (numSeenOf x) = (int_private% "Numeral.value") n ∧ ((numSeenOf x).length == (numTextOf x).length) = true) :
    Gives (Builtin.«int.__new__» ⟨[.type "int", .str x u, .int 16 t], []⟩) (.int n) :=
  .of_wp fun M A E s Q h => by
    obtain ⟨hp, g, d, tk, os⟩ := s
    have f1 := F.conv_sub_int
    have f2 := F.madeHere_int
    have f6 : typeOf (.str x u) = pure (.type "str") := rfl
    have hk := Hid.mk (And.intro hs hr)
    clear hs hr
    repeat (any_goals (first
      | assumption
      | ((with_reducible show wpAny _ _ ((int_private% "intFromText") _ _ _) _ _ _); refine wp_text16 hk.out.1 hk.out.2.1 hk.out.2.2 ?_)
      | wp_step))
    all_goals first | exact ⟨_, rfl, h⟩ | skip
theorem typeCall_int_2 (a b : Value) : checkTypeCall "int" ⟨[a, b], []⟩ = pure () := by kernel_rfl
theorem newCall_int_2 (a b : Value) : checkBuiltinCall "int.__new__" ⟨[.type "int", a, b], []⟩ = pure () := by kernel_rfl
theorem call_int16 {A : Around} {E : Value → Shared → Prop} {s : Shared} {Q : Value → Shared → Prop} {x : PySem.Str} {u t : Tok} {n : Int} (hs : (numSeenOf x).length ≤ 640) (hr : (int_private% "readNumeral") 0 16 (numSeenOf x) = (int_private% "Numeral.value") n ∧ ((numSeenOf x).length == (numTextOf x).length) = true)
    (h : Q (.int n s.toks) { s with toks := s.toks + 1 }) : wpAny (model prog w) A (call (.type "int") [.str x u, .int 16 t]) Q E s :=
  callType_new F.called_int F.newNe_int (typeCall_int_2 _ _) (newCall_int_2 _ _) (fun obj => F.args_object_init_3 obj _ _) F.entry_int_new (gives_text16 hs hr).meets (show (Made.int n).post _ s from ⟨rfl, h⟩)
/-- a number's two signs -/
def hexTail (v : Int) : Str := Txt.item (Str.ofString "0123456789ABCDEF") (v.fdiv 16) ++ Txt.item (Str.ofString "0123456789ABCDEF") (v.fmod 16)
theorem hexText_tail (v : Int) : hexText v = Str.ofString "*" ++ hexTail v := str_assoc _ _ _
theorem hex_read : ∀ k : Fin 128, numSeenOf (hexTail (k.val : Int)) = (hexTail (k.val : Int)).cps.toList ∧ numTextOf (hexTail (k.val : Int)) = (hexTail (k.val : Int)).cps.toList ∧ sign ((hexTail (k.val : Int)).cps.toList.dropWhile blank) = (false, (hexTail (k.val : Int)).cps.toList) ∧
    based 16 (hexTail (k.val : Int)).cps.toList = (16, false, (hexTail (k.val : Int)).cps.toList) ∧ (digits? 16 (((hexTail (k.val : Int)).cps.toList.reverse.dropWhile blank).reverse)).map (fun ds => ds.foldl (fun acc d => acc * 16 + d) 0) = some k.val := by decide +kernel
theorem hex_facts : ∀ k : Fin 128, (hexTail (k.val : Int)).length = 2 ∧ Txt.slice (hexTail (k.val : Int)) none (some 2) = hexTail (k.val : Int) ∧ Txt.slice (hexTail (k.val : Int)) (some 2) none = Str.ofString "" ∧
    Txt.stripChars (hexTail (k.val : Int)) (Str.ofString "0123456789ABCDEFabcdef") = Str.ofString "" ∧ (hexTail (k.val : Int) == Str.ofString "") = false := by decide +kernel
theorem hex_num {v : Int} (h0 : 0 ≤ v) (h1 : v < 128) : (numSeenOf (hexTail v)).length ≤ 640 ∧ (int_private% "readNumeral") 0 16 (numSeenOf (hexTail v)) = (int_private% "Numeral.value") v ∧ ((numSeenOf (hexTail v)).length == (numTextOf (hexTail v)).length) = true := by
  obtain ⟨k, rfl⟩ := Int.eq_ofNat_of_zero_le h0
  obtain ⟨e1, e2, e3, e4, e5⟩ := hex_read ⟨k, by omega⟩
  have l := (hex_facts ⟨k, by omega⟩).1
  dsimp only at e1 e2 e3 e4 e5 l
  refine ⟨by rw [e1]; show (hexTail k).cps.size ≤ 640; have : (hexTail k).cps.size = 2 := l; omega, ?_, by rw [e1, e2, beq_self_eq_true]⟩
  rw [e1, readNumeral_eq, e3]
  dsimp only
  rw [e4]
  dsimp only
  generalize digits? 16 _ = o at e5 ⊢
  cases o with
  | none => cases e5
  | some ds =>
    have e6 : ds.foldl (fun acc d => acc * 16 + d) 0 = k := Option.some.inj e5
    rw [← e6]
    rfl
end
end
/- H3 -/
section
variable {prog : Program} {w : World} {p : Program} {loose : List Str} {mean : ExcName → Option Value} {mg mb : Str → Option Value}
local macro_rules | `(tactic| k_room) => `(tactic| ktr_room)
local macro_rules | `(tactic| ktr_room) => `(tactic| (simp only [depth_under_make, depth_under_kw, depth_in1, depth_deeper] at *; omega))
local macro_rules | `(tactic| k_units) => `(tactic| ktr_units)
local macro_rules | `(tactic| k_mem) => `(tactic| first | assumption | (refine List.mem_cons_of_mem _ ?_; k_mem))

section
variable {A : Around} {E : Value → Shared → Prop} {s : Shared} {Q : Value → Shared → Prop} {value slice : PySem.Expr} {x y : Str} {t : Tok} {h₀ : Heap} {L : Addr} {m : Str → Option Value} {news : List (Addr × Obj)}
theorem sub_ns {j : Int} {uj : Tok} (hF : Fr h₀ L s.heap m) (hN : News h₀ L s.heap news) (e : Txt.slice x none (some j) = y) (hsz : x.length ≤ sizeLine) (h : ∀ h' t' k, Fr h₀ L h' m → News h₀ L h' news → Q (.str y t') { s with heap := h', toks := k })
    (hs : subscripted slice false (.str x t) (.ref s.heap.objs.size) = operate [.ref s.heap.objs.size, .str x t] (getItem (.str x t) (.ref s.heap.objs.size)) := by with_unfolding_all rfl)
    (ht : ∀ r, letTemporaryGo value (.str x t) r = pure () := by intro _; with_unfolding_all rfl) :
    wpAny (model prog w) A (subscriptTail value slice (.str x t) (.ref s.heap.objs.size)) Q E { s with heap := s.heap.push { cls := .type "slice", data := .fields #[.none, .int j uj, .none] } } := by
  subst e
  exact slice_strN_ns hF hN h hs ht hsz
theorem sub_sn {i : Int} {ui : Tok} (hF : Fr h₀ L s.heap m) (hN : News h₀ L s.heap news) (e : Txt.slice x (some i) none = y) (hsz : x.length ≤ sizeLine) (h : ∀ h' t' k, Fr h₀ L h' m → News h₀ L h' news → Q (.str y t') { s with heap := h', toks := k })
    (hs : subscripted slice false (.str x t) (.ref s.heap.objs.size) = operate [.ref s.heap.objs.size, .str x t] (getItem (.str x t) (.ref s.heap.objs.size)) := by with_unfolding_all rfl)
    (ht : ∀ r, letTemporaryGo value (.str x t) r = pure () := by intro _; with_unfolding_all rfl) :
    wpAny (model prog w) A (subscriptTail value slice (.str x t) (.ref s.heap.objs.size)) Q E { s with heap := s.heap.push { cls := .type "slice", data := .fields #[.int i ui, .none, .none] } } := by
  subst e
  exact slice_strN_sn hF hN h hs ht hsz
theorem sub_ss {i j : Int} {ui uj : Tok} (hF : Fr h₀ L s.heap m) (hN : News h₀ L s.heap news) (e : Txt.slice x (some i) (some j) = y) (hsz : x.length ≤ sizeLine) (h : ∀ h' t' k, Fr h₀ L h' m → News h₀ L h' news → Q (.str y t') { s with heap := h', toks := k })
    (hs : subscripted slice false (.str x t) (.ref s.heap.objs.size) = operate [.ref s.heap.objs.size, .str x t] (getItem (.str x t) (.ref s.heap.objs.size)) := by with_unfolding_all rfl)
    (ht : ∀ r, letTemporaryGo value (.str x t) r = pure () := by intro _; with_unfolding_all rfl) :
    wpAny (model prog w) A (subscriptTail value slice (.str x t) (.ref s.heap.objs.size)) Q E { s with heap := s.heap.push { cls := .type "slice", data := .fields #[.int i ui, .int j uj, .none] } } := by
  subst e
  exact slice_strN_ss hF hN h hs ht hsz
theorem split_led {parts : List Str} {u : Tok} (hF : Fr h₀ L s.heap m) (hN : News h₀ L s.heap news) (hy : (y.length == 0) = false) (e : Txt.split x y = parts) (hsz : x.length + 2 ≤ sizeLine)
    (h : ∀ D vs h' k, StrsAre vs parts → Fr h₀ L h' m → News h₀ L h' ((D, W.listOf vs.toArray 0) :: news) → (∀ p ∈ news, p.1 < D) → Q (.ref D) { s with heap := h', toks := k }) :
    wpAny (model prog w) A (call (.builtin "str.split") [.str x t, .str y u]) Q E s :=
  PySem.W.KSpl.split1 hF hN hy (fun D l h' k e' S F N lt => h D _ h' k (by rw [← e, ← e']; exact S) F N lt) hsz
theorem len_eq {k : Int} (e : (x.length : Int) = k) (hk : k < 9223372036854775808) (h : ∀ t' k', Q (.int k t') { s with toks := k' }) : wpAny (model prog w) A (call (.builtin "len") [.str x t]) Q E s := by
  subst e
  exact SBL.len hk (h _ _)
theorem truthy_len {Q : Bool → Shared → Prop} {k : Int} (e : (x.length : Int) = k) (hk : k < 9223372036854775808) (h : ∀ k', Q (k != 0) { s with toks := k' }) : wpAny (model prog w) A (PySem.truthy (.str x t)) Q E s := by
  subst e
  exact SBL.truthy hk (h _)
end
theorem truthy_cls {A : Around} {E : Value → Shared → Prop} {s : Shared} {K : Frag} {h₀ : Heap} {L C : Addr} {m : Str → Option Value} {Q : Bool → Shared → Prop} (F : Fr h₀ L s.heap m) (X₀ : K.In h₀) (ht : typeIn K (.ref C) = some (.type "type")) (h : Q true s) : wpAny (model prog w) A (PySem.truthy (.ref C)) Q E s := by
  have X := X₀.keeps F.keep
  have hs : findIn K (.type "type") "__bool__" = some none := by show fastLookup "type" "__bool__" = some none; decide +kernel
  have hl : findIn K (.type "type") "__len__" = some none := by show fastLookup "type" "__len__" = some none; decide +kernel
  unfold PySem.truthy
  refine wpAny_bind (m := callSpecial? (.ref C) (Str.ofString "__bool__")) (wpAny_bind (wpAny_bind ((looks_typeIn X ht).here ((looks_findIn X hs).here (wpAny_pure ?_)))))
  refine wpAny_bind (wpAny_bind ((looks_typeIn X ht).here ((looks_findIn X hl).here ?_)))
  exact wpAny_pure h
theorem list_of {A : Around} {E : Value → Shared → Prop} {s : Shared} {h₀ : Heap} {L l : Addr} {m : Str → Option Value} {news : List (Addr × Obj)} {vs : List Value} {k : Nat} {Q : Value → Shared → Prop} (F : Fr h₀ L s.heap m) (N : News h₀ L s.heap news) (hl : (l, W.listOf vs.toArray k) ∈ news) (hz : vs.length ≤ 100000)
    (h : ∀ D c h', Fr h₀ L h' m → News h₀ L h' ((D, W.listOf vs.toArray c) :: news) → (∀ q ∈ news, q.1 < D) → Q (.ref D) { s with heap := h' }) : wpAny (model prog w) A (call (.type "list") [.ref l]) Q E s :=
  PySem.W.kup_listOf F N hl rfl h (by rw [sizeLine_eq]; simp; omega)
end
/- C8 -/
section
theorem fresh_C8 : True := by
  w_top off
  k_with_none
  exact True.intro
variable {prog : Program} {w : World} {p : Program} {loose : List Str} {mean : ExcName → Option Value} {mg mb : Str → Option Value}
local macro_rules | `(tactic| k_room) => `(tactic| ktr_room)
local macro_rules | `(tactic| ktr_room) => `(tactic| (simp only [depth_under_make, depth_under_kw, depth_in1, depth_deeper] at *; omega))
local macro_rules | `(tactic| k_units) => `(tactic| ktr_units)
local macro_rules | `(tactic| k_mem) => `(tactic| first | assumption | (refine List.mem_cons_of_mem _ ?_; k_mem))

local macro_rules | `(tactic| walk_at "getAttr ref") => `(tactic| (k_here; k_dflt (first
  | (refine' hk_own ?k1 ?k2 ?k3 ?k4 ?k6 ?k7 ?k8 ?k9 ?_; (case k3 => k_inst); (case k2 => k_asm); (case k4 => first | exact hooked_rte | exact hooked_wpl); (case k1 => k_asm); (case k6 => k_is); (case k7 => k_is); (case k8 => assumption); (case k9 => k_handed); k_whole)
  | (refine' hk_bound ?k1 ?k2 ?k3 ?k4 ?k5 ?k7 ?k8 ?k9 ?k10 ?k11 ?k12 ?_; (case k4 => k_inst); (case k2 => k_asm); (case k5 => first | exact hooked_rte | exact hooked_wpl); (case k1 => k_asm); (case k7 => k_is); (case k3 => k_asm); (case k8 => k_is); (case k9 => k_is); (case k10 => k_is); (case k11 => decide +kernel); (case k12 => exact MsgDict.no (by assumption) _ (by decide +kernel) (by decide +kernel) (by decide +kernel)); k_whole; intro q' h' F' N' l1))))
local macro_rules | `(tactic| walk_at "getMethod ref") => `(tactic| (k_here; k_dflt (refine' hk_method ?k1 ?k2 ?k3 ?k4 ?_; (case k3 => k_inst); (case k1 => k_asm); (case k2 => k_asm); (case k4 => first | exact hooked_rte | exact hooked_wpl); k_whole)))
local macro_rules | `(tactic| walk_at "subscriptTail") => `(tactic| (k_here; (with_reducible show wpAny _ _ (subscriptTail _ (PySem.Expr.Slice _ _ none _) (Value.ref _) (Value.ref _)) _ _ _); k_dflt (first
  | (refine' sl_from ?F ?N ?l ?x ?_ ?s ?t ?z; (case F => k_asm); (case N => k_asm); (case l => k_mem); (case x => first | decide | omega); (case s => with_unfolding_all rfl); (case t => kmk_pure); (case z => first | omega | assumption))
  | (refine' sl_upto ?F ?N ?l ?x ?_ ?s ?t ?z; (case F => k_asm); (case N => k_asm); (case l => k_mem); (case x => first | decide | omega); (case s => with_unfolding_all rfl); (case t => kmk_pure); (case z => first | omega | assumption))); intro D' h' F' N' l1))
local macro_rules | `(tactic| walk_at "call builtin:len") => `(tactic| (k_here; (with_reducible show wpAny _ _ (call (Value.builtin "len") [Value.ref _]) _ _ _); k_dflt (refine' led_len ?N ?l ?z ?_; (case N => k_asm); (case l => k_mem); (case z => first | omega | assumption)); intro t' tk'))
local macro_rules | `(tactic| walk_at "subscriptTail") => `(tactic| (k_here; (with_reducible show wpAny _ _ (subscriptTail _ _ (Value.ref _) (Value.int _ _)) _ _ _); k_dflt (refine' led_item_str ?N ?l ?S ?h0 ?h1 ?z ?_ ?s; (case N => k_asm); (case l => k_mem); (case S => assumption); (case h0 => omega); (case h1 => omega); (case z => omega); (case s => with_unfolding_all rfl)); intro t'))
local macro_rules | `(tactic| walk_at "binaryOp Add str str") => `(tactic| (k_here; (with_reducible show wpAny _ _ (binaryOp Operator.Add (Value.str _ _) (Value.str _ _)) _ _ _); k_dflt (refine' add_short ?z ?_; (case z => (simp only [Str.length_append, hexText_len, len_GP, len_comma, len_dollar]; omega))); intro t' tk'))
local macro_rules | `(tactic| walk_at "ite") => `(tactic| (k_closed; k_dflt (first | refine ite_pos (by decide +kernel) ?_ | refine ite_neg (by decide +kernel) ?_)))

local macro_rules | `(tactic| walk_at "call type:list") => `(tactic| (k_here; (with_reducible show wpAny _ _ (call (Value.type _) [Value.ref _]) _ _ _); k_dflt (refine' list_of ?F ?N ?b ?z ?_; (case F => k_asm); (case N => k_asm); (case b => k_mem); (case z => omega)); intro D' c' h' F' N' l1; (try k_lt l1)))
/-- a new sentence comes back -/
def RetM (C : Addr) (kd : Str) (fs : List Str) (h₀ : Heap) (L : Addr) (m : Str → Option Value) (news : List (Addr × Obj)) (s : Shared) (Q : Value → Shared → Prop) : Prop :=
  ∀ h' tk x dx es n l vs k, Fr h₀ L h' m → News h₀ L h' ((l, W.listOf vs.toArray k) :: (x, instObj C dx) :: (dx, dictOf es n) :: news) → (∀ p ∈ news, p.1 < dx) → (∀ p ∈ news, p.1 < x) → (∀ p ∈ news, p.1 < l) → StrsAre vs fs → MsgDict es kd l → Q (.ref x) { s with heap := h', toks := tk }
theorem RetM.use {C : Addr} {kd : Str} {fs : List Str} {h₀ : Heap} {L : Addr} {m : Str → Option Value} {news : List (Addr × Obj)} {s : Shared} {Q : Value → Shared → Prop} (R : RetM C kd fs h₀ L m news s Q) {h' : Heap} {tk x dx n l k : Nat} {es : List DictEntry} {vs : List Value} (F : Fr h₀ L h' m)
    {news' : List (Addr × Obj)} (N : News h₀ L h' news') (sub : ∀ p ∈ (l, W.listOf vs.toArray k) :: (x, instObj C dx) :: (dx, dictOf es n) :: news, p ∈ news') (a : ∀ p ∈ news, p.1 < dx) (b : dx < x) (c : x < l) (S : StrsAre vs fs) (M : MsgDict es kd l) : Q (.ref x) { s with heap := h', toks := tk } :=
  R h' tk x dx es n l vs k F (fun p hp => N p (sub p hp)) a (fun p hp => Nat.lt_trans (a p hp) b) (fun p hp => Nat.lt_trans (Nat.lt_trans (a p hp) b) c) S M
theorem msg_dict {h1 h2 h3 : Int} {u1 u2 u3 t1 t2 : Tok} {kd : Str} {l : Addr} : MsgDict [⟨h1, .str (Str.ofString "talker") u1, .str (Str.ofString "GP") t1⟩, ⟨h2, .str (Str.ofString "sentence_type") u2, .str kd t2⟩, ⟨h3, .str (Str.ofString "data") u3, .ref l⟩] kd l where
  tl := ⟨t1, rfl⟩
  st := ⟨t2, rfl⟩
  da := rfl
  no := fun name a b c => by
    have e : ∀ (x : Str) (t : Tok), name ≠ x → (Value.str x t).isStr name = false := fun x t h => by
      unfold Value.isStr
      first
        | exact beq_eq_false_iff_ne.mpr h
        | exact beq_eq_false_iff_ne.mpr (Ne.symm h)
    unfold getL
    simp only [List.find?_cons, e _ _ a, e _ _ b, e _ _ c, List.find?_nil]
    rfl
set_option maxHeartbeats 4000000 in
theorem make_c {kd : Str} {fs : List Str} {C l : Addr} {vs : List Value} {k : Nat} {t1 t2 : Tok} (hC : C = 269 ∨ C = 287) (hS : StrsAre vs fs) (hz : fs.length ≤ 100)
    {dp un : Nat} {gd : Option (List Code)} {cn : Str} {cs : Scope} {a : Addr} {ccd : Value} {cl : List (Str × Addr)} {outer : List Env} {A₀ : Around} {base h₀ : Heap} {L : Addr} {m : Str → Option Value} {news : List (Addr × Obj)} {s : Shared} {Q E : Value → Shared → Prop}
    (B : Below A₀ base outer h₀) (F : Fr h₀ L s.heap m) (X : (Mine.hd.heap_39 w.params).In h₀) (N : News h₀ L s.heap news) (T : Top p loose mean mg mb h₀) (hk : cs.kind = .function) (hd : dp + 2 * 2 < recursionLimit) (hu : un + 100 * 2 < cLine)
    (hl : (l, W.listOf vs.toArray k) ∈ news) (hret : RetM C kd fs h₀ L m news s Q) :
    wpAny (model prog w) (ktrTop dp un gd cn cs L a ccd cl outer) (call (.ref C) [.str (Str.ofString "GP") t1, .str kd t2, .ref l]) Q E s := by
  obtain ⟨ck, cnm, cg, cc⟩ := cs
  have hz' := StrsAre.len hS
  dsimp only at hk
  subst hk
  rcases hC with rfl | rfl
  all_goals k_steps
  all_goals exact hret.use (by k_asm) (by k_asm) (fun _ h => h) (by assumption) (by assumption) (by omega) hS msg_dict
end
/- C9 -/
section
theorem fresh_C9 : True := by
  w_top off
  k_with_none
  exact True.intro
local macro_rules | `(tactic| walk_at "pad 0") => `(tactic| fail)
local macro_rules | `(tactic| walk_at "pad 1") => `(tactic| fail)
local macro_rules | `(tactic| walk_at "pad 2") => `(tactic| fail)
local macro_rules | `(tactic| walk_at "pad 3") => `(tactic| fail)
local macro_rules | `(tactic| walk_at "pad 4") => `(tactic| fail)
local macro_rules | `(tactic| walk_at "pad 5") => `(tactic| fail)
local macro_rules | `(tactic| walk_at "pad 6") => `(tactic| fail)
local macro_rules | `(tactic| walk_at "pad 7") => `(tactic| fail)
local macro_rules | `(tactic| walk_at "pad 8") => `(tactic| fail)
local macro_rules | `(tactic| walk_at "pad 9") => `(tactic| fail)
local macro_rules | `(tactic| walk_at "pad 10") => `(tactic| fail)
local macro_rules | `(tactic| walk_at "pad 11") => `(tactic| fail)
local macro_rules | `(tactic| walk_at "pad 12") => `(tactic| fail)
local macro_rules | `(tactic| walk_at "pad 13") => `(tactic| fail)
local macro_rules | `(tactic| walk_at "pad 14") => `(tactic| fail)
local macro_rules | `(tactic| walk_at "pad 15") => `(tactic| fail)
local macro_rules | `(tactic| walk_at "pad 16") => `(tactic| fail)
local macro_rules | `(tactic| walk_at "pad 17") => `(tactic| fail)
local macro_rules | `(tactic| walk_at "pad 18") => `(tactic| fail)
local macro_rules | `(tactic| walk_at "pad 19") => `(tactic| fail)
local macro_rules | `(tactic| walk_at "pad 20") => `(tactic| fail)
local macro_rules | `(tactic| walk_at "pad 21") => `(tactic| fail)
local macro_rules | `(tactic| walk_at "pad 22") => `(tactic| fail)
local macro_rules | `(tactic| walk_at "pad 23") => `(tactic| fail)
local macro_rules | `(tactic| walk_at "pad 24") => `(tactic| fail)
local macro_rules | `(tactic| walk_at "pad 25") => `(tactic| fail)
local macro_rules | `(tactic| walk_at "pad 26") => `(tactic| fail)
local macro_rules | `(tactic| walk_at "pad 27") => `(tactic| fail)
local macro_rules | `(tactic| walk_at "pad 28") => `(tactic| fail)
local macro_rules | `(tactic| walk_at "pad 29") => `(tactic| fail)
local macro_rules | `(tactic| walk_at "pad 30") => `(tactic| fail)
local macro_rules | `(tactic| walk_at "pad 31") => `(tactic| fail)
local macro_rules | `(tactic| walk_at "pad 32") => `(tactic| fail)
local macro_rules | `(tactic| walk_at "pad 33") => `(tactic| fail)
local macro_rules | `(tactic| walk_at "pad 34") => `(tactic| fail)
local macro_rules | `(tactic| walk_at "pad 35") => `(tactic| fail)
local macro_rules | `(tactic| walk_at "pad 36") => `(tactic| fail)
local macro_rules | `(tactic| walk_at "pad 37") => `(tactic| fail)
local macro_rules | `(tactic| walk_at "pad 38") => `(tactic| fail)
local macro_rules | `(tactic| walk_at "pad 39") => `(tactic| fail)
variable {prog : Program} {w : World} {p : Program} {loose : List Str} {mean : ExcName → Option Value} {mg mb : Str → Option Value}
local macro_rules | `(tactic| k_room) => `(tactic| ktr_room)
local macro_rules | `(tactic| ktr_room) => `(tactic| (simp only [depth_under_make, depth_under_kw, depth_in1, depth_deeper] at *; omega))
local macro_rules | `(tactic| k_units) => `(tactic| ktr_units)
local macro_rules | `(tactic| k_mem) => `(tactic| first | assumption | (refine List.mem_cons_of_mem _ ?_; k_mem))

local macro_rules | `(tactic| walk_at "getAttr ref") => `(tactic| (k_here; k_dflt (first
  | (refine' hk_own ?k1 ?k2 ?k3 ?k4 ?k6 ?k7 ?k8 ?k9 ?_; (case k3 => k_inst); (case k2 => k_asm); (case k4 => first | exact hooked_rte | exact hooked_wpl); (case k1 => k_asm); (case k6 => k_is); (case k7 => k_is); (case k8 => assumption); (case k9 => k_handed); k_whole)
  | (refine' hk_bound ?k1 ?k2 ?k3 ?k4 ?k5 ?k7 ?k8 ?k9 ?k10 ?k11 ?k12 ?_; (case k4 => k_inst); (case k2 => k_asm); (case k5 => first | exact hooked_rte | exact hooked_wpl); (case k1 => k_asm); (case k7 => k_is); (case k3 => k_asm); (case k8 => k_is); (case k9 => k_is); (case k10 => k_is); (case k11 => decide +kernel); (case k12 => exact MsgDict.no (by assumption) _ (by decide +kernel) (by decide +kernel) (by decide +kernel)); k_whole; intro q' h' F' N' l1))))
local macro_rules | `(tactic| walk_at "getMethod ref") => `(tactic| (k_here; k_dflt (refine' hk_method ?k1 ?k2 ?k3 ?k4 ?_; (case k3 => k_inst); (case k1 => k_asm); (case k2 => k_asm); (case k4 => first | exact hooked_rte | exact hooked_wpl); k_whole)))
local macro_rules | `(tactic| walk_at "subscriptTail") => `(tactic| (k_here; (with_reducible show wpAny _ _ (subscriptTail _ (PySem.Expr.Slice _ _ none _) (Value.ref _) (Value.ref _)) _ _ _); k_dflt (first
  | (refine' sl_from ?F ?N ?l ?x ?_ ?s ?t ?z; (case F => k_asm); (case N => k_asm); (case l => k_mem); (case x => first | decide | omega); (case s => with_unfolding_all rfl); (case t => kmk_pure); (case z => first | omega | assumption))
  | (refine' sl_upto ?F ?N ?l ?x ?_ ?s ?t ?z; (case F => k_asm); (case N => k_asm); (case l => k_mem); (case x => first | decide | omega); (case s => with_unfolding_all rfl); (case t => kmk_pure); (case z => first | omega | assumption))); intro D' h' F' N' l1))
local macro_rules | `(tactic| walk_at "call builtin:len") => `(tactic| (k_here; (with_reducible show wpAny _ _ (call (Value.builtin "len") [Value.ref _]) _ _ _); k_dflt (refine' led_len ?N ?l ?z ?_; (case N => k_asm); (case l => k_mem); (case z => first | omega | assumption)); intro t' tk'))
local macro_rules | `(tactic| walk_at "subscriptTail") => `(tactic| (k_here; (with_reducible show wpAny _ _ (subscriptTail _ _ (Value.ref _) (Value.int _ _)) _ _ _); k_dflt (refine' led_item_str ?N ?l ?S ?h0 ?h1 ?z ?_ ?s; (case N => k_asm); (case l => k_mem); (case S => assumption); (case h0 => omega); (case h1 => omega); (case z => omega); (case s => with_unfolding_all rfl)); intro t'))
local macro_rules | `(tactic| walk_at "binaryOp Add str str") => `(tactic| (k_here; (with_reducible show wpAny _ _ (binaryOp Operator.Add (Value.str _ _) (Value.str _ _)) _ _ _); k_dflt (refine' add_short ?z ?_; (case z => (simp only [Str.length_append, hexText_len, len_GP, len_comma, len_dollar]; omega))); intro t' tk'))
local macro_rules | `(tactic| walk_at "ite") => `(tactic| (k_closed; k_dflt (first | refine ite_pos (by decide +kernel) ?_ | refine ite_neg (by decide +kernel) ?_)))

local macro_rules | `(tactic| walk_at "call ref") => `(tactic| ((with_reducible show wpAny _ _ (call (Value.ref 113) [_]) _ _ _); k_dflt (refine call_of ?_; refine' sum_c ?p0 _ _ _ _ _ _ _ _ _ _ _ _ _ _ _ _ _ _ ?k1 ?k2 ?k3 ?k4 ?k5 ?k6 ?k7 ?k8 ?_; (case k1 => k_asm); (case k2 => k_asm); (case k3 => k_asm); (case k4 => k_asm); (case k5 => k_asm); (case k6 => first | rfl | assumption); (case k7 => ktr_room); (case k8 => ktr_units); (case p0 => with_reducible assumption); intro h' tk' v' F' N' hv'; obtain ⟨t', e'⟩ := hv'; subst e')))

local macro_rules | `(tactic| walk_at "call ref") => `(tactic| ((with_reducible show wpAny _ _ (call (Value.ref 98) [_, _]) _ _ _); k_dflt (refine call_of ?_; refine' wl_c ?p0 ?p1 ?p2 _ _ _ _ _ _ _ _ _ _ _ _ _ _ _ _ _ _ ?k1 ?k2 ?k3 ?k4 ?k5 ?k6 ?k7 ?k8 ?_; (case k1 => k_asm); (case k2 => k_asm); (case k3 => k_asm); (case k4 => k_asm); (case k5 => k_asm); (case k6 => first | rfl | assumption); (case k7 => ktr_room); (case k8 => ktr_units); (case p0 => with_reducible assumption); (case p1 => decide); (case p2 => with_reducible assumption); intro h' tk' v' F' N' hv'; subst hv')))

local macro_rules | `(tactic| walk_at "call ref") => `(tactic| ((with_reducible show wpAny _ _ (call (Value.ref _) [Value.str _ _, Value.str _ _, Value.ref _]) _ _ _); k_dflt (refine' make_c ?C ?S ?z ?k1 ?k2 ?k3 ?k4 ?k5 ?k6 ?k7 ?k8 ?l ?_; (case C => first | exact Or.inl rfl | exact Or.inr rfl); (case S => with_reducible assumption); (case z => with_reducible assumption); (case k1 => k_asm); (case k2 => k_asm); (case k3 => k_asm); (case k4 => k_asm); (case k5 => k_asm); (case k6 => rfl); (case k7 => ktr_room); (case k8 => ktr_units); (case l => k_mem); intro h' tk' x' dx' es' n' l' vs' k' F' N' l1 l2 l3 S' M')))
local macro_rules | `(tactic| walk_at "call builtin:str.lstrip") => `(tactic| (k_here; k_dflt (refine' PySem.W.KXw.lstrip ?e ?s ?_; (case e => with_reducible assumption); (case s => with_reducible assumption)); intro t' tk'))
local macro_rules | `(tactic| walk_at "call builtin:str.upper") => `(tactic| (k_here; k_dflt (refine' PySem.W.KXw.upper ?e ?s ?_; (case e => with_reducible assumption); (case s => with_reducible assumption)); intro t' tk'))
local macro_rules | `(tactic| walk_at "call builtin:str.partition") => `(tactic| (k_here; k_dflt (refine' PySem.W.KXpa.partition ?F ?N ?z ?e1 ?e2 ?e3 ?s ?_; (case F => k_asm); (case N => k_asm); (case z => decide); (case e1 => with_reducible assumption); (case e2 => with_reducible assumption); (case e3 => with_reducible assumption); (case s => with_reducible assumption)); intro D' ta' tb' tc' h' tk' F' N' l1; (try k_lt l1)))
local macro_rules | `(tactic| walk_at "subscriptTail Name Slice str ref") => `(tactic| (k_here; (with_reducible show wpAny _ _ (subscriptTail _ (PySem.Expr.Slice _ _ none _) (Value.str _ _) (Value.ref _)) _ _ _); (with_reducible rename Fr _ _ _ _ => F'); (with_reducible rename News _ _ _ _ => N'); first
  | ((with_reducible show wpAny _ _ (subscriptTail _ (PySem.Expr.Slice none (some _) none _) _ _) _ _ _); (refine' sub_ns (s := ⟨_, _, _, _, _⟩) F' N' ?e ?z ?_; (case e => with_reducible assumption); (case z => with_reducible assumption)); intro h' t' k' F' N')
  | ((with_reducible show wpAny _ _ (subscriptTail _ (PySem.Expr.Slice (some _) none none _) _ _) _ _ _); (refine' sub_sn (s := ⟨_, _, _, _, _⟩) F' N' ?e ?z ?_; (case e => with_reducible assumption); (case z => with_reducible assumption)); intro h' t' k' F' N')
  | ((with_reducible show wpAny _ _ (subscriptTail _ (PySem.Expr.Slice (some _) (some _) none _) _ _) _ _ _); (refine' sub_ss (s := ⟨_, _, _, _, _⟩) F' N' ?e ?z ?_; (case e => with_reducible assumption); (case z => with_reducible assumption)); intro h' t' k' F' N')))
local macro_rules | `(tactic| walk_at "call builtin:str.split") => `(tactic| (k_here; k_dflt (refine' split_led ?F ?N ?y ?e ?z ?_; (case F => k_asm); (case N => k_asm); (case y => decide); (case e => with_reducible assumption); (case z => with_reducible assumption)); intro D' vs' h' tk' S' F' N' l1; (try k_lt l1)))
local macro_rules | `(tactic| walk_at "call builtin:str.strip") => `(tactic| (k_here; (with_reducible show wpAny _ _ (call (Value.builtin "str.strip") [Value.str _ _, Value.str _ _]) _ _ _); k_dflt (refine' PySem.W.KXw.stripChars ?e ?s ?_; (case e => with_reducible assumption); (case s => with_reducible assumption)); intro t' tk'))
local macro_rules | `(tactic| walk_at "call type:int") => `(tactic| (k_here; (with_reducible show wpAny _ _ (call (Value.type "int") [Value.str _ _, Value.int _ _]) _ _ _); k_dflt (refine' call_int16 ?a ?b ?_; (case a => with_reducible assumption); (case b => with_reducible assumption))))
local macro_rules | `(tactic| walk_at "call builtin:len") => `(tactic| (k_here; (with_reducible show wpAny _ _ (call (Value.builtin "len") [Value.str _ _]) _ _ _); k_dflt (refine' len_eq ?e ?k ?_; (case e => with_reducible assumption); (case k => decide)); intro t' tk'))
local macro_rules | `(tactic| walk_at "truthy str") => `(tactic| (k_here; k_dflt (refine' truthy_len ?e ?k ?_; (case e => with_reducible assumption); (case k => decide)); intro tk'))
theorem ne_self (a : Int) : ¬ ((a != a) = true) := by simp
local macro_rules | `(tactic| walk_at "ite") => `(tactic| ((fail_if_success k_closed); first | refine ite_neg (ne_self _) ?_ | refine ite_neg (by with_reducible assumption) ?_))
local macro_rules | `(tactic| walk_at "getMethod ref") => `(tactic| (k_here; (with_reducible show wpAny _ _ (getMethod (Value.ref _) (Str.ofString "get") _) _ _ _); k_dflt (refine' PySem.W.kdg_method (knd := PySem.strKind _ _) ?N ?m ?d ?_; (case N => k_asm); (case m => k_mem); (case d => k_asm))))
local macro_rules | `(tactic| walk_at "call builtin:dict.get") => `(tactic| (k_here; k_dflt (refine' PySem.W.kdg_get1 (knd := PySem.strKind _ _) ?N ?m ?d ?l (strKind_is _ _ _ _) (some _) ?v ?_; (case N => k_asm); (case m => k_mem); (case d => k_asm); (case l => k_asm); (case v => with_reducible assumption)); (try dsimp only [Option.getD])))
local macro_rules | `(tactic| walk_at "truthy ref") => `(tactic| (k_here; k_dflt (refine' truthy_cls ?F ?X ?t ?_; (case F => k_asm); (case X => k_asm); (case t => with_reducible assumption))))
theorem lt_sub {big news : List (Addr × Obj)} {d : Addr} (h : ∀ p ∈ big, p.1 < d) (sub : ∀ p ∈ news, p ∈ big) : ∀ p ∈ news, p.1 < d := fun p hp => h p (sub p hp)
theorem RetM.use2 {C : Addr} {kd : Str} {fs : List Str} {h₀ : Heap} {L : Addr} {m : Str → Option Value} {news : List (Addr × Obj)} {s : Shared} {Q : Value → Shared → Prop} (R : RetM C kd fs h₀ L m news s Q) {h' : Heap} {tk x dx n l k : Nat} {es : List DictEntry} {vs : List Value} (F : Fr h₀ L h' m)
    {big : List (Addr × Obj)} (N : News h₀ L h' ((l, W.listOf vs.toArray k) :: (x, instObj C dx) :: (dx, dictOf es n) :: big)) (sub : ∀ p ∈ news, p ∈ big) (a : ∀ p ∈ big, p.1 < dx) (b : ∀ p ∈ big, p.1 < x) (c : ∀ p ∈ big, p.1 < l) (S : StrsAre vs fs) (M : MsgDict es kd l) : Q (.ref x) { s with heap := h', toks := tk } :=
  R h' tk x dx es n l vs k F (fun p hp => N p (by
    rcases List.mem_cons.mp hp with e | hp
    · exact List.mem_cons.mpr (.inl e)
    rcases List.mem_cons.mp hp with e | hp
    · exact List.mem_cons_of_mem _ (List.mem_cons.mpr (.inl e))
    rcases List.mem_cons.mp hp with e | hp
    · exact List.mem_cons_of_mem _ (List.mem_cons_of_mem _ (List.mem_cons.mpr (.inl e)))
    exact List.mem_cons_of_mem _ (List.mem_cons_of_mem _ (List.mem_cons_of_mem _ (sub p hp))))) (lt_sub a sub) (lt_sub b sub) (lt_sub c sub) S M
/-- the dict of the kinds -/
def kinds : List (Str × Value) := [(Str.ofString "RTE", .ref 269), (Str.ofString "WPL", .ref 287)]
/-- what a line's parts are -/
structure Parts (line q star tail body k4 k46 k5 k6 J : Str) (fs : List Str) : Prop where
  z : line.length ≤ sizeLine
  e0 : Txt.lstrip line = line
  e1 : (Txt.partition line (Str.ofString "*")).1 = q
  e2 : (Txt.partition line (Str.ofString "*")).2.1 = star
  e3 : (Txt.partition line (Str.ofString "*")).2.2 = tail
  zq : q.length ≤ sizeLine
  q1 : Txt.slice q none (some 1) = Str.ofString "$"
  q2 : Txt.slice q (some 1) none = body
  zb : body.length ≤ sizeLine
  b1 : Txt.slice body none (some 1) = Str.ofString "G"
  b4 : Txt.slice body none (some 4) = k4
  b46 : Txt.slice body (some 4) (some 6) = k46
  b5 : Txt.slice body none (some 5) = k5
  b56 : Txt.slice body (some 5) (some 6) = Str.ofString ","
  b6 : Txt.slice body none (some 6) = k6
  bJ : Txt.slice body (some 6) none = J
  sJ : Txt.split J (Str.ofString ",") = fs
  zJ : J.length + 2 ≤ sizeLine
/-- what is so of a kind -/
structure Kind (p : Params) (k4 k46 k5 k6 kd : Str) (C : Addr) : Prop where
  l4 : (k4.length : Int) = 4
  a4 : Txt.isalnum (Txt.replace k4 (Str.ofString "_") (Str.ofString "a")) = true
  n46 : ¬ ([Str.ofString "Q,", Str.ofString "q,"].any fun x => x == k46) = true
  l5 : (k5.length : Int) = 5
  a5 : Txt.isalnum (Txt.replace k5 (Str.ofString "_") (Str.ofString "a")) = true
  u6 : Txt.upper k6 = k6
  f6 : Builtin.Str.tooLong (Txt.upper k6).length = false
  z6 : k6.length ≤ sizeLine
  s5 : Txt.slice k6 (some 5) none = Str.ofString ","
  s2 : Txt.slice k6 none (some 2) = Str.ofString "GP"
  s25 : Txt.slice k6 (some 2) (some 5) = kd
  v : valueAt kinds kd = some (.ref C)
  t : typeIn (Mine.hd.heap_39 p) (.ref C) = some (.type "type")
  c : C = 269 ∨ C = 287
theorem hexTail_facts {v : Int} (h0 : 0 ≤ v) (h1 : v < 128) : ((hexTail v).length : Int) = 2 ∧ Txt.slice (hexTail v) none (some 2) = hexTail v ∧ Txt.slice (hexTail v) (some 2) none = Str.ofString "" ∧
    Txt.stripChars (hexTail v) (Str.ofString "0123456789ABCDEFabcdef") = Str.ofString "" ∧ (hexTail v).length ≤ sizeLine := by
  obtain ⟨k, rfl⟩ := Int.eq_ofNat_of_zero_le h0
  obtain ⟨e1, e2, e3, e4, e5⟩ := hex_facts ⟨k, by omega⟩
  dsimp only at e1 e2 e3 e4 e5
  exact ⟨by rw [e1]; rfl, e2, e3, e4, by rw [e1]; decide⟩
set_option maxHeartbeats 4000000 in
theorem parse_sum {line q body J k4 k46 k5 k6 kd : Str} {C : Addr} {t : Tok} {d : Addr} {o : Obj} {fs : List Str} (P : Parts line q (Str.ofString "*") (hexTail (xsumI (KStt.codes body))) body k4 k46 k5 k6 J fs) (K : Kind w.params k4 k46 k5 k6 kd C) (ha : ∀ c ∈ KStt.codes body, c < 128) (hz : fs.length ≤ 100) :
    Claim prog w p loose mean mg mb 3 124 [.str line t, .ref d] (fun h₀ L m news s Q => (d, o) ∈ news ∧ (d == sysModules) = false ∧ o.IsDictOf (strKind prog w) kinds ∧ RetM C kd fs h₀ L m news s Q) := by
  obtain ⟨z, e0, e1, e2, e3, zq, q1, q2, zb, b1, b4, b46, b5, b56, b6, bJ, sJ, zJ⟩ := P
  obtain ⟨l4, a4, n46, l5, a5, u6, f6, z6, s5, s2, s25, hv, ht, hc⟩ := K
  unfold Claim
  intro dp un gd cn cs a ccd cl outer A₀ base h₀ L m news s Q E B F X N T hk hd hu hret
  k_dflt (refine' code_def ?k1 ?k2 ?k3 ?k4 ?k5 ?kA ?kF ?kK ?k6 ?k7 ?k8 ?k9 ?kB ?_ ?c2 ?c3 ?c4 ?c5; (case kA => exact rfl); (case kF => exact rfl); (case kK => first | rfl | assumption); (case k1 => k_asm); (case k2 => k_asm); (case k3 => k_asm); (case k4 => k_asm); (case k5 => k_asm); (case k6 => k_is); (case k7 => k_is); (case k8 => ktr_room); (case k9 => first | exact BindsTo.of_eq rfl | exact binds_K (by k_in) rfl (by k_is) rfl rfl rfl); (case c5 => decide); (case kB => exact locs rfl); (case c2 => exact rfl); (case c3 => exact rfl); (case c4 => exact rfl); k_whole; intro g' L' h1' FG' F' N' B' X' T'; (try dsimp only))

  obtain ⟨m1, lo1, kds, hret⟩ := hret
  obtain ⟨h0, h1⟩ := xsumI_lt ha
  obtain ⟨a1, a2⟩ := hex_num h0 h1
  obtain ⟨f1, f2, f3, f4, f5⟩ := hexTail_facts h0 h1
  k_steps
  rcases hc with rfl | rfl
  all_goals k_steps
  all_goals exact hret.use2 (by k_asm) (by k_asm) (by kcf_all) (by assumption) (by assumption) (by assumption) (by assumption) (by assumption)
set_option maxHeartbeats 4000000 in
theorem parse_bare {line body J k4 k46 k5 k6 kd : Str} {C : Addr} {t : Tok} {d : Addr} {o : Obj} {fs : List Str} (P : Parts line line (Str.ofString "") (Str.ofString "") body k4 k46 k5 k6 J fs) (K : Kind w.params k4 k46 k5 k6 kd C) (hz : fs.length ≤ 100) :
    Claim prog w p loose mean mg mb 3 124 [.str line t, .ref d] (fun h₀ L m news s Q => (d, o) ∈ news ∧ (d == sysModules) = false ∧ o.IsDictOf (strKind prog w) kinds ∧ RetM C kd fs h₀ L m news s Q) := by
  obtain ⟨z, e0, e1, e2, e3, zq, q1, q2, zb, b1, b4, b46, b5, b56, b6, bJ, sJ, zJ⟩ := P
  obtain ⟨l4, a4, n46, l5, a5, u6, f6, z6, s5, s2, s25, hv, ht, hc⟩ := K
  have g1 : ((Str.ofString "").length : Int) = 0 := by decide
  have g2 : Txt.slice (Str.ofString "") none (some 2) = Str.ofString "" := by decide +kernel
  have g3 : (Str.ofString "").length ≤ sizeLine := by decide
  unfold Claim
  intro dp un gd cn cs a ccd cl outer A₀ base h₀ L m news s Q E B F X N T hk hd hu hret
  k_dflt (refine' code_def ?k1 ?k2 ?k3 ?k4 ?k5 ?kA ?kF ?kK ?k6 ?k7 ?k8 ?k9 ?kB ?_ ?c2 ?c3 ?c4 ?c5; (case kA => exact rfl); (case kF => exact rfl); (case kK => first | rfl | assumption); (case k1 => k_asm); (case k2 => k_asm); (case k3 => k_asm); (case k4 => k_asm); (case k5 => k_asm); (case k6 => k_is); (case k7 => k_is); (case k8 => ktr_room); (case k9 => first | exact BindsTo.of_eq rfl | exact binds_K (by k_in) rfl (by k_is) rfl rfl rfl); (case c5 => decide); (case kB => exact locs rfl); (case c2 => exact rfl); (case c3 => exact rfl); (case c4 => exact rfl); k_whole; intro g' L' h1' FG' F' N' B' X' T'; (try dsimp only))

  obtain ⟨m1, lo1, kds, hret⟩ := hret
  k_steps
  rcases hc with rfl | rfl
  all_goals k_steps
  all_goals exact hret.use2 (by k_asm) (by k_asm) (by kcf_all) (by assumption) (by assumption) (by assumption) (by assumption) (by assumption)
end
/- H4 -/
section
variable {prog : Program} {w : World} {p : Program} {loose : List Str} {mean : ExcName → Option Value} {mg mb : Str → Option Value}
local macro_rules | `(tactic| k_room) => `(tactic| ktr_room)
local macro_rules | `(tactic| ktr_room) => `(tactic| (simp only [depth_under_make, depth_under_kw, depth_in1, depth_deeper] at *; omega))
local macro_rules | `(tactic| k_units) => `(tactic| ktr_units)
local macro_rules | `(tactic| k_mem) => `(tactic| first | assumption | (refine List.mem_cons_of_mem _ ?_; k_mem))

section
open PySem.StrLaws
theorem str_eq {x y : Str} (h : x.cps.toList = y.cps.toList) : x = y := Str.ext' (Array.toList_inj.mp h)
theorem app_list (x y : Str) : (x ++ y).cps.toList = x.cps.toList ++ y.cps.toList := by rw [Str.cps_append, Array.toList_append]
theorem len_list (x : Str) : x.length = x.cps.toList.length := (Array.length_toList).symm
/-- the numbers of the parts, one sign between -/
def glueN (c : Nat) : List (List Nat) → List Nat
  | [] => []
  | [x] => x
  | x :: y :: r => x ++ c :: glueN c (y :: r)
theorem cut_same {c : Nat} : ∀ {a b s t : List Nat}, c ∉ a → c ∉ b → a ++ c :: s = b ++ c :: t → a = b ∧ s = t
  | [], [], s, t, _, _, e => ⟨rfl, (List.cons.inj e).2⟩
  | [], y :: b, s, t, _, hb, e => absurd (by rw [(List.cons.inj e).1]; exact .head _) hb
  | x :: a, [], s, t, ha, _, e => absurd (by rw [← (List.cons.inj e).1]; exact .head _) ha
  | x :: a, y :: b, s, t, ha, hb, e => by
    obtain ⟨e1, e2⟩ := List.cons.inj e
    obtain ⟨h1, h2⟩ := cut_same (fun h => ha (.tail _ h)) (fun h => hb (.tail _ h)) e2
    exact ⟨by rw [e1, h1], h2⟩
theorem glueN_inj {c : Nat} : ∀ {xs ys : List (List Nat)}, xs ≠ [] → ys ≠ [] → (∀ x ∈ xs, c ∉ x) → (∀ y ∈ ys, c ∉ y) → glueN c xs = glueN c ys → xs = ys
  | [], _, h, _, _, _, _ => absurd rfl h
  | _, [], _, h, _, _, _ => absurd rfl h
  | [x], [y], _, _, _, _, e => by rw [show x = y from e]
  | [x], y :: z :: r, _, _, hx, _, e => absurd (show c ∈ x by rw [show x = y ++ c :: glueN c (z :: r) from e]; simp) (hx x (.head _))
  | x :: z :: r, [y], _, _, _, hy, e => absurd (show c ∈ y by rw [← show x ++ c :: glueN c (z :: r) = y from e]; simp) (hy y (.head _))
  | x :: x2 :: r, y :: y2 :: q, _, _, hx, hy, e => by
    obtain ⟨e1, e2⟩ := cut_same (hx x (.head _)) (hy y (.head _)) (show x ++ c :: glueN c (x2 :: r) = y ++ c :: glueN c (y2 :: q) from e)
    rw [e1, glueN_inj (List.cons_ne_nil _ _) (List.cons_ne_nil _ _) (fun z h => hx z (.tail _ h)) (fun z h => hy z (.tail _ h)) e2]
theorem join_glue (sep : Str) {c : Nat} (hs : sep.cps.toList = [c]) : ∀ xs : List Str, (Str.join sep xs).cps.toList = glueN c (xs.map (·.cps.toList))
  | [] => rfl
  | [x] => rfl
  | x :: y :: r => by
    show (x ++ sep ++ Str.join sep (y :: r)).cps.toList = _
    rw [app_list, app_list, hs, join_glue sep hs (y :: r)]
    simp [glueN]
theorem comma_mk : Str.ofString "," = ⟨#[44]⟩ := by decide +kernel
theorem star_mk : Str.ofString "*" = ⟨#[42]⟩ := by decide +kernel
theorem map_list_inj : ∀ {xs ys : List Str}, xs.map (·.cps.toList) = ys.map (·.cps.toList) → xs = ys
  | [], [], _ => rfl
  | [], _ :: _, h => by cases h
  | _ :: _, [], h => by cases h
  | x :: xs, y :: ys, h => by
    obtain ⟨a, b⟩ := List.cons.inj h
    rw [str_eq a, map_list_inj b]
theorem split_ne (x y : Str) : Txt.split x y ≠ [] := by
  unfold Txt.split
  split
  · exact List.cons_ne_nil _ _
  · split
    · exact List.cons_ne_nil _ _
    · rw [partsBetween_eq]
      obtain ⟨p, r, e⟩ := partsFrom_ne x y.length 0 (Builtin.Str.occurrences x y 0 x.length (x.length + 1))
      rw [e]
      exact List.cons_ne_nil _ _
/-- what was joined by commas is split into the same parts -/
theorem split_join {fs : List Str} (h0 : fs ≠ []) (hc : ∀ f ∈ fs, 44 ∉ f.cps.toList) : Txt.split (Txt.join (Str.ofString ",") fs) (Str.ofString ",") = fs := by
  have hs : (Str.ofString ",").cps.toList = [44] := by decide +kernel
  have e := join_split (Txt.join (Str.ofString ",") fs) (Str.ofString ",")
  have fr : ∀ p ∈ Txt.split (Txt.join (Str.ofString ",") fs) (Str.ofString ","), 44 ∉ p.cps.toList := by
    rw [comma_mk]
    exact split_free _ 44
  have e2 := congrArg (fun x : Str => x.cps.toList) e
  rw [join_glue _ hs, show (Txt.join (Str.ofString ",") fs).cps.toList = glueN 44 (fs.map (·.cps.toList)) by rw [tjoin_eq, join_glue _ hs]] at e2
  refine map_list_inj (glueN_inj (c := 44) (by simpa using split_ne _ _) (by simpa using h0) ?_ ?_ ?_)
  · intro x hx
    obtain ⟨y, hy, rfl⟩ := List.mem_map.mp hx
    exact fr y hy
  · intro x hx
    obtain ⟨y, hy, rfl⟩ := List.mem_map.mp hx
    exact hc y hy
  · exact e2
theorem sub_list (x : Str) (i j : Nat) : (Builtin.Str.strSub x i j).cps.toList = (x.cps.toList.drop i).take (j - i) := by
  unfold Builtin.Str.strSub
  simp [Array.toList_extract, List.extract_eq_take_drop]
theorem at_star (x : Str) (i : Nat) : At x (Str.ofString "*") x.length i ↔ x.cps.toList[i]? = some 42 := by
  rw [star_mk]
  exact subAt_one x 42 i
theorem part_none {x : Str} (h : 42 ∉ x.cps.toList) : Txt.partition x (Str.ofString "*") = (x, Str.ofString "", Str.ofString "") := by
  unfold Txt.partition
  rcases occ_head x (Str.ofString "*") 1 (Nat.le_refl _) with ⟨e, _⟩ | ⟨i, r, e, a, _⟩
  · rw [e]; rfl
  · exact absurd (List.mem_of_getElem? ((at_star x i).mp a)) h
theorem part_some {a b : Str} (h : 42 ∉ a.cps.toList) : Txt.partition (a ++ (Str.ofString "*" ++ b)) (Str.ofString "*") = (a, Str.ofString "*", b) := by
  have hl : (a ++ (Str.ofString "*" ++ b)).cps.toList = a.cps.toList ++ 42 :: b.cps.toList := by
    rw [app_list, app_list]
    rfl
  have at0 : (a ++ (Str.ofString "*" ++ b)).cps.toList[a.cps.toList.length]? = some 42 := by
    rw [hl, List.getElem?_append_right (Nat.le_refl _)]
    simp
  unfold Txt.partition
  rcases occ_head (a ++ (Str.ofString "*" ++ b)) (Str.ofString "*") 1 (Nat.le_refl _) with ⟨e, n⟩ | ⟨i, r, e, hi, n⟩
  · exact absurd ((at_star _ _).mpr at0) (n _)
  · rw [e]
    have hi' := (at_star _ _).mp hi
    have : i = a.cps.toList.length := by
      rcases Nat.lt_trichotomy i a.cps.toList.length with lt | eq | gt
      · rw [hl, List.getElem?_append_left lt] at hi'
        exact absurd (List.mem_of_getElem? hi') h
      · exact eq
      · exact absurd ((at_star _ _).mpr at0) (n _ gt)
    subst this
    dsimp only
    have e1 : Builtin.Str.strSub (a ++ (Str.ofString "*" ++ b)) 0 a.cps.toList.length = a := str_eq (by rw [sub_list, hl]; simp)
    have e2 : Builtin.Str.strSub (a ++ (Str.ofString "*" ++ b)) (a.cps.toList.length + (Str.ofString "*").length) (a ++ (Str.ofString "*" ++ b)).length = b := str_eq (by
      rw [sub_list, len_list, hl, show (Str.ofString "*").length = 1 from rfl, List.length_append, List.length_cons]
      rw [show a.cps.toList ++ 42 :: b.cps.toList = (a.cps.toList ++ [42]) ++ b.cps.toList by simp]
      rw [List.drop_left' (by simp)]
      exact List.take_of_length_le (by omega))
    rw [e1, e2]
theorem lstrip_same {x : Str} {c : Nat} {r : List Nat} (h : x.cps.toList = c :: r) (hc : Unicode.isSpace c = false) : Txt.lstrip x = x := by
  have : stripSame Unicode.isSpace true false x = true := by
    unfold stripSame stripLo stripHi
    simp [h, hc]
  unfold Txt.lstrip Txt.stripBy
  rw [if_pos this]
theorem slice_to {x : Str} {j : Nat} (h : j ≤ x.cps.toList.length) : Txt.slice x none (some (j : Int)) = ⟨(x.cps.toList.take j).toArray⟩ := by
  show sliceText x none (some (j : Int)) = _
  rw [sliceText_to ⟨by omega, by omega⟩]
  simp
theorem slice_from {x : Str} {i : Nat} (h : i ≤ x.cps.toList.length) : Txt.slice x (some (i : Int)) none = ⟨(x.cps.toList.drop i).toArray⟩ := by
  show sliceText x (some (i : Int)) none = _
  rw [sliceText_from ⟨by omega, by omega⟩]
  refine congrArg Str.mk (congrArg List.toArray ?_)
  rw [Int.toNat_natCast]
  exact List.take_of_length_le (by rw [List.length_drop]; omega)
theorem slice_mid {x : Str} {i j : Nat} (h : i ≤ j) (h2 : j ≤ x.cps.toList.length) : Txt.slice x (some (i : Int)) (some (j : Int)) = ⟨((x.cps.toList.drop i).take (j - i)).toArray⟩ := by
  show sliceText x (some (i : Int)) (some (j : Int)) = _
  rw [sliceText_plain ⟨by omega, by omega, by omega⟩]
  refine congrArg Str.mk (congrArg List.toArray ?_)
  rw [Int.toNat_natCast]
  congr 1
  omega
end
end
/- H5 -/
section
variable {prog : Program} {w : World} {p : Program} {loose : List Str} {mean : ExcName → Option Value} {mg mb : Str → Option Value}
local macro_rules | `(tactic| k_room) => `(tactic| ktr_room)
local macro_rules | `(tactic| ktr_room) => `(tactic| (simp only [depth_under_make, depth_under_kw, depth_in1, depth_deeper] at *; omega))
local macro_rules | `(tactic| k_units) => `(tactic| ktr_units)
local macro_rules | `(tactic| k_mem) => `(tactic| first | assumption | (refine List.mem_cons_of_mem _ ?_; k_mem))

/-- a field that a sentence can bear -/
def Clean (f : Str) : Prop := ∀ c ∈ f.cps.toList, c < 128 ∧ c ≠ 42 ∧ c ≠ 44
theorem glueN_mem {c d : Nat} : ∀ {xs : List (List Nat)}, d ∈ glueN c xs → d = c ∨ ∃ x ∈ xs, d ∈ x
  | [], h => by cases h
  | [x], h => .inr ⟨x, .head _, h⟩
  | x :: y :: r, h => by
    rcases List.mem_append.mp (show d ∈ x ++ c :: glueN c (y :: r) from h) with h | h
    · exact .inr ⟨x, .head _, h⟩
    · rcases List.mem_cons.mp h with h | h
      · exact .inl h
      · rcases glueN_mem h with h | ⟨z, hz, h⟩
        · exact .inl h
        · exact .inr ⟨z, .tail _ hz, h⟩
theorem join_clean {fs : List Str} (hc : ∀ f ∈ fs, Clean f) : ∀ c ∈ (Txt.join (Str.ofString ",") fs).cps.toList, c < 128 ∧ c ≠ 42 := by
  intro c h
  have hs : (Str.ofString ",").cps.toList = [44] := by decide +kernel
  rw [tjoin_eq, join_glue _ hs] at h
  rcases glueN_mem h with e | ⟨x, hx, h⟩
  · subst e; decide
  · obtain ⟨y, hy, rfl⟩ := List.mem_map.mp hx
    exact ⟨(hc y hy c h).1, (hc y hy c h).2.1⟩
theorem body_list {k1 k2 k3 : Nat} (fs : List Str) : (bodyOf ⟨#[k1, k2, k3]⟩ fs).cps.toList = 71 :: 80 :: k1 :: k2 :: k3 :: 44 :: (Txt.join (Str.ofString ",") fs).cps.toList := by
  unfold bodyOf
  rw [app_list, app_list, app_list]
  rfl
theorem body_clean {k1 k2 k3 : Nat} {fs : List Str} (h1 : k1 < 128 ∧ k1 ≠ 42) (h2 : k2 < 128 ∧ k2 ≠ 42) (h3 : k3 < 128 ∧ k3 ≠ 42) (hc : ∀ f ∈ fs, Clean f) : ∀ c ∈ (bodyOf ⟨#[k1, k2, k3]⟩ fs).cps.toList, c < 128 ∧ c ≠ 42 := by
  rw [body_list]
  intro c h
  simp only [List.mem_cons] at h
  rcases h with rfl | rfl | rfl | rfl | rfl | rfl | h
  · decide
  · decide
  · exact h1
  · exact h2
  · exact h3
  · decide
  · exact join_clean hc c h
theorem body_ascii {k1 k2 k3 : Nat} {fs : List Str} (h1 : k1 < 128 ∧ k1 ≠ 42) (h2 : k2 < 128 ∧ k2 ≠ 42) (h3 : k3 < 128 ∧ k3 ≠ 42) (hc : ∀ f ∈ fs, Clean f) : ∀ c ∈ KStt.codes (bodyOf ⟨#[k1, k2, k3]⟩ fs), c < 128 := by
  intro c h
  unfold KStt.codes at h
  obtain ⟨n, hn, rfl⟩ := List.mem_map.mp h
  have := (body_clean h1 h2 h3 hc n hn).1
  show (n : Int) < 128
  omega
theorem body_len {k1 k2 k3 : Nat} {fs : List Str} (hz : fs.length ≤ 100) (hs : (fs.map (·.length)).sum ≤ 1000) : (bodyOf ⟨#[k1, k2, k3]⟩ fs).length ≤ 1106 := by
  have := tjoin_len (ys := fs)
  rw [len_list] at this
  rw [len_list, body_list]
  simp only [List.length_cons]
  omega
theorem dollar_list (x : Str) : (Str.ofString "$" ++ x).cps.toList = 36 :: x.cps.toList := by
  rw [app_list]
  rfl
theorem line_true (x : Str) : lineOf true x = (Str.ofString "$" ++ x) ++ (Str.ofString "*" ++ hexTail (xsumI (KStt.codes x))) := by
  unfold lineOf hexOf
  rw [if_pos rfl, hexText_tail, str_assoc]
theorem line_false (x : Str) : lineOf false x = Str.ofString "$" ++ x := rfl
section
variable {k1 k2 k3 : Nat} {fs : List Str}
theorem parts_body {line q star tail : Str} (e : q = Str.ofString "$" ++ bodyOf ⟨#[k1, k2, k3]⟩ fs) (h0 : fs ≠ []) (hc : ∀ f ∈ fs, Clean f) (hz : fs.length ≤ 100) (hs : (fs.map (·.length)).sum ≤ 1000)
    (z : line.length ≤ sizeLine) (e0 : Txt.lstrip line = line) (e1 : Txt.partition line (Str.ofString "*") = (q, star, tail)) :
    Parts line q star tail (bodyOf ⟨#[k1, k2, k3]⟩ fs) ⟨#[71, 80, k1, k2]⟩ ⟨#[k3, 44]⟩ ⟨#[71, 80, k1, k2, k3]⟩ ⟨#[71, 80, k1, k2, k3, 44]⟩ (Txt.join (Str.ofString ",") fs) fs := by
  have hl := body_list (k1 := k1) (k2 := k2) (k3 := k3) fs
  have hn := body_len (k1 := k1) (k2 := k2) (k3 := k3) hz hs
  have hq := dollar_list (bodyOf ⟨#[k1, k2, k3]⟩ fs)
  have hlen : 6 ≤ (bodyOf ⟨#[k1, k2, k3]⟩ fs).cps.toList.length := by rw [hl]; simp
  have hj := tjoin_len (ys := fs)
  subst e
  refine ⟨z, e0, by rw [e1], by rw [e1], by rw [e1], ?_, ?_, ?_, ?_, ?_, ?_, ?_, ?_, ?_, ?_, ?_, split_join h0 fun f hf h => (hc f hf 44 h).2.2 rfl, ?_⟩
  · rw [sizeLine_eq, Str.length_append, len_dollar]; omega
  · refine (slice_to (j := 1) (by rw [hq]; simp)).trans ?_
    rw [hq]; rfl
  · refine (slice_from (i := 1) (by rw [hq]; simp)).trans ?_
    rw [hq]; rfl
  · rw [sizeLine_eq]; omega
  · refine (slice_to (j := 1) (by omega)).trans ?_
    rw [hl]; rfl
  · refine (slice_to (j := 4) (by omega)).trans ?_
    rw [hl]; rfl
  · refine (slice_mid (i := 4) (j := 6) (by omega) (by omega)).trans ?_
    rw [hl]; rfl
  · refine (slice_to (j := 5) (by omega)).trans ?_
    rw [hl]; rfl
  · refine (slice_mid (i := 5) (j := 6) (by omega) (by omega)).trans ?_
    rw [hl]; rfl
  · refine (slice_to (j := 6) (by omega)).trans ?_
    rw [hl]; rfl
  · refine (slice_from (i := 6) (by omega)).trans ?_
    rw [hl]; rfl
  · rw [sizeLine_eq]; omega
theorem parts_sum (h1 : k1 < 128 ∧ k1 ≠ 42) (h2 : k2 < 128 ∧ k2 ≠ 42) (h3 : k3 < 128 ∧ k3 ≠ 42) (h0 : fs ≠ []) (hc : ∀ f ∈ fs, Clean f) (hz : fs.length ≤ 100) (hs : (fs.map (·.length)).sum ≤ 1000) :
    Parts (lineOf true (bodyOf ⟨#[k1, k2, k3]⟩ fs)) (Str.ofString "$" ++ bodyOf ⟨#[k1, k2, k3]⟩ fs) (Str.ofString "*") (hexTail (xsumI (KStt.codes (bodyOf ⟨#[k1, k2, k3]⟩ fs)))) (bodyOf ⟨#[k1, k2, k3]⟩ fs) ⟨#[71, 80, k1, k2]⟩ ⟨#[k3, 44]⟩ ⟨#[71, 80, k1, k2, k3]⟩ ⟨#[71, 80, k1, k2, k3, 44]⟩ (Txt.join (Str.ofString ",") fs) fs := by
  have hq := dollar_list (bodyOf ⟨#[k1, k2, k3]⟩ fs)
  have hn := body_len (k1 := k1) (k2 := k2) (k3 := k3) hz hs
  have ht : (hexTail (xsumI (KStt.codes (bodyOf ⟨#[k1, k2, k3]⟩ fs)))).length = 2 := by
    unfold hexTail
    rw [Str.length_append]; rfl
  rw [line_true]
  refine parts_body rfl h0 hc hz hs ?_ (lstrip_same (c := 36) (by rw [app_list, hq]; rfl) (by decide)) (part_some ?_)
  · rw [sizeLine_eq, Str.length_append, Str.length_append, Str.length_append, len_dollar, ht, show (Str.ofString "*").length = 1 from rfl]; omega
  · rw [hq]
    intro h
    rcases List.mem_cons.mp h with h | h
    · cases h
    · exact (body_clean h1 h2 h3 hc _ h).2 rfl
theorem parts_bare (h1 : k1 < 128 ∧ k1 ≠ 42) (h2 : k2 < 128 ∧ k2 ≠ 42) (h3 : k3 < 128 ∧ k3 ≠ 42) (h0 : fs ≠ []) (hc : ∀ f ∈ fs, Clean f) (hz : fs.length ≤ 100) (hs : (fs.map (·.length)).sum ≤ 1000) :
    Parts (lineOf false (bodyOf ⟨#[k1, k2, k3]⟩ fs)) (lineOf false (bodyOf ⟨#[k1, k2, k3]⟩ fs)) (Str.ofString "") (Str.ofString "") (bodyOf ⟨#[k1, k2, k3]⟩ fs) ⟨#[71, 80, k1, k2]⟩ ⟨#[k3, 44]⟩ ⟨#[71, 80, k1, k2, k3]⟩ ⟨#[71, 80, k1, k2, k3, 44]⟩ (Txt.join (Str.ofString ",") fs) fs := by
  have hq := dollar_list (bodyOf ⟨#[k1, k2, k3]⟩ fs)
  have hn := body_len (k1 := k1) (k2 := k2) (k3 := k3) hz hs
  rw [line_false]
  refine parts_body rfl h0 hc hz hs ?_ (lstrip_same (c := 36) hq (by decide)) (part_none ?_)
  · rw [sizeLine_eq, Str.length_append, len_dollar]; omega
  · rw [hq]
    intro h
    rcases List.mem_cons.mp h with h | h
    · cases h
    · exact (body_clean h1 h2 h3 hc _ h).2 rfl
end
theorem kind_rte : Kind w.params ⟨#[71, 80, 82, 84]⟩ ⟨#[69, 44]⟩ ⟨#[71, 80, 82, 84, 69]⟩ ⟨#[71, 80, 82, 84, 69, 44]⟩ ⟨#[82, 84, 69]⟩ 269 :=
  ⟨by decide, by decide +kernel, by decide +kernel, by decide, by decide +kernel, by decide +kernel, by decide +kernel, by decide, by decide +kernel, by decide +kernel, by decide +kernel, by decide +kernel, by k_is, .inl rfl⟩
theorem kind_wpl : Kind w.params ⟨#[71, 80, 87, 80]⟩ ⟨#[76, 44]⟩ ⟨#[71, 80, 87, 80, 76]⟩ ⟨#[71, 80, 87, 80, 76, 44]⟩ ⟨#[87, 80, 76]⟩ 287 :=
  ⟨by decide, by decide +kernel, by decide +kernel, by decide, by decide +kernel, by decide +kernel, by decide +kernel, by decide, by decide +kernel, by decide +kernel, by decide +kernel, by decide +kernel, by k_is, .inr rfl⟩
end
/- Q1 -/
section
variable {prog : Program} {w : World} {p : Program} {loose : List Str} {mean : ExcName → Option Value} {mg mb : Str → Option Value}
local macro_rules | `(tactic| k_room) => `(tactic| ktr_room)
local macro_rules | `(tactic| ktr_room) => `(tactic| (simp only [depth_under_make, depth_under_kw, depth_in1, depth_deeper] at *; omega))
local macro_rules | `(tactic| k_units) => `(tactic| ktr_units)
local macro_rules | `(tactic| k_mem) => `(tactic| first | assumption | (refine List.mem_cons_of_mem _ ?_; k_mem))

section
open PySem.W PySem.Spec
/-- data of this law: no bytes, not too deep -/
def okB : Nat → Dat → Bool
  | _, .none => true
  | _, .bool _ => true
  | _, .int _ => true
  | _, .str x => PyData.strOk x
  | n + 1, .tuple ds => ds.all (okB n)
  | n + 1, .list ds => ds.all (okB n)
  | _, _ => false
section
variable {h₀ h : Heap} {L : Addr} {news : List (Addr × Obj)}
mutual
theorem okB_in (N : News h₀ L h news) : ∀ {v : Value} {d : Dat} (n : Nat), DatIn news v d → okB n d = true → ∃ as, Reads h v (kqdP d) as
  | _, _, _, .none, _ => ⟨_, Reads.none⟩
  | _, _, _, .bool b, _ => ⟨_, Reads.bool b⟩
  | _, _, _, .int i t, _ => ⟨_, Reads.int i t⟩
  | _, _, _, .str x t, _ => ⟨_, Reads.str x t⟩
  | _, _, n, .bytes _ _, hk => by cases n <;> simp [okB] at hk
  | _, _, 0, .tuple _ _, hk => by simp [okB] at hk
  | _, _, 0, .list _ _, hk => by simp [okB] at hk
  | _, _, n + 1, .tuple hm r, hk => by
    obtain ⟨as, q⟩ := okB_all N n r (by simpa [okB] using hk)
    rw [kqdP]
    exact ⟨as, reads_tuple_at (N.get hm) rfl rfl (by simpa using q)⟩
  | _, _, n + 1, .list hm r, hk => by
    obtain ⟨as, q⟩ := okB_all N n r (by simpa [okB] using hk)
    rw [kqdP]
    exact ⟨_, reads_list_at (N.get hm) rfl rfl (by simpa [W.listOf] using q)⟩
theorem okB_all (N : News h₀ L h news) : ∀ {vs : List Value} {ds : List Dat} (n : Nat), DatAll news vs ds → (∀ d ∈ ds, okB n d = true) → ∃ as, ReadsAll h vs (kqdPs ds) as
  | _, _, _, .nil, _ => ⟨_, ReadsAll.nil⟩
  | _, _, n, .cons hd r, hk => by
    obtain ⟨as, q⟩ := okB_in N n hd (hk _ (.head _))
    obtain ⟨bs, p⟩ := okB_all N n r fun d hm => hk d (.tail _ hm)
    rw [kqdPs]
    exact ⟨_, ReadsAll.cons q p⟩
end
end
theorem okB_lay : ∀ (n : Nat) (d : Dat), okB n d = true → (kqdP d).canLay0 = true ∧ (kqdP d).depth ≤ n ∧ PyData.eqv (kqdP d) (kqdP d) = true := by
  have all : ∀ (n : Nat), (∀ d, okB n d = true → (kqdP d).canLay0 = true ∧ (kqdP d).depth ≤ n ∧ PyData.eqv (kqdP d) (kqdP d) = true) → ∀ ds : List Dat, (∀ d ∈ ds, okB n d = true) → PyData.canLayAll0 (kqdPs ds) = true ∧ PyData.depthAll (kqdPs ds) ≤ n ∧ PyData.eqvAll (kqdPs ds) (kqdPs ds) = true := by
    intro n ih ds
    induction ds with
    | nil => intro _; simp [kqdPs, PyData.canLayAll0, PyData.depthAll, PyData.eqvAll]
    | cons d ds hi =>
      intro h
      have h1 := ih d (h d (.head _))
      have h2 := hi fun e he => h e (.tail _ he)
      simp only [kqdPs, PyData.canLayAll0, PyData.depthAll, PyData.eqvAll, h1.1, h2.1, h1.2.2, h2.2.2, Bool.and_self, true_and, and_true]
      have a1 := h1.2.1
      have a2 := h2.2.1
      omega
  intro n
  induction n with
  | zero =>
    intro d h
    cases d <;> simp_all [okB, kqdP, PyData.canLay0, PyData.depth, PyData.eqv]
  | succ n ih =>
    intro d h
    cases d with
    | none => simp [kqdP, PyData.canLay0, PyData.depth, PyData.eqv]
    | bool b => simp [kqdP, PyData.canLay0, PyData.depth, PyData.eqv]
    | int i => simp [kqdP, PyData.canLay0, PyData.depth, PyData.eqv]
    | str x => simp [okB] at h; simp [kqdP, PyData.canLay0, PyData.depth, PyData.eqv, h]
    | bytes b => simp [okB] at h
    | tuple ds =>
      have q := all n ih ds (by simpa [okB] using h)
      have q2 := q.2.1
      simp only [kqdP, PyData.canLay0, PyData.depth, PyData.eqv, q.1, q.2.2, true_and, and_true]
      omega
    | list ds =>
      have q := all n ih ds (by simpa [okB] using h)
      have q2 := q.2.1
      simp only [kqdP, PyData.canLay0, PyData.depth, PyData.eqv, q.1, q.2.2, true_and, and_true]
      omega
section
variable {A : Around} {E : Value → Shared → Prop} {s : Shared} {h₀ : Heap} {L a b : Addr} {news : List (Addr × Obj)} {xs ys : List Value} {ka kb : Nat} {ds es : List Dat} {Q : Value → Shared → Prop}
theorem eq_dat (N : News h₀ L s.heap news) (ma : (a, W.listOf xs.toArray ka) ∈ news) (Da : DatAll news xs ds) (mb : (b, W.listOf ys.toArray kb) ∈ news) (Db : DatAll news ys es)
    (ha : ∀ d ∈ ds, okB 8 d = true) (hb : ∀ d ∈ es, okB 8 d = true) (hu : A.units + 64 < cLine) (h : ∀ c, (ds = es → c = true) → Q (.bool c) s) : wpAny (model prog w) A (compareOp .Eq (.ref a) (.ref b)) Q E s := by
  obtain ⟨as, ra⟩ := okB_all N 8 Da ha
  obtain ⟨bs, rb⟩ := okB_all N 8 Db hb
  have la := okB_lay 9 (.list ds) (by simpa [okB] using ha)
  have lb := okB_lay 9 (.list es) (by simpa [okB] using hb)
  rw [kqdP] at la lb
  refine eq_dataH (reads_list_at (N.get ma) rfl rfl (by simpa [W.listOf] using ra)) (reads_list_at (N.get mb) rfl rfl (by simpa [W.listOf] using rb)) ?_ ?_ hu (h _ fun e => by rw [← e]; exact la.2.2)
  · unfold SeqAt.shaped; rw [la.1, Bool.true_and]; exact decide_eq_true (Nat.le_trans la.2.1 (by decide))
  · unfold SeqAt.shaped; rw [lb.1, Bool.true_and]; exact decide_eq_true (Nat.le_trans lb.2.1 (by decide))
end
end
end
/- G1 -/
section
theorem fresh_G1 : True := by
  w_top off
  k_with_none
  exact True.intro
variable {prog : Program} {w : World} {p : Program} {loose : List Str} {mean : ExcName → Option Value} {mg mb : Str → Option Value}
local macro_rules | `(tactic| k_room) => `(tactic| ktr_room)
local macro_rules | `(tactic| ktr_room) => `(tactic| (simp only [depth_under_make, depth_under_kw, depth_in1, depth_deeper] at *; omega))
local macro_rules | `(tactic| k_units) => `(tactic| ktr_units)
local macro_rules | `(tactic| k_mem) => `(tactic| first | assumption | (refine List.mem_cons_of_mem _ ?_; k_mem))

local macro_rules | `(tactic| walk_at "getAttr ref") => `(tactic| (k_here; k_dflt (first
  | (refine' hk_own ?k1 ?k2 ?k3 ?k4 ?k6 ?k7 ?k8 ?k9 ?_; (case k3 => k_inst); (case k2 => k_asm); (case k4 => first | exact hooked_rte | exact hooked_wpl); (case k1 => k_asm); (case k6 => k_is); (case k7 => k_is); (case k8 => assumption); (case k9 => k_handed); k_whole)
  | (refine' hk_bound ?k1 ?k2 ?k3 ?k4 ?k5 ?k7 ?k8 ?k9 ?k10 ?k11 ?k12 ?_; (case k4 => k_inst); (case k2 => k_asm); (case k5 => first | exact hooked_rte | exact hooked_wpl); (case k1 => k_asm); (case k7 => k_is); (case k3 => k_asm); (case k8 => k_is); (case k9 => k_is); (case k10 => k_is); (case k11 => decide +kernel); (case k12 => exact MsgDict.no (by assumption) _ (by decide +kernel) (by decide +kernel) (by decide +kernel)); k_whole; intro q' h' F' N' l1))))
local macro_rules | `(tactic| walk_at "getMethod ref") => `(tactic| (k_here; k_dflt (refine' hk_method ?k1 ?k2 ?k3 ?k4 ?_; (case k3 => k_inst); (case k1 => k_asm); (case k2 => k_asm); (case k4 => first | exact hooked_rte | exact hooked_wpl); k_whole)))
local macro_rules | `(tactic| walk_at "subscriptTail") => `(tactic| (k_here; (with_reducible show wpAny _ _ (subscriptTail _ (PySem.Expr.Slice _ _ none _) (Value.ref _) (Value.ref _)) _ _ _); k_dflt (first
  | (refine' sl_from ?F ?N ?l ?x ?_ ?s ?t ?z; (case F => k_asm); (case N => k_asm); (case l => k_mem); (case x => first | decide | omega); (case s => with_unfolding_all rfl); (case t => kmk_pure); (case z => first | omega | assumption))
  | (refine' sl_upto ?F ?N ?l ?x ?_ ?s ?t ?z; (case F => k_asm); (case N => k_asm); (case l => k_mem); (case x => first | decide | omega); (case s => with_unfolding_all rfl); (case t => kmk_pure); (case z => first | omega | assumption))); intro D' h' F' N' l1))
local macro_rules | `(tactic| walk_at "call builtin:len") => `(tactic| (k_here; (with_reducible show wpAny _ _ (call (Value.builtin "len") [Value.ref _]) _ _ _); k_dflt (refine' led_len ?N ?l ?z ?_; (case N => k_asm); (case l => k_mem); (case z => first | omega | assumption)); intro t' tk'))
local macro_rules | `(tactic| walk_at "subscriptTail") => `(tactic| (k_here; (with_reducible show wpAny _ _ (subscriptTail _ _ (Value.ref _) (Value.int _ _)) _ _ _); k_dflt (refine' led_item_str ?N ?l ?S ?h0 ?h1 ?z ?_ ?s; (case N => k_asm); (case l => k_mem); (case S => assumption); (case h0 => omega); (case h1 => omega); (case z => omega); (case s => with_unfolding_all rfl)); intro t'))
local macro_rules | `(tactic| walk_at "binaryOp Add str str") => `(tactic| (k_here; (with_reducible show wpAny _ _ (binaryOp Operator.Add (Value.str _ _) (Value.str _ _)) _ _ _); k_dflt (refine' add_short ?z ?_; (case z => (simp only [Str.length_append, hexText_len, len_GP, len_comma, len_dollar]; omega))); intro t' tk'))
local macro_rules | `(tactic| walk_at "ite") => `(tactic| (k_closed; k_dflt (first | refine ite_pos (by decide +kernel) ?_ | refine ite_neg (by decide +kernel) ?_)))

local macro_rules | `(tactic| walk_at "call ref") => `(tactic| ((with_reducible show wpAny _ _ (call (Value.ref 315) [Value.int _ _]) _ _ _); k_dflt (refine call_of ?_; refine' name_c  _ _ _ _ _ _ _ _ _ _ _ _ _ _ _ _ _ _ ?k1 ?k2 ?k3 ?k4 ?k5 ?k6 ?k7 ?k8 ?_; (case k1 => k_asm); (case k2 => k_asm); (case k3 => k_asm); (case k4 => k_asm); (case k5 => k_asm); (case k6 => first | rfl | assumption); (case k7 => ktr_room); (case k8 => ktr_units);  intro h' tk' v' F' N' hv'; obtain ⟨t', e'⟩ := hv'; subst e')))

theorem fr_put {h₀ h : Heap} {L : Addr} {m : Str → Option Value} {a : Str} {v : Value} (F : Fr h₀ L h m) (e : m a = some v) : Fr h₀ L h (fun y => if y = a then some v else m y) := by
  have : m = fun y => if y = a then some v else m y := funext fun y => by
    by_cases h : y = a
    · rw [if_pos h, h, e]
    · rw [if_neg h]
  rwa [← this]
local macro_rules | `(tactic| k_all) => `(tactic| first | with_reducible assumption | exact List.forall_mem_nil _ | (refine' List.forall_mem_cons.mpr ⟨?a, ?b⟩; (case a => k_ne); (case b => k_all)))
local macro_rules | `(tactic| walk_at "exec For Name Name cons nil") => `(tactic| (k_here; (rename Fr _ _ _ _ => lF'); (with_unfolding_all refine' For_invVF lF' ?k1 ?k2 ?_; (case k1 => exact rfl); (case k2 => exact rfl); k_whole)))
theorem led_last {A : Around} {E : Value → Shared → Prop} {s : Shared} {h₀ : Heap} {L l : Addr} {news : List (Addr × Obj)} {vs : List Value} {k : Nat} {v : Value} {u : Tok} {Q : Value → Shared → Prop} {value slice : PySem.Expr} (N : News h₀ L s.heap news) (hl : (l, W.listOf (vs ++ [v]).toArray k) ∈ news) (hz : vs.length ≤ 1000000) (h : Q v s)
    (hs : subscripted slice false (.ref l) (.int (-1) u) = operate [.ref l, .int (-1) u] (getItem (.ref l) (.int (-1) u)) := by with_unfolding_all rfl) :
    wpAny (model prog w) A (subscriptTail value slice (.ref l) (.int (-1) u)) Q E s :=
  tail_any (News.isList N hl).typeIs slot_list_getitem.lookup (wpAny_getItem_list_neg (News.isList N hl) (by decide) (by simp only [List.size_toArray, List.length_append, List.length_cons, List.length_nil]; omega) (by decide) (by simp only [List.size_toArray, List.length_append, List.length_cons, List.length_nil, List.getElem?_toArray]; rw [show ((-1 : Int) + ((vs.length + (0 + 1) : Nat) : Int)).toNat = vs.length by omega]; simp) h) hs
local macro_rules | `(tactic| walk_at "subscriptTail") => `(tactic| (k_here; (with_reducible show wpAny _ _ (subscriptTail _ _ (Value.ref _) (Value.int (-1) _)) _ _ _); k_dflt (refine' led_last ?N ?l ?z ?_ ?s; (case N => k_asm); (case l => k_mem); (case z => omega); (case s => with_unfolding_all rfl))))
/-- what a group is, as data -/
abbrev strsDat (xs : List Str) : PySem.W.Dat := .list (xs.map .str)
abbrev IsName (x : Str) : Prop := ∃ n, x = nameOf n
theorem strs_dat {news : List (Addr × Obj)} : ∀ {vs : List Value} {ys : List Str}, StrsAre vs ys → PySem.W.DatAll news vs (ys.map .str)
  | _, _, .nil => .nil
  | _, _, .cons y t r => .cons (.str y t) (strs_dat r)
structure GoodG (gs : List (List Str)) : Prop where
  nm : ∀ g ∈ gs, ∀ x ∈ g, IsName x
  ln : gs.length ≤ 7
  tot : (gs.map (·.length)).sum ≤ 6
/-- a list of groups comes back -/
def RetG (h₀ : Heap) (L : Addr) (m : Str → Option Value) (news : List (Addr × Obj)) (s : Shared) (Q : Value → Shared → Prop) : Prop :=
  ∀ h' tk G news' k ws gs, Fr h₀ L h' m → News h₀ L h' news' → (∀ p ∈ news, p ∈ news') → (G, W.listOf ws.toArray k) ∈ news' → PySem.W.DatAll news' ws (gs.map strsDat) → GoodG gs → Q (.ref G) { s with heap := h', toks := tk }
/-- before the i-th number -/
def JG (old : List (Addr × Obj)) (more : Int) (t : Tok) (i : Nat) (m : Str → Option Value) (nx : List (Addr × Obj)) : Prop :=
  ∃ (G g kG kg : Nat) (gs ws : List Value) (dn : List (List Str)) (last : List Str) (tl : List (Addr × Obj)), nx = (G, W.listOf (gs ++ [Value.ref g]).toArray kG) :: (g, W.listOf ws.toArray kg) :: tl ∧ (∀ p ∈ tl, p.1 ≠ G) ∧ (∀ p ∈ tl, p.1 ≠ g) ∧ G ≠ g ∧
    PySem.W.DatAll tl gs (dn.map strsDat) ∧ StrsAre ws last ∧ m (Str.ofString "groups") = some (.ref G) ∧ m (Str.ofString "more") = some (.int more t) ∧ dn.length ≤ i ∧ (dn.map (·.length)).sum + last.length ≤ i ∧ (∀ g ∈ dn, ∀ x ∈ g, IsName x) ∧ (∀ x ∈ last, IsName x) ∧ (∀ p ∈ old, p ∈ tl)
theorem ints_get : ∀ {vs : List Value} {ks : List Int} (_ : IntsAre vs ks) {i : Nat} {v : Value}, vs[i]? = some v → ∃ n t, v = .int n t
  | _, _, .nil, _, _, h => by cases h
  | _, _, .cons n t r, 0, v, h => ⟨n, t, (Option.some.inj h).symm⟩
  | _, _, .cons n t r, i + 1, v, h => ints_get r h
section
variable {h₀ : Heap} {L : Addr} {s₁ : Shared} {h' : Heap} {tk : Nat} {m' : Str → Option Value} {old own tl tl2 : List (Addr × Obj)} {more n : Int} {t t' : Tok} {i G g D kG kg k : Nat} {l : Addr} {gs ws vs : List Value} {dn : List (List Str)} {last : List Str} {lo go : Obj}
theorem JG_next (hl : (l, W.listOf vs.toArray k) ∈ old) (hoff : OwnOff own (((G, lo) :: (g, go) :: tl).map (·.1))) (d1 : ∀ p ∈ tl, p.1 ≠ G) (d2 : ∀ p ∈ tl, p.1 ≠ g) (d3 : G ≠ g)
    (dat : PySem.W.DatAll tl gs (dn.map strsDat)) (S : StrsAre ws last) (n1 : dn.length ≤ i) (n2 : (dn.map (·.length)).sum + last.length ≤ i) (n3 : ∀ g ∈ dn, ∀ x ∈ g, IsName x) (n4 : ∀ x ∈ last, IsName x) (sub : ∀ p ∈ old, p ∈ tl)
    (s1 : ∀ p ∈ tl, p ∈ tl2) (s2 : ∀ p ∈ own, p ∈ tl2) (F : Fr h₀ L h' m') (N : News h₀ L h' ((G, W.listOf (gs ++ [Value.ref g]).toArray kG) :: (g, W.listOf (ws.toArray.push (Value.str (nameOf n) t')) (kg + 1)) :: tl2))
    (e1 : m' (Str.ofString "groups") = some (.ref G)) (e2 : m' (Str.ofString "more") = some (.int more t)) :
    PySem.W.InvEndG h₀ L (fun m' nx => (l, W.listOf vs.toArray k) ∈ nx ∧ JG old more t (i + 1) m' nx) own s₁ { s₁ with heap := h', toks := tk } := by
  rw [List.push_toArray] at N
  refine PySem.W.InvEndG.intro (nx := (G, W.listOf (gs ++ [Value.ref g]).toArray kG) :: (g, W.listOf (ws ++ [Value.str (nameOf n) t']).toArray (kg + 1)) :: tl) F N ⟨List.mem_cons_of_mem _ (List.mem_cons_of_mem _ (sub _ hl)),
    G, g, kG, kg + 1, gs, ws ++ [Value.str (nameOf n) t'], dn, last ++ [nameOf n], tl, rfl, d1, d2, d3, dat, PyProof.Rows.StrsAre.append' S (.cons _ _ .nil), e1, e2, by omega, ?_, n3, ?_, sub⟩ hoff ?_ ?_
  · rw [List.length_append]; simp only [List.length_cons, List.length_nil]; omega
  · intro x hx
    rcases List.mem_append.mp hx with hx | hx
    · exact n4 x hx
    · exact ⟨n, List.mem_singleton.mp hx⟩
  · intro p hp
    rcases List.mem_cons.mp hp with e | hp
    · exact List.mem_cons.mpr (.inl e)
    rcases List.mem_cons.mp hp with e | hp
    · exact List.mem_cons_of_mem _ (List.mem_cons.mpr (.inl e))
    · exact List.mem_cons_of_mem _ (List.mem_cons_of_mem _ (s1 p hp))
  · exact fun p hp => List.mem_cons_of_mem _ (List.mem_cons_of_mem _ (s2 p hp))
theorem JG_more (hl : (l, W.listOf vs.toArray k) ∈ old) (hoff : OwnOff own (((G, lo) :: (g, go) :: tl).map (·.1))) (d1 : ∀ p ∈ tl, p.1 ≠ G) (d2 : ∀ p ∈ tl, p.1 ≠ g) (d3 : G ≠ g)
    (dat : PySem.W.DatAll tl gs (dn.map strsDat)) (S : StrsAre ws last) (n1 : dn.length ≤ i) (n2 : (dn.map (·.length)).sum + last.length ≤ i) (n3 : ∀ g ∈ dn, ∀ x ∈ g, IsName x) (n4 : ∀ x ∈ last, IsName x) (sub : ∀ p ∈ old, p ∈ tl)
    (s1 : ∀ p ∈ tl, p ∈ tl2) (s2 : ∀ p ∈ own, p ∈ tl2) (l1 : G < D ∧ g < D ∧ AllLt D tl2) (F : Fr h₀ L h' m') (N : News h₀ L h' ((D, W.listOf #[] 0) :: (G, W.listOf ((gs ++ [Value.ref g]).toArray.push (Value.ref D)) (kG + 1)) :: (g, W.listOf (ws.toArray.push (Value.str (nameOf n) t')) (kg + 1)) :: tl2))
    (e1 : m' (Str.ofString "groups") = some (.ref G)) (e2 : m' (Str.ofString "more") = some (.int more t)) :
    PySem.W.InvEndG h₀ L (fun m' nx => (l, W.listOf vs.toArray k) ∈ nx ∧ JG old more t (i + 1) m' nx) own s₁ { s₁ with heap := h', toks := tk } := by
  rw [List.push_toArray, List.push_toArray] at N
  obtain ⟨a1, a2, a3⟩ := l1
  have a4 := PySem.W.kst_ltOf a3
  refine PySem.W.InvEndG.intro (nx := (G, W.listOf ((gs ++ [Value.ref g]) ++ [Value.ref D]).toArray (kG + 1)) :: (D, W.listOf ([] : List Value).toArray 0) :: (g, W.listOf (ws ++ [Value.str (nameOf n) t']).toArray (kg + 1)) :: tl) F N ⟨List.mem_cons_of_mem _ (List.mem_cons_of_mem _ (List.mem_cons_of_mem _ (sub _ hl))),
    G, D, kG + 1, 0, gs ++ [Value.ref g], [], dn ++ [last ++ [nameOf n]], [], (g, W.listOf (ws ++ [Value.str (nameOf n) t']).toArray (kg + 1)) :: tl, rfl, ?_, ?_, Nat.ne_of_lt a1, ?_, .nil, e1, e2, ?_, ?_, ?_, (fun x h => nomatch h), fun p hp => List.mem_cons_of_mem _ (sub p hp)⟩ ?_ ?_ ?_
  · exact List.forall_mem_cons.mpr ⟨fun e => d3 e.symm, d1⟩
  · exact List.forall_mem_cons.mpr ⟨Nat.ne_of_lt a2, fun p hp => Nat.ne_of_lt (a4 p (s1 p hp))⟩
  · rw [List.map_append]
    exact PySem.W.DatAll.append (PySem.W.DatAll.mono (fun p hp => List.mem_cons_of_mem _ hp) dat) (.cons (.list (.head _) (strs_dat (PyProof.Rows.StrsAre.append' S (.cons _ _ .nil)))) .nil)
  · rw [List.length_append]; simp only [List.length_cons, List.length_nil]; omega
  · simp only [List.map_append, List.map_cons, List.map_nil, List.sum_append, List.sum_cons, List.sum_nil, List.length_append, List.length_cons, List.length_nil]; omega
  · intro g' hg x hx
    rcases List.mem_append.mp hg with hg | hg
    · exact n3 g' hg x hx
    · rw [List.mem_singleton.mp hg] at hx
      rcases List.mem_append.mp hx with hx | hx
      · exact n4 x hx
      · exact ⟨n, List.mem_singleton.mp hx⟩
  · intro p hp b hb
    rcases List.mem_cons.mp hb with e | hb
    · exact hoff p hp b (List.mem_cons.mpr (.inl e))
    rcases List.mem_cons.mp hb with e | hb
    · rw [e]; exact Nat.ne_of_lt (a4 p (s2 p hp))
    · exact hoff p hp b (List.mem_cons_of_mem _ hb)
  · intro p hp
    rcases List.mem_cons.mp hp with e | hp
    · exact List.mem_cons_of_mem _ (List.mem_cons.mpr (.inl e))
    rcases List.mem_cons.mp hp with e | hp
    · exact List.mem_cons.mpr (.inl e)
    rcases List.mem_cons.mp hp with e | hp
    · exact List.mem_cons_of_mem _ (List.mem_cons_of_mem _ (List.mem_cons.mpr (.inl e)))
    · exact List.mem_cons_of_mem _ (List.mem_cons_of_mem _ (List.mem_cons_of_mem _ (s1 p hp)))
  · exact fun p hp => List.mem_cons_of_mem _ (List.mem_cons_of_mem _ (List.mem_cons_of_mem _ (s2 p hp)))
end
theorem JG_zero {old : List (Addr × Obj)} {more : Int} {t : Tok} {G g : Nat} {m : Str → Option Value} (l1 : ∀ p ∈ old, p.1 < g) (l2 : g < G ∧ AllLt G old) (e1 : m (Str.ofString "groups") = some (.ref G)) (e2 : m (Str.ofString "more") = some (.int more t)) :
    JG old more t 0 m ((G, W.listOf #[Value.ref g] 0) :: (g, W.listOf #[] 0) :: old) :=
  ⟨G, g, 0, 0, [], [], [], [], old, rfl, fun p hp => Nat.ne_of_lt (PySem.W.kst_ltOf l2.2 p hp), fun p hp => Nat.ne_of_lt (l1 p hp), (Nat.ne_of_lt l2.1).symm, .nil, .nil, e1, e2, Nat.le_refl _, Nat.le_refl _, (fun g h => nomatch h), (fun x h => nomatch h), fun p hp => hp⟩
theorem name_all : ∀ k : Fin 50, (if ((k.val : Nat) : Int) = 49 then Str.ofString "" else wname (k.val : Int)).length ≤ 3 ∧ ∀ c ∈ (if ((k.val : Nat) : Int) = 49 then Str.ofString "" else wname (k.val : Int)).cps.toList, c < 128 ∧ c ≠ 42 ∧ c ≠ 44 := by decide +kernel
theorem name_facts {x : Str} (h : IsName x) : x.length ≤ 3 ∧ ∀ c ∈ x.cps.toList, c < 128 ∧ c ≠ 42 ∧ c ≠ 44 := by
  obtain ⟨n, rfl⟩ := h
  have h0 : 0 ≤ Int.fmod n 50 := Int.fmod_nonneg_of_pos n (by decide)
  have h1 : Int.fmod n 50 < 50 := Int.fmod_lt_of_pos n (by decide)
  obtain ⟨k, e⟩ := Int.eq_ofNat_of_zero_le h0
  have := name_all ⟨k, by omega⟩
  unfold nameOf
  rw [e]
  exact this
open PySem.Spec in
theorem ascii_ok {x : Str} (h : ∀ c ∈ x.cps.toList, c < 128) : PyData.strOk x = true := by
  unfold PyData.strOk
  rw [← Array.all_toList, List.all_eq_true]
  intro c hc
  have := h c hc
  exact decide_eq_true (by omega)
open PySem.Spec in
theorem name_ok {x : Str} (h : IsName x) : PyData.strOk x = true := ascii_ok fun c hc => ((name_facts h).2 c hc).1
theorem names_ok {k : Nat} {xs : List Str} (h : ∀ x ∈ xs, IsName x) : ∀ d ∈ xs.map PySem.W.Dat.str, okB k d = true := by
  intro d hd
  obtain ⟨x, hx, rfl⟩ := List.mem_map.mp hd
  have := name_ok (h x hx)
  cases k <;> simpa [okB] using this
theorem eq_nil {A : Around} {E : Value → Shared → Prop} {s : Shared} {h₀ : Heap} {L a b : Addr} {news : List (Addr × Obj)} {xs : List Value} {ys : List Str} {ka kb : Nat} {Q : Value → Shared → Prop} (N : News h₀ L s.heap news) (ma : (a, W.listOf xs.toArray ka) ∈ news) (Da : StrsAre xs ys) (mb : (b, W.listOf #[] kb) ∈ news)
    (ha : ∀ x ∈ ys, IsName x) (hu : A.units + 64 < cLine) (h : ∀ c, Q (.bool c) s) : wpAny (model prog w) A (compareOp .Eq (.ref a) (.ref b)) Q E s :=
  eq_dat N ma (strs_dat Da) (ys := []) mb .nil (names_ok ha) (fun d h => nomatch h) hu fun c _ => h c
theorem last_snoc {gs : List Value} {v : Value} : PySem.W.kl_last (gs ++ [v]).toArray.toList = some (gs, v) := by
  show PySem.W.kl_last (gs ++ [v]) = _
  induction gs with
  | nil => rfl
  | cons a gs ih =>
    show PySem.W.kl_last (a :: (gs ++ [v])) = _
    rw [PySem.W.kl_last, ih]
local macro_rules | `(tactic| walk_at "call builtin:list.pop") => `(tactic| (k_here; (with_reducible show wpAny _ _ (call (Value.builtin _) [Value.ref _]) _ _ _); k_dflt (refine' PySem.W.kl_pop ?F ?N ?e ?U ?z ?_; (case F => k_asm); (case N => k_asm); (case U => k_upd); (case e => exact last_snoc); (case z => (rw [sizeLine_eq]; simp only [List.length_append, List.length_cons, List.length_nil]; omega))); intro h' F' N'))
local macro_rules | `(tactic| walk_at "call builtin:len") => `(tactic| (k_here; (with_reducible show wpAny _ _ (call (Value.builtin "len") [Value.ref _]) _ _ _); k_dflt (refine' led_len ?N ?l ?z ?_; (case N => k_asm); (case l => k_mem); (case z => (simp only [List.length_append, List.length_cons, List.length_nil]; omega))); intro t' tk'))
local macro_rules | `(tactic| walk_at "compareOp Eq ref ref") => `(tactic| (k_here; k_dflt (refine' eq_nil ?N ?ma ?Da ?mb ?ha ?hu ?_; (case N => k_asm); (case ma => k_mem); (case Da => assumption); (case mb => exact List.Mem.head _); (case ha => assumption); (case hu => ktr_units)); intro cc'))
section
variable {h₀ : Heap} {L : Addr} {m : Str → Option Value} {news tl : List (Addr × Obj)} {s : Shared} {Q : Value → Shared → Prop} {h' : Heap} {tk i : Nat} {D G g kG kg : Nat} {X : Obj} {gs ws : List Value} {dn : List (List Str)} {last : List Str}
theorem RG_keep (R : RetG h₀ L m news s Q) (F : Fr h₀ L h' m) (N : News h₀ L h' ((D, X) :: (G, W.listOf (gs ++ [Value.ref g]).toArray kG) :: (g, W.listOf ws.toArray kg) :: tl)) (dat : PySem.W.DatAll tl gs (dn.map strsDat)) (S : StrsAre ws last) (hi : i ≤ 6) (n1 : dn.length ≤ i) (n2 : (dn.map (·.length)).sum + last.length ≤ i)
    (n3 : ∀ g ∈ dn, ∀ x ∈ g, IsName x) (n4 : ∀ x ∈ last, IsName x) (sub : ∀ p ∈ news, p ∈ tl) : Q (.ref G) { s with heap := h', toks := tk } := by
  refine R h' tk G _ kG (gs ++ [Value.ref g]) (dn ++ [last]) F N (fun p hp => List.mem_cons_of_mem _ (List.mem_cons_of_mem _ (List.mem_cons_of_mem _ (sub p hp)))) (List.mem_cons_of_mem _ (.head _)) ?_ ⟨?_, ?_, ?_⟩
  · rw [List.map_append]
    exact PySem.W.DatAll.append (PySem.W.DatAll.mono (fun p hp => List.mem_cons_of_mem _ (List.mem_cons_of_mem _ (List.mem_cons_of_mem _ hp))) dat) (.cons (.list (List.mem_cons_of_mem _ (List.mem_cons_of_mem _ (.head _))) (strs_dat S)) .nil)
  · intro g' hg x hx
    rcases List.mem_append.mp hg with hg | hg
    · exact n3 g' hg x hx
    · rw [List.mem_singleton.mp hg] at hx
      exact n4 x hx
  · rw [List.length_append]; simp only [List.length_cons, List.length_nil]; omega
  · simp only [List.map_append, List.map_cons, List.map_nil, List.sum_append, List.sum_cons, List.sum_nil]; omega
theorem RG_pop (R : RetG h₀ L m news s Q) (F : Fr h₀ L h' m) (N : News h₀ L h' ((D, X) :: (G, W.listOf gs.toArray kG) :: (g, W.listOf ws.toArray kg) :: tl)) (dat : PySem.W.DatAll tl gs (dn.map strsDat)) (hi : i ≤ 6) (n1 : dn.length ≤ i) (n2 : (dn.map (·.length)).sum + last.length ≤ i)
    (n3 : ∀ g ∈ dn, ∀ x ∈ g, IsName x) (sub : ∀ p ∈ news, p ∈ tl) : Q (.ref G) { s with heap := h', toks := tk } :=
  R h' tk G _ kG gs dn F N (fun p hp => List.mem_cons_of_mem _ (List.mem_cons_of_mem _ (List.mem_cons_of_mem _ (sub p hp)))) (List.mem_cons_of_mem _ (.head _)) (PySem.W.DatAll.mono (fun p hp => List.mem_cons_of_mem _ (List.mem_cons_of_mem _ (List.mem_cons_of_mem _ hp))) dat) ⟨n3, by omega, by omega⟩
end
set_option maxHeartbeats 4000000 in
theorem groups_c {vs : List Value} {ks : List Int} {l : Addr} {k : Nat} {more : Int} {t : Tok} (hi : IntsAre vs ks) (hn : ks.length ≤ 6) :
    Claim prog w p loose mean mg mb 2 329 [.ref l, .int more t] (fun h₀ L m news s Q => (l, W.listOf vs.toArray k) ∈ news ∧ RetG h₀ L m news s Q) := by
  unfold Claim
  intro dp un gd cn cs a ccd cl outer A₀ base h₀ L m news s Q E B F X N T hk hd hu hret
  k_dflt (refine' code_def ?k1 ?k2 ?k3 ?k4 ?k5 ?kA ?kF ?kK ?k6 ?k7 ?k8 ?k9 ?kB ?_ ?c2 ?c3 ?c4 ?c5; (case kA => exact rfl); (case kF => exact rfl); (case kK => first | rfl | assumption); (case k1 => k_asm); (case k2 => k_asm); (case k3 => k_asm); (case k4 => k_asm); (case k5 => k_asm); (case k6 => k_is); (case k7 => k_is); (case k8 => ktr_room); (case k9 => exact BindsTo.of_eq rfl); (case c5 => decide); (case kB => exact locs rfl); (case c2 => exact rfl); (case c3 => exact rfl); (case c4 => exact rfl); k_whole; intro g' L' h1' FG' F' N' B' X' T'; (try dsimp only))

  obtain ⟨m1, hret⟩ := hret
  have hn' : vs.length ≤ 6 := by rw [IntsAre.length hi]; exact hn
  k_steps
  rename Fr _ _ _ _ => F1
  rename News _ _ _ _ => N1
  k_dflt refine' PySem.W.kdl_iter (vs := vs) (nn := k) (JG news more t) rfl ?hl F1 N1 ?j ?turn ?done
  case hl => k_mem
  case j => k_dflt (refine' JG_zero ?a ?b ?c ?d; (case a => assumption); (case b => assumption); (case c => rfl); (case d => rfl))
  case turn =>
    intro i v m₁ news₁ h tk own hv hoff hl₁ hJ F₁ N₁
    obtain ⟨G, g, kG, kg, gs, ws, dn, last, tl, rfl, d1, d2, d3, D, S, e1, e2, n1, n2, n3, n4, sub⟩ := hJ
    obtain ⟨n, tn, rfl⟩ := ints_get hi hv
    replace F₁ := fr_put (fr_put F₁ (a := Str.ofString "more") (v := .int more t) e2) (a := Str.ofString "groups") (v := .ref G) e1
    obtain ⟨tl2, s1, s2, s3⟩ : ∃ tl2, (∀ p ∈ tl, p ∈ tl2) ∧ (∀ p ∈ own, p ∈ tl2) ∧ (∀ p ∈ tl2, p ∈ tl ∨ p ∈ own) := ⟨tl ++ own, fun p h => List.mem_append_left _ h, fun p h => List.mem_append_right _ h, fun p h => List.mem_append.mp h⟩
    have o1 : ∀ p ∈ own, p.1 ≠ G := fun p hp => hoff p hp G (by simp)
    have o2 : ∀ p ∈ own, p.1 ≠ g := fun p hp => hoff p hp g (by simp)
    have q1 : ∀ p ∈ tl2, p.1 ≠ G := fun p hp => (s3 p hp).elim (d1 p) (o1 p)
    have q2 : ∀ p ∈ tl2, p.1 ≠ g := fun p hp => (s3 p hp).elim (d2 p) (o2 p)
    have N₂ : News _ _ h ((G, W.listOf (gs ++ [Value.ref g]).toArray kG) :: (g, W.listOf ws.toArray kg) :: tl2) := fun p hp => N₁ p (by
      rcases List.mem_cons.mp hp with e | hp
      · exact List.mem_append_left _ (List.mem_cons.mpr (.inl e))
      rcases List.mem_cons.mp hp with e | hp
      · exact List.mem_append_left _ (List.mem_cons_of_mem _ (List.mem_cons.mpr (.inl e)))
      · rcases s3 p hp with h | h
        · exact List.mem_append_left _ (List.mem_cons_of_mem _ (List.mem_cons_of_mem _ h))
        · exact List.mem_append_right _ h)
    clear N₁
    have hi6 : i < vs.length := (List.getElem?_eq_some_iff.mp hv).1
    have z1 := D.length
    have z2 := StrsAre.len S
    simp only [List.length_map] at z1
    k_steps
    · exact JG_more m1 hoff d1 d2 d3 D S n1 n2 n3 n4 sub s1 s2 (by assumption) (by k_asm) (by k_asm) rfl rfl
    · exact JG_next m1 hoff d1 d2 d3 D S n1 n2 n3 n4 sub s1 s2 (by k_asm) (by k_asm) rfl rfl
  case done =>
    intro m₁ news₁ h tk hJ F₁ N₁
    obtain ⟨G, g, kG, kg, gs, ws, dn, last, tl, rfl, d1, d2, d3, D, S, e1, e2, n1, n2, n3, n4, sub⟩ := hJ
    replace F₁ := fr_put (fr_put F₁ (a := Str.ofString "more") (v := .int more t) e2) (a := Str.ofString "groups") (v := .ref G) e1
    have z1 := D.length
    have z2 := StrsAre.len S
    simp only [List.length_map] at z1
    k_steps
    all_goals first | exact RG_keep hret (by k_asm) (by k_asm) D S hn' n1 n2 n3 n4 sub | exact RG_pop hret (by k_asm) (by k_asm) D hn' n1 n2 n3 sub
end
/- U1 -/
section
variable {prog : Program} {w : World} {p : Program} {loose : List Str} {mean : ExcName → Option Value} {mg mb : Str → Option Value}
local macro_rules | `(tactic| k_room) => `(tactic| ktr_room)
local macro_rules | `(tactic| ktr_room) => `(tactic| (simp only [depth_under_make, depth_under_kw, depth_in1, depth_deeper] at *; omega))
local macro_rules | `(tactic| k_units) => `(tactic| ktr_units)
local macro_rules | `(tactic| k_mem) => `(tactic| first | assumption | (refine List.mem_cons_of_mem _ ?_; k_mem))

section
open PySem.W
variable {A : Around} {E : Value → Shared → Prop} {s : Shared} {env : Env} {h₀ : Heap} {a b : Str} {pa pb tp : Pos} {kk : Nat} {body : List Stmt} {Q : Flow → Shared → Prop}
theorem enum_iter {l : Addr} {vs : List Value} {nn : Nat} {m₀ : Str → Option Value} {news : List (Addr × Obj)} (J : Nat → (Str → Option Value) → List (Addr × Obj) → Prop)
    (hh : A.handled = none) (ha : env.kindOf a = some .local) (hb : env.kindOf b = some .local) (hpk : (env.scope.kind == .class || (env.scope.kind == .module && env.locals != env.globals)) = false)
    (hl : (l, W.listOf vs.toArray nn) ∈ news) (F : Fr h₀ env.locals s.heap m₀) (N : News h₀ env.locals s.heap news) (hj : J 0 m₀ news)
    (turn : ∀ i t v m₁ news₁ h tk own, vs[i]? = some v → OwnOff own (news₁.map (·.1)) → (l, W.listOf vs.toArray nn) ∈ news₁ → J i m₁ news₁ → Fr h₀ env.locals h (fun z => if z = b then some v else if z = a then some (.int (i : Nat) t) else m₁ z) → News h₀ env.locals h (news₁ ++ own) →
      wpAny (model prog w) A (execs body env) (InvPostG h₀ env.locals (fun m' nx => (l, W.listOf vs.toArray nn) ∈ nx ∧ J (i + 1) m' nx) own { s with heap := h, toks := tk } Q) E { s with heap := h, toks := tk })
    (done : ∀ m₁ news₁ h tk, J vs.length m₁ news₁ → Fr h₀ env.locals h m₁ → News h₀ env.locals h news₁ → Q .next { s with heap := h, toks := tk }) :
    wpAny (model prog w) A (call (.type "enumerate") [.ref l]) (fun xv s₁ => wpAny (model prog w) A (pyIter xv) (fun it s₂ => TurnsAt prog w A h₀ env (.Tuple [.Name a pa, .Name b pb] kk tp) body Q E it s₂) E s₁) E s := by
  have hax := N _ hl
  have hls : s.heap.IsList l vs.toArray := ⟨_, hax.1, rfl, nn, rfl⟩
  have hlt : l < s.heap.objs.size := Heap.lt_size hax.1
  have hLs : env.locals < s.heap.objs.size := F.ns.lt
  refine call_enumerate_list hls fun h' hE hI hsz hk => ?_
  refine wpAny_pyIter_enum hE ?_
  have W0 := KTurns.ofWalksU (elts := [.Name a pa, .Name b pb]) (k := kk) (pos := tp) (WalksT.enumerate (prog := prog) (w := w) hh (s.heap.objs.size + 1) s.heap.objs.size l (Nat.succ_ne_self _) (ktu_ne 1 hlt) (Nat.ne_of_lt hlt) vs.toArray).toU
  refine ⟨_, _, _, _, _, _, _, m₀, news, (fun i m nx => (l, W.listOf vs.toArray nn) ∈ nx ∧ J i m nx), rfl, W0, ?_, ?_, ?_, ⟨⟨_, hE⟩, hI, hls.at fun o e => hk _ o e⟩, F.keeps hk, N.grown hk, ⟨hl, hj⟩, ?_, ?_⟩
  · intro hI'
    have hb' : env.locals = s.heap.objs.size + 1 ∨ env.locals = s.heap.objs.size ∨ env.locals = l := by simpa using hI'
    rcases hb' with e | e | e
    · exact ktu_ne 1 hLs e
    · exact Nat.ne_of_lt hLs e
    · exact hax.2.1 e.symm
  · intro b' hb
    have hb' : b' = s.heap.objs.size + 1 ∨ b' = s.heap.objs.size := by simpa using hb
    rcases hb' with rfl | rfl
    · exact ktu_new F (Nat.le_add_right _ _)
    · exact ktu_new F (Nat.le_refl _)
  · intro p hp hI'
    have h1 : p.1 < s.heap.objs.size := Heap.lt_size (N p hp).1
    have hb' : p.1 = s.heap.objs.size + 1 ∨ p.1 = s.heap.objs.size := by simpa using hI'
    rcases hb' with e | e
    · exact ktu_ne 1 h1 e
    · exact Nat.ne_of_lt h1 e
  · rintro i v m₁ news₁ h₁ tk₁ own hin ⟨T, vals, rfl, ⟨t, x, hx, rfl⟩, hT⟩ ⟨hl₁, hJ⟩ hoff hown hget hfp ⟨⟨old, he⟩, ⟨oi, hoi, hic, _⟩, _⟩ F₁ N₁
    refine kcp_assign hh hT ha hb hpk F₁.ns fun h₂ tk₂ hns hk₂ => ?_
    have F₂ : Fr h₀ env.locals h₂ _ := ⟨hns, fun c o q => hk₂ c o (Nat.ne_of_lt (Nat.lt_of_lt_of_le (Heap.lt_size q) F₁.above)) (F₁.keep c o q), F₁.above⟩
    have N₂ : News h₀ env.locals h₂ (own ++ news₁) := fun p hp => ⟨hk₂ _ _ (N₁ p hp).2.1 (N₁ p hp).1, (N₁ p hp).2⟩
    have ee : ∃ oe : Obj, h₁.get? (s.heap.objs.size + 1) = some oe := ⟨_, he⟩
    obtain ⟨oe, hoe⟩ := ee
    have m1 : (s.heap.objs.size + 1, oe) ∈ own := hfp _ (by simp) (ktu_new F (Nat.le_add_right _ _)) _ hoe
    have m2 : (s.heap.objs.size, oi) ∈ own := hfp _ (by simp) (ktu_new F (Nat.le_refl _)) _ hoi
    have k1 : (s.heap.objs.size + 1, oe) ∈ own.filter fun p => decide (p.1 ≠ l) := List.mem_filter.mpr ⟨m1, by simpa using (ktu_ne 1 hlt).symm⟩
    have k2 : (s.heap.objs.size, oi) ∈ own.filter fun p => decide (p.1 ≠ l) := List.mem_filter.mpr ⟨m2, by simpa using (Nat.ne_of_lt hlt).symm⟩
    have hsep : OwnOff (own.filter fun p => decide (p.1 ≠ l)) (news₁.map (·.1)) := by
      intro p hp b' hb e
      obtain ⟨q, hq, rfl⟩ := List.mem_map.mp hb
      have h1 : p.1 ≠ l := by simpa using (List.mem_filter.mp hp).2
      have h2 := hown p (List.mem_filter.mp hp).1
      have h3 : p.1 = s.heap.objs.size + 1 ∨ p.1 = s.heap.objs.size ∨ p.1 = l := by simpa using h2
      refine hoff q hq ?_
      rcases h3 with h3 | h3 | h3
      · rw [← e, h3]; simp
      · rw [← e, h3]; simp
      · exact absurd h3 h1
    have N₃ : News h₀ env.locals h₂ (news₁ ++ own.filter fun p => decide (p.1 ≠ l)) := fun p hp => N₂ p ((List.mem_append.mp hp).elim (fun h => List.mem_append.mpr (.inr h)) fun h => List.mem_append.mpr (.inl ((List.mem_filter.mp h).1)))
    have hlo : h₁.get? l = some (W.listOf vs.toArray nn) := (N₁ _ (List.mem_append.mpr (.inr hl₁))).1
    refine wpAny_mono (turn i t x m₁ news₁ h₂ tk₂ _ (by simpa using hx) hsep hl₁ hJ F₂ N₃) (fun f s₂ p => ?_) fun _ _ e => e
    have fin : InvEndG h₀ env.locals (fun m' nx => (l, W.listOf vs.toArray nn) ∈ nx ∧ J (i + 1) m' nx) (own.filter fun p => decide (p.1 ≠ l)) { s with heap := h₂, toks := tk₂ } s₂ →
        LoopStepU h₀ env.locals [s.heap.objs.size + 1, s.heap.objs.size] own (fun m nx => (l, W.listOf vs.toArray nn) ∈ nx ∧ J (i + 1) m nx) { s with heap := h₁, toks := tk₁ } .next s₂ := by
      rintro ⟨h', tk, m', news', nx, e, F', N', hn, ho, hof, hm⟩
      refine ⟨rfl, h', tk, m', nx, e, F', fun p hp => ?_, fun p hp hq => ?_, hm⟩
      · rcases List.mem_append.mp hp with h | h
        · by_cases hI : p.1 = l
          · have h2 : h₁.get? p.1 = some p.2 := hget p h
            rw [hI, hlo] at h2
            have h3 : p = (l, W.listOf vs.toArray nn) := Prod.ext hI (Option.some.inj h2).symm
            rw [h3]
            exact N' _ (hn _ hm.1)
          · exact N' p (ho p (List.mem_filter.mpr ⟨h, by simpa using hI⟩))
        · exact N' p (hn p h)
      · have hb' : p.1 = s.heap.objs.size + 1 ∨ p.1 = s.heap.objs.size := by simpa using hq
        rcases hb' with e | e
        · exact hof _ k1 p.1 (List.mem_map.mpr ⟨p, hp, rfl⟩) e.symm
        · exact hof _ k2 p.1 (List.mem_map.mpr ⟨p, hp, rfl⟩) e.symm
    cases f with
    | ret v => exact p
    | brk => exact p
    | next => exact fin p
    | cont => exact fin p
  · rintro h' tk m' news' F' N' _ ⟨_, hJ⟩
    exact done m' news' h' tk (by simpa using hJ) F' N'
end
/-- an int comes back, whatever it is -/
def CutInt (h₀ : Heap) (L : Addr) (m : Str → Option Value) (news : List (Addr × Obj)) (s : Shared) (v : Value) (s' : Shared) : Prop := ∃ n t h' tk, v = .int n t ∧ s' = { s with heap := h', toks := tk } ∧ Fr h₀ L h' m ∧ News h₀ L h' news
theorem cut_int {A : Around} {E : Value → Shared → Prop} {s : Shared} {h₀ : Heap} {L : Addr} {m : Str → Option Value} {news : List (Addr × Obj)} {tree : Sem Value} {Q : Value → Shared → Prop} (_F : Fr h₀ L s.heap m) (_N : News h₀ L s.heap news) (h1 : wpAny (model prog w) A tree (CutInt h₀ L m news s) E s)
    (h2 : ∀ n t h' tk, Fr h₀ L h' m → News h₀ L h' news → Q (.int n t) { s with heap := h', toks := tk }) : wpAny (model prog w) A tree Q E s :=
  wpAny_mono h1 (fun v s' ⟨n, t, h', tk, e1, e2, F', N'⟩ => by rw [e1, e2]; exact h2 n t h' tk F' N') fun _ _ e => e
end
/- U2 -/
section
variable {prog : Program} {w : World} {p : Program} {loose : List Str} {mean : ExcName → Option Value} {mg mb : Str → Option Value}
local macro_rules | `(tactic| k_room) => `(tactic| ktr_room)
local macro_rules | `(tactic| ktr_room) => `(tactic| (simp only [depth_under_make, depth_under_kw, depth_in1, depth_deeper] at *; omega))
local macro_rules | `(tactic| k_units) => `(tactic| ktr_units)
local macro_rules | `(tactic| k_mem) => `(tactic| first | assumption | (refine List.mem_cons_of_mem _ ?_; k_mem))

section
open PySem.W
variable {A : Around} {E : Value → Shared → Prop} {s : Shared} {env : Env} {h₀ : Heap} {elts : List Expr} {tp : Pos} {kk : Nat} {body : List Stmt} {Q : Flow → Shared → Prop}
/-- `for a, b, c in rows`: a list whose values are lists -/
theorem rows_iter {l : Addr} {vs : List Value} {nn : Nat} {m₀ : Str → Option Value} {news : List (Addr × Obj)} (J : Nat → (Str → Option Value) → List (Addr × Obj) → Prop)
    (hh : A.handled = none) (href : ∀ (i : Nat) (v : Value), vs[i]? = some v → ∃ T : Addr, v = Value.ref T) (hl : (l, W.listOf vs.toArray nn) ∈ news) (F : Fr h₀ env.locals s.heap m₀) (N : News h₀ env.locals s.heap news) (hj : J 0 m₀ news)
    (turn : ∀ i v m₁ news₁ h tk own, vs[i]? = some v → OwnOff own (news₁.map (·.1)) → (l, W.listOf vs.toArray nn) ∈ news₁ → J i m₁ news₁ → Fr h₀ env.locals h m₁ → News h₀ env.locals h (news₁ ++ own) →
      wpAny (model prog w) A (assign (.Tuple elts kk tp) env v) (fun _ s₃ => wpAny (model prog w) A (execs body env) (InvPostG h₀ env.locals (fun m' nx => (l, W.listOf vs.toArray nn) ∈ nx ∧ J (i + 1) m' nx) own { s with heap := h, toks := tk } Q) E s₃) E { s with heap := h, toks := tk })
    (done : ∀ m₁ news₁ h tk, J vs.length m₁ news₁ → Fr h₀ env.locals h m₁ → News h₀ env.locals h news₁ → Q .next { s with heap := h, toks := tk }) :
    wpAny (model prog w) A (pyIter (.ref l)) (fun it s₂ => TurnsAt prog w A h₀ env (.Tuple elts kk tp) body Q E it s₂) E s := by
  have hol : s.heap.get? l = some (W.listOf vs.toArray nn) := (N _ hl).1
  have hls : s.heap.IsList l vs.toArray := ⟨_, hol, rfl, nn, rfl⟩
  have hne : l ≠ s.heap.objs.size := Nat.ne_of_lt (Heap.lt_size hol)
  refine wpAny_pyIter_list hls ?_
  have WW := Walks.list (prog := prog) (w := w) hh s.heap.objs.size l hne vs.toArray
  have W0 : KTurns prog w A (.Tuple elts kk tp) s.heap.objs.size [s.heap.objs.size, l] [s.heap.objs.size] vs.toArray.size (fun i v _ => vs.toArray[i]? = some v) (fun i v h => vs.toArray[i]? = some v ∧ h.IsListIter s.heap.objs.size l (i + 1) ∧ h.IsList l vs.toArray) (fun i h => h.IsListIter s.heap.objs.size l i ∧ h.IsList l vs.toArray) :=
    { sub := WW.sub
      frame := WW.frame
      item := fun i s Q E hi st hQ => WW.item i s Q E hi st fun v h' tk hP st' hk => hQ v h' tk ⟨hP, st'⟩ hk
      go := fun i v s Q E hm hQ => by
        obtain ⟨hv, st⟩ := hm
        obtain ⟨T, rfl⟩ := href i v (by simpa using hv)
        exact wpAny_letOwnedTupleGo_listiter st.1 (hQ s.heap hv st fun _ _ _ e => e)
      done := WW.done }
  refine ⟨_, _, _, _, _, _, _, m₀, news, (fun i m nx => (l, W.listOf vs.toArray nn) ∈ nx ∧ J i m nx), rfl, W0, ?_, ?_, ?_, ⟨⟨_, Heap.get?_push_size _ rfl, rfl, rfl⟩, hls.at fun o e => Heap.get?_push_of_some _ e⟩, F.push _, (fun p hp => ⟨Heap.get?_push_of_some _ (N p hp).1, (N p hp).2⟩), ⟨hl, hj⟩, ?_, ?_⟩
  · intro hm
    rcases List.mem_cons.mp hm with e | hm
    · exact absurd F.ns.lt (e ▸ Nat.lt_irrefl _)
    · exact (N _ hl).2.1 ((List.mem_singleton.mp hm).symm)
  · intro b hb
    rw [List.mem_singleton.mp hb]
    exact next_is_new F
  · intro p hp hI
    exact absurd (Heap.lt_size (N p hp).1) ((List.mem_singleton.mp hI) ▸ Nat.lt_irrefl _)
  · rintro i v m₁ news₁ hh' tk' own hin hP ⟨hl₁, hJ⟩ hoff hown hget hfp hst F₁ N₁
    have hP' : vs[i]? = some v := by simpa using hP
    have hI0 : h₀.get? s.heap.objs.size = none := next_is_new F
    obtain ⟨⟨oI, hoI, _⟩, _⟩ := id hst
    have hIown : (s.heap.objs.size, oI) ∈ own.filter fun p => decide (p.1 = s.heap.objs.size) := List.mem_filter.mpr ⟨hfp _ (List.mem_cons.mpr (.inl rfl)) hI0 _ hoI, by simp⟩
    have hsep : OwnOff (own.filter fun p => decide (p.1 = s.heap.objs.size)) (news₁.map (·.1)) := by
      intro p hp b hb e
      obtain ⟨q, hq, rfl⟩ := List.mem_map.mp hb
      have h1 : p.1 = s.heap.objs.size := by simpa using (List.mem_filter.mp hp).2
      exact hoff q hq (List.mem_singleton.mpr (e ▸ h1))
    have N₂ : News h₀ env.locals hh' (news₁ ++ own.filter fun p => decide (p.1 = s.heap.objs.size)) := fun p hp => N₁ p ((List.mem_append.mp hp).elim (fun h => List.mem_append.mpr (.inr h)) fun h => List.mem_append.mpr (.inl ((List.mem_filter.mp h).1)))
    have hlo : hh'.get? l = some (W.listOf vs.toArray nn) := (N₁ _ (List.mem_append.mpr (.inr hl₁))).1
    refine wpAny_mono (turn i v m₁ news₁ hh' tk' _ hP' hsep hl₁ hJ F₁ N₂) (fun _ s₃ hp => wpAny_mono hp (fun f s₂ p => ?_) fun _ _ e => e) fun _ _ e => e
    have fin : InvEndG h₀ env.locals (fun m' nx => (l, W.listOf vs.toArray nn) ∈ nx ∧ J (i + 1) m' nx) (own.filter fun p => decide (p.1 = s.heap.objs.size)) { s with heap := hh', toks := tk' } s₂ →
        LoopStepU h₀ env.locals [s.heap.objs.size] own (fun m nx => (l, W.listOf vs.toArray nn) ∈ nx ∧ J (i + 1) m nx) { s with heap := hh', toks := tk' } .next s₂ := by
      rintro ⟨h', tk, m', news', nx, e, F', N', hn, ho, ha, hm⟩
      refine ⟨rfl, h', tk, m', nx, e, F', fun p hp => ?_, fun p hp hq => ?_, hm⟩
      · rcases List.mem_append.mp hp with h | h
        · by_cases hI : p.1 = s.heap.objs.size
          · exact N' p (ho p (List.mem_filter.mpr ⟨h, by simpa using hI⟩))
          · have h1 : p.1 = l := by
              rcases List.mem_cons.mp (hown p h) with h2 | h2
              · exact absurd h2 hI
              · exact List.mem_singleton.mp h2
            have h2 : hh'.get? p.1 = some p.2 := hget p h
            rw [h1, hlo] at h2
            have h3 : p = (l, W.listOf vs.toArray nn) := Prod.ext h1 (Option.some.inj h2).symm
            rw [h3]
            exact N' _ (hn _ hm.1)
        · exact N' p (hn p h)
      · exact ha _ hIown p.1 (List.mem_map.mpr ⟨p, hp, rfl⟩) (List.mem_singleton.mp hq).symm
    cases f with
    | ret v => exact p
    | brk => exact p
    | next => exact fin p
    | cont => exact fin p
  · rintro h' tk m' news' F' N' _ ⟨_, hJ⟩
    exact done m' news' h' tk (by simpa using hJ) F' N'
end
section
open PySem.W
theorem data_seq {news news' : List (Addr × Obj)} (h : ∀ p ∈ news, (∃ its n, p.2.data = .seq its n) → p ∈ news') : (∀ {v : Value} {d : Dat}, DatIn news v d → DatIn news' v d) ∧ (∀ {vs : List Value} {ds : List Dat}, DatAll news vs ds → DatAll news' vs ds) :=
  ⟨inn h, all h⟩
where
  inn {news news' : List (Addr × Obj)} (h : ∀ p ∈ news, (∃ its n, p.2.data = .seq its n) → p ∈ news') : ∀ {v : Value} {d : Dat}, DatIn news v d → DatIn news' v d
    | _, _, .none => .none
    | _, _, .bool b => .bool b
    | _, _, .int i t => .int i t
    | _, _, .str x t => .str x t
    | _, _, .bytes b t => .bytes b t
    | _, _, .tuple hm r => .tuple (h _ hm ⟨_, _, rfl⟩) (all h r)
    | _, _, .list hm r => .list (h _ hm ⟨_, _, rfl⟩) (all h r)
  all {news news' : List (Addr × Obj)} (h : ∀ p ∈ news, (∃ its n, p.2.data = .seq its n) → p ∈ news') : ∀ {vs : List Value} {ds : List Dat}, DatAll news vs ds → DatAll news' vs ds
    | _, _, .nil => .nil
    | _, _, .cons a r => .cons (inn h a) (all h r)
end
end
/- V1 -/
section
variable {prog : Program} {w : World} {p : Program} {loose : List Str} {mean : ExcName → Option Value} {mg mb : Str → Option Value}
local macro_rules | `(tactic| k_room) => `(tactic| ktr_room)
local macro_rules | `(tactic| ktr_room) => `(tactic| (simp only [depth_under_make, depth_under_kw, depth_in1, depth_deeper] at *; omega))
local macro_rules | `(tactic| k_units) => `(tactic| ktr_units)
local macro_rules | `(tactic| k_mem) => `(tactic| first | assumption | (refine List.mem_cons_of_mem _ ?_; k_mem))

theorem dat_strs {news : List (Addr × Obj)} : ∀ {vs : List Value} {ys : List Str}, PySem.W.DatAll news vs (ys.map .str) → StrsAre vs ys
  | [], [], _ => .nil
  | [], _ :: _, h => nomatch h
  | v :: vs, [], h => nomatch h
  | v :: vs, y :: ys, h => by
    cases h with
    | cons a r =>
      cases a
      exact .cons y _ (dat_strs r)
theorem group_at {news : List (Addr × Obj)} {vs : List Value} {gs : List (List Str)} (h : PySem.W.DatAll news vs (gs.map strsDat)) {i : Nat} {v : Value} (e : vs[i]? = some v) : ∃ g k us, v = .ref g ∧ (g, W.listOf us.toArray k) ∈ news ∧ StrsAre us (gs.getD i []) ∧ i < gs.length := by
  have hl := h.length
  have hi : i < vs.length := (List.getElem?_eq_some_iff.mp e).1
  rw [List.length_map] at hl
  obtain ⟨u, e2, D⟩ := h.get (k := i) (by rw [List.length_map]; omega)
  rw [e] at e2
  cases Option.some.inj e2
  rw [List.getElem_map] at D
  cases D with
  | list hm r =>
    refine ⟨_, _, _, rfl, hm, ?_, by omega⟩
    rw [show gs.getD i [] = gs[i]'(by omega) by rw [List.getD_eq_getElem?_getD, List.getElem?_eq_getElem (by omega)]; rfl]
    exact dat_strs r
/-- a number's text -/
def num (n : Nat) : Str := Str.ofString (toString ((n : Nat) : Int))
def rfields (gs : List (List Str)) (sta tit : Str) (k : Nat) : List Str := [num gs.length, num (k + 1), sta, tit] ++ gs.getD k []
abbrev RTEk : Str := ⟨#[82, 84, 69]⟩
abbrev WPLk : Str := ⟨#[87, 80, 76]⟩
def rbody (gs : List (List Str)) (sta tit : Str) (k : Nat) : Str := bodyOf RTEk (rfields gs sta tit k)
theorem rhead : Str.ofString "GPRTE," = Str.ofString "GP" ++ RTEk ++ Str.ofString "," := by decide +kernel
theorem whead : Str.ofString "GPWPL," = Str.ofString "GP" ++ WPLk ++ Str.ofString "," := by decide +kernel
/-- what the law's frame holds all along -/
structure Look (m : Str → Option Value) (G ld : Addr) (sta tit : Str) : Prop where
  gr : m (Str.ofString "groups") = some (.ref G)
  dr : m (Str.ofString "drawn") = some (.ref ld)
  st : ∃ t, m (Str.ofString "start") = some (.str sta t)
  ti : ∃ t, m (Str.ofString "title") = some (.str tit t)
/-- before the i-th group, first loop -/
def J1 (old : List (Addr × Obj)) (G ld : Addr) (sta tit : Str) (gs : List (List Str)) (i : Nat) (m : Str → Option Value) (nx : List (Addr × Obj)) : Prop :=
  ∃ (S kS Na kN : Nat) (sb nb : List Value) (tl : List (Addr × Obj)), nx = (S, W.listOf sb.toArray kS) :: tl ∧ (∀ p ∈ tl, p.1 ≠ S) ∧ (∀ p ∈ old, p ∈ tl) ∧ (Na, W.listOf nb.toArray kN) ∈ tl ∧ StrsAre nb (gs.take i).flatten ∧ StrsAre sb ((List.range i).map (rbody gs sta tit)) ∧ Look m G ld sta tit ∧
    m (Str.ofString "names") = some (.ref Na) ∧ m (Str.ofString "sent") = some (.ref S)
theorem J1_zero {old : List (Addr × Obj)} {G ld : Addr} {sta tit : Str} {gs : List (List Str)} {S Na : Nat} {m : Str → Option Value} (l1 : ∀ p ∈ old, p.1 < Na) (l2 : Na < S ∧ AllLt S old) (lk : Look m G ld sta tit) (e1 : m (Str.ofString "names") = some (.ref Na)) (e2 : m (Str.ofString "sent") = some (.ref S)) :
    J1 old G ld sta tit gs 0 m ((S, W.listOf #[] 0) :: (Na, W.listOf #[] 0) :: old) :=
  ⟨S, 0, Na, 0, [], [], (Na, W.listOf #[] 0) :: old, rfl, List.forall_mem_cons.mpr ⟨Nat.ne_of_lt l2.1, fun p hp => Nat.ne_of_lt (PySem.W.kst_ltOf l2.2 p hp)⟩, fun p hp => List.mem_cons_of_mem _ hp, .head _, by rw [List.take_zero]; exact .nil, .nil, lk, e1, e2⟩
theorem fin10 (n : Int) : ∃ k : Fin 10, n.fmod 10 = (k.val : Int) := by
  have h0 := Int.fmod_nonneg_of_pos n (b := 10) (by decide)
  have h1 := Int.fmod_lt_of_pos n (b := 10) (by decide)
  exact ⟨⟨(n.fmod 10).toNat, by omega⟩, (Int.toNat_of_nonneg h0).symm⟩
theorem fin2 (n : Int) : ∃ k : Fin 2, n.fmod 2 = (k.val : Int) := by
  have h0 := Int.fmod_nonneg_of_pos n (b := 2) (by decide)
  have h1 := Int.fmod_lt_of_pos n (b := 2) (by decide)
  exact ⟨⟨(n.fmod 2).toNat, by omega⟩, (Int.toNat_of_nonneg h0).symm⟩
theorem tit_all : ∀ k : Fin 10, (Str.ofString "R-" ++ Str.ofString (toString (7 + (k.val : Int)))).length ≤ 4 ∧ ∀ c ∈ (Str.ofString "R-" ++ Str.ofString (toString (7 + (k.val : Int)))).cps.toList, c < 128 ∧ c ≠ 42 ∧ c ≠ 44 := by decide +kernel
theorem sta_all : ∀ k : Fin 2, (Txt.item (Str.ofString "cw") (k.val : Int)).length ≤ 1 ∧ ∀ c ∈ (Txt.item (Str.ofString "cw") (k.val : Int)).cps.toList, c < 128 ∧ c ≠ 42 ∧ c ≠ 44 := by decide +kernel
theorem tit_facts (n : Int) : (Str.ofString "R-" ++ Str.ofString (toString (7 + n.fmod 10))).length ≤ 4 ∧ Clean (Str.ofString "R-" ++ Str.ofString (toString (7 + n.fmod 10))) := by
  obtain ⟨k, e⟩ := fin10 n
  rw [e]
  exact tit_all k
theorem sta_facts (n : Int) : (Txt.item (Str.ofString "cw") (n.fmod 2)).length ≤ 1 ∧ Clean (Txt.item (Str.ofString "cw") (n.fmod 2)) := by
  obtain ⟨k, e⟩ := fin2 n
  rw [e]
  exact sta_all k
def staOf (mo : Int) : Str := Txt.item (Str.ofString "cw") ((mo.fdiv 2).fmod 2)
def titOf (mo : Int) : Str := Str.ofString "R-" ++ Str.ofString (toString (7 + (mo.fdiv 4).fmod 10))
theorem sum_at : ∀ (gs : List (List Str)) (i : Nat), (gs.getD i []).length ≤ (gs.map (·.length)).sum
  | [], i => by simp
  | g :: gs, 0 => by simp
  | g :: gs, i + 1 => by
    have := sum_at gs i
    simp only [List.getD_cons_succ, List.map_cons, List.sum_cons]
    omega
theorem sum_take : ∀ (gs : List (List Str)) (i : Nat), (gs.take i).flatten.length ≤ (gs.map (·.length)).sum
  | [], i => by simp
  | g :: gs, 0 => by simp
  | g :: gs, i + 1 => by
    have := sum_take gs i
    simp only [List.take_succ_cons, List.flatten_cons, List.length_append, List.map_cons, List.sum_cons]
    omega
theorem group_len {gs : List (List Str)} (h : GoodG gs) (i : Nat) : (gs.getD i []).length ≤ 6 := Nat.le_trans (sum_at gs i) h.tot
theorem names_len {gs : List (List Str)} (h : GoodG gs) (i : Nat) : (gs.take i).flatten.length ≤ 6 := Nat.le_trans (sum_take gs i) h.tot
theorem sum_le : ∀ {ys : List Str} {b : Nat}, (∀ y ∈ ys, y.length ≤ b) → (ys.map (·.length)).sum ≤ ys.length * b
  | [], _, _ => Nat.zero_le _
  | y :: ys, b, h => by
    have h1 := h y (.head _)
    have h2 := sum_le (ys := ys) (b := b) fun z hz => h z (.tail _ hz)
    simp only [List.map_cons, List.sum_cons, List.length_cons]
    rw [Nat.add_mul]
    omega
theorem join_r {A : Around} {E : Value → Shared → Prop} {s : Shared} {Q : Value → Shared → Prop} {h₀ : Heap} {L l : Addr} {news : List (Addr × Obj)} {us : List Value} {ys : List Str} {k : Nat} {t t1 t2 t3 t4 : Tok} {z1 z2 : Int} {c d : Str} (N : News h₀ L s.heap news) (hl : (l, W.listOf ([Value.str (Str.ofString (toString z1)) t1, Value.str (Str.ofString (toString z2)) t2, Value.str c t3, Value.str d t4] ++ us).toArray k) ∈ news) (hi : StrsAre us ys)
    (a1 : 0 ≤ z1) (a2 : z1 < 10 ^ 10) (b1 : 0 ≤ z2) (b2 : z2 < 10 ^ 10) (hc : c.length ≤ 1) (hd : d.length ≤ 4) (hy : ys.length ≤ 6) (hb : ∀ y ∈ ys, y.length ≤ 3)
    (h : ∀ t' k, (Txt.join (Str.ofString ",") ([Str.ofString (toString z1), Str.ofString (toString z2), c, d] ++ ys)).length ≤ 100 → Q (.str (Txt.join (Str.ofString ",") ([Str.ofString (toString z1), Str.ofString (toString z2), c, d] ++ ys)) t') { s with toks := k }) : wpAny (model prog w) A (call (.builtin "str.join") [.str (Str.ofString ",") t, .ref l]) Q E s := by
  have l1 := toString_length_le a1 (k := 10) (by decide) a2
  have l2 := toString_length_le b1 (k := 10) (by decide) b2
  have l3 := sum_le hb
  have l4 := tjoin_len (ys := [Str.ofString (toString z1), Str.ofString (toString z2), c, d] ++ ys)
  simp only [List.map_append, List.map_cons, List.map_nil, List.sum_append, List.sum_cons, List.sum_nil, List.length_append, List.length_cons, List.length_nil] at l4
  refine join_led N hl (PyProof.Rows.StrsAre.append' (.cons _ _ (.cons _ _ (.cons _ _ (.cons _ _ .nil)))) hi) ?_ fun t' k => h t' k (by omega)
  unfold Joinable
  rw [len_comma]
  simp only [List.map_append, List.map_cons, List.map_nil, List.sum_append, List.sum_cons, List.sum_nil, List.length_append, List.length_cons, List.length_nil]
  omega
theorem group_short {gs : List (List Str)} (h : GoodG gs) (i : Nat) : ∀ y ∈ gs.getD i [], y.length ≤ 3 := by
  intro y hy
  by_cases hi : i < gs.length
  · rw [List.getD_eq_getElem?_getD, List.getElem?_eq_getElem hi] at hy
    exact (name_facts (h.nm _ (List.getElem_mem hi) y hy)).1
  · rw [List.getD_eq_getElem?_getD, List.getElem?_eq_none (by omega)] at hy
    exact nomatch hy
theorem take_flat : ∀ (gs : List (List Str)) (i : Nat), i < gs.length → (gs.take (i + 1)).flatten = (gs.take i).flatten ++ gs.getD i []
  | [], _, h => absurd h (Nat.not_lt_zero _)
  | g :: gs, 0, _ => by simp
  | g :: gs, i + 1, h => by
    have := take_flat gs i (Nat.lt_of_succ_lt_succ h)
    simp only [List.take_succ_cons, List.flatten_cons, List.getD_cons_succ] at this ⊢
    rw [this, List.append_assoc]
theorem rtext (gs : List (List Str)) (sta tit : Str) (i n : Nat) (hn : n = gs.length) : Str.ofString "GPRTE," ++ Txt.join (Str.ofString ",") ([Str.ofString (toString ((n : Nat) : Int)), Str.ofString (toString (((i : Nat) : Int) + 1)), sta, tit] ++ gs.getD i []) = rbody gs sta tit i := by
  subst hn
  unfold rbody bodyOf rfields num
  rw [rhead]
  rfl
theorem J1_next {h₀ : Heap} {L : Addr} {s₁ : Shared} {h' : Heap} {tk : Nat} {m' : Str → Option Value} {old own tl tl2 : List (Addr × Obj)} {i n S D D2 Nb kS nn : Nat} {l G ld : Addr} {X1 X2 lo : Obj} {sta tit : Str} {gs : List (List Str)} {vs us sb nb : List Value} {t' : Tok}
    (hl : (l, W.listOf vs.toArray nn) ∈ old) (hoff : OwnOff own (((S, lo) :: tl).map (·.1))) (d1 : ∀ p ∈ tl, p.1 ≠ S) (sub : ∀ p ∈ old, p ∈ tl) (SN : StrsAre nb (gs.take i).flatten) (SB : StrsAre sb ((List.range i).map (rbody gs sta tit))) (SU : StrsAre us (gs.getD i [])) (hi : i < gs.length) (hn : n = gs.length)
    (s1 : ∀ p ∈ tl, p ∈ tl2) (s2 : ∀ p ∈ own, p ∈ tl2) (l1 : S < Nb ∧ AllLt Nb tl2) (F : Fr h₀ L h' m')
    (N : News h₀ L h' ((D, X1) :: (D2, X2) :: (Nb, W.listOf (nb ++ us).toArray 0) :: (S, W.listOf (sb.toArray.push (Value.str (Str.ofString "GPRTE," ++ Txt.join (Str.ofString ",") ([Str.ofString (toString ((n : Nat) : Int)), Str.ofString (toString (((i : Nat) : Int) + 1)), sta, tit] ++ gs.getD i [])) t')) (kS + 1)) :: tl2))
    (lk : Look m' G ld sta tit) (e1 : m' (Str.ofString "names") = some (.ref Nb)) (e2 : m' (Str.ofString "sent") = some (.ref S)) :
    PySem.W.InvEndG h₀ L (fun m' nx => (l, W.listOf vs.toArray nn) ∈ nx ∧ J1 old G ld sta tit gs (i + 1) m' nx) own s₁ { s₁ with heap := h', toks := tk } := by
  rw [rtext gs sta tit i n hn, List.push_toArray] at N
  obtain ⟨a1, a2⟩ := l1
  have a3 := PySem.W.kst_ltOf a2
  refine PySem.W.InvEndG.intro (nx := (S, W.listOf (sb ++ [Value.str (rbody gs sta tit i) t']).toArray (kS + 1)) :: (Nb, W.listOf (nb ++ us).toArray 0) :: tl) F N ⟨List.mem_cons_of_mem _ (List.mem_cons_of_mem _ (sub _ hl)),
    S, kS + 1, Nb, 0, sb ++ [Value.str (rbody gs sta tit i) t'], nb ++ us, (Nb, W.listOf (nb ++ us).toArray 0) :: tl, rfl, List.forall_mem_cons.mpr ⟨(Nat.ne_of_lt a1).symm, d1⟩, fun p hp => List.mem_cons_of_mem _ (sub p hp), .head _, ?_, ?_, lk, e1, e2⟩ ?_ ?_ ?_
  · rw [take_flat gs i hi]
    exact PyProof.Rows.StrsAre.append' SN SU
  · rw [List.range_succ, List.map_append]
    exact PyProof.Rows.StrsAre.append' SB (.cons _ _ .nil)
  · intro p hp b hb
    rcases List.mem_cons.mp hb with e | hb
    · exact hoff p hp b (List.mem_cons.mpr (.inl e))
    rcases List.mem_cons.mp hb with e | hb
    · rw [e]; exact Nat.ne_of_lt (a3 p (s2 p hp))
    · exact hoff p hp b (List.mem_cons_of_mem _ hb)
  · intro p hp
    rcases List.mem_cons.mp hp with e | hp
    · exact List.mem_cons_of_mem _ (List.mem_cons_of_mem _ (List.mem_cons_of_mem _ (List.mem_cons.mpr (.inl e))))
    rcases List.mem_cons.mp hp with e | hp
    · exact List.mem_cons_of_mem _ (List.mem_cons_of_mem _ (List.mem_cons.mpr (.inl e)))
    · exact List.mem_cons_of_mem _ (List.mem_cons_of_mem _ (List.mem_cons_of_mem _ (List.mem_cons_of_mem _ (s1 p hp))))
  · exact fun p hp => List.mem_cons_of_mem _ (List.mem_cons_of_mem _ (List.mem_cons_of_mem _ (List.mem_cons_of_mem _ (s2 p hp))))
end
/- V2 -/
section
variable {prog : Program} {w : World} {p : Program} {loose : List Str} {mean : ExcName → Option Value} {mg mb : Str → Option Value}
local macro_rules | `(tactic| k_room) => `(tactic| ktr_room)
local macro_rules | `(tactic| ktr_room) => `(tactic| (simp only [depth_under_make, depth_under_kw, depth_in1, depth_deeper] at *; omega))
local macro_rules | `(tactic| k_units) => `(tactic| ktr_units)
local macro_rules | `(tactic| k_mem) => `(tactic| first | assumption | (refine List.mem_cons_of_mem _ ?_; k_mem))

/-- a place by its name -/
def wpl (x : Str) : List Str := placeOf ((PySem.intText? (Txt.slice x (some 1) none)).getD 0)
def wfields (x : Str) : List Str := wpl x ++ [x]
def wbody (x : Str) : Str := bodyOf WPLk (wfields x)
theorem name_cases {x : Str} (h : IsName x) : x = Str.ofString "" ∨ ∃ n : Int, 0 ≤ n ∧ n < 49 ∧ x = wname n := by
  obtain ⟨n, rfl⟩ := h
  have h0 : 0 ≤ Int.fmod n 50 := Int.fmod_nonneg_of_pos n (by decide)
  have h1 : Int.fmod n 50 < 50 := Int.fmod_lt_of_pos n (by decide)
  unfold nameOf
  by_cases e : Int.fmod n 50 = 49
  · rw [if_pos e]; exact .inl rfl
  · rw [if_neg e]; exact .inr ⟨_, h0, by omega, rfl⟩
theorem wpl_eq {n : Int} (h0 : 0 ≤ n) (h1 : n < 49) : wpl (wname n) = placeOf n := by
  unfold wpl
  rw [(wname_facts h0 h1).1]
  rfl
open Classical in
theorem in_list {A : Around} {E : Value → Shared → Prop} {s : Shared} {h₀ : Heap} {L a : Addr} {news : List (Addr × Obj)} {xs : List Value} {ys : List Str} {ka : Nat} {x : Str} {t : Tok} {Q : Value → Shared → Prop} (N : News h₀ L s.heap news) (ma : (a, W.listOf xs.toArray ka) ∈ news) (S : StrsAre xs ys) (hx : IsName x) (hy : ∀ y ∈ ys, IsName y)
    (hu : A.units + 64 < cLine) (h : ∀ c : Bool, (c = true ↔ x ∈ ys) → Q (.bool c) s) : wpAny (model prog w) A (compareOp .In (.str x t) (.ref a)) Q E s := by
  refine PySem.W.kqd_isIn N ma rfl rfl (strs_dat (news := news) S) (fun _ h => h) (PySem.W.DatIn.str (news := news) x t) (fun _ h => h) ?_ ?_ hu (h _ ?_)
  · intro d hd
    obtain ⟨y, hy', rfl⟩ := List.mem_map.mp hd
    have := name_ok (hy y hy')
    simpa [PySem.W.kqdOk] using this
  · have := name_ok hx
    simpa [PySem.W.kqdOk] using this
  · refine Iff.trans decide_eq_true_iff ?_
    constructor
    · intro hm
      obtain ⟨y, hy', e⟩ := List.mem_map.mp hm
      cases e
      exact hy'
    · exact fun hm => List.mem_map.mpr ⟨x, hm, rfl⟩
theorem wtext (x : Str) : Str.ofString "GPWPL," ++ Txt.join (Str.ofString ",") (wpl x ++ [x]) = wbody x := by
  unfold wbody bodyOf wfields
  rw [whead]
/-- before the i-th name, second loop -/
def J2 (old : List (Addr × Obj)) (G ld : Addr) (sta tit : Str) (gs : List (List Str)) (i : Nat) (m : Str → Option Value) (nx : List (Addr × Obj)) : Prop :=
  ∃ (S kS Ap kA : Nat) (sb ab : List Value) (as : List Str) (tl : List (Addr × Obj)), nx = (Ap, W.listOf ab.toArray kA) :: (S, W.listOf sb.toArray kS) :: tl ∧ (∀ p ∈ tl, p.1 ≠ S) ∧ (∀ p ∈ tl, p.1 ≠ Ap) ∧ S < Ap ∧ (∀ p ∈ old, p ∈ tl) ∧ StrsAre ab as ∧ (∀ x ∈ as, x ∈ gs.flatten ∧ x ≠ Str.ofString "") ∧
    (∀ x ∈ gs.flatten.take i, x ≠ Str.ofString "" → x ∈ as) ∧ as.length ≤ i ∧ StrsAre sb ((List.range gs.length).map (rbody gs sta tit) ++ as.map wbody) ∧ Look m G ld sta tit ∧ m (Str.ofString "apart") = some (.ref Ap) ∧ m (Str.ofString "sent") = some (.ref S)
theorem flat_names {gs : List (List Str)} (h : GoodG gs) {x : Str} (hx : x ∈ gs.flatten) : IsName x := by
  obtain ⟨g, hg, hx⟩ := List.mem_flatten.mp hx
  exact h.nm g hg x hx
theorem name_empty : IsName (Str.ofString "") := ⟨49, by decide⟩
theorem name_at {gs : List (List Str)} (h : GoodG gs) (i : Nat) : IsName (gs.flatten.getD i Str.empty) := by
  by_cases hi : i < gs.flatten.length
  · rw [List.getD_eq_getElem?_getD, List.getElem?_eq_getElem hi]
    exact flat_names h (List.getElem_mem hi)
  · rw [List.getD_eq_getElem?_getD, List.getElem?_eq_none (by omega)]
    exact name_empty
theorem place_all : ∀ k : Fin 49, (placeOf (k.val : Int)).length = 4 ∧ ∀ y ∈ placeOf (k.val : Int), y.length ≤ 10 ∧ ∀ c ∈ y.cps.toList, c < 128 ∧ c ≠ 42 ∧ c ≠ 44 := by decide +kernel
theorem place_facts {n : Int} (h0 : 0 ≤ n) (h1 : n < 49) : (placeOf n).length = 4 ∧ ∀ y ∈ placeOf n, y.length ≤ 10 ∧ Clean y := by
  obtain ⟨k, rfl⟩ := Int.eq_ofNat_of_zero_le h0
  exact place_all ⟨k, by omega⟩
theorem join_w {A : Around} {E : Value → Shared → Prop} {s : Shared} {Q : Value → Shared → Prop} {h₀ : Heap} {L l : Addr} {news : List (Addr × Obj)} {us : List Value} {n : Int} {k : Nat} {t t1 : Tok} {x : Str} (N : News h₀ L s.heap news) (hl : (l, W.listOf (us ++ [Value.str x t1]).toArray k) ∈ news) (hi : StrsAre us (placeOf n))
    (n0 : 0 ≤ n) (n1 : n < 49) (hx : x.length ≤ 3) (h : ∀ t' k, (Txt.join (Str.ofString ",") (placeOf n ++ [x])).length ≤ 100 → Q (.str (Txt.join (Str.ofString ",") (placeOf n ++ [x])) t') { s with toks := k }) : wpAny (model prog w) A (call (.builtin "str.join") [.str (Str.ofString ",") t, .ref l]) Q E s := by
  obtain ⟨f1, f2⟩ := place_facts n0 n1
  have l3 := sum_le fun y hy => (f2 y hy).1
  have l4 := tjoin_len (ys := placeOf n ++ [x])
  simp only [List.map_append, List.map_cons, List.map_nil, List.sum_append, List.sum_cons, List.sum_nil, List.length_append, List.length_cons, List.length_nil] at l4
  refine join_led N hl (PyProof.Rows.StrsAre.append' hi (.cons _ _ .nil)) ?_ fun t' k => h t' k (by omega)
  unfold Joinable
  rw [len_comma]
  simp only [List.map_append, List.map_cons, List.map_nil, List.sum_append, List.sum_cons, List.sum_nil, List.length_append, List.length_cons, List.length_nil]
  omega
end
/- V3 -/
section
variable {prog : Program} {w : World} {p : Program} {loose : List Str} {mean : ExcName → Option Value} {mg mb : Str → Option Value}
local macro_rules | `(tactic| k_room) => `(tactic| ktr_room)
local macro_rules | `(tactic| ktr_room) => `(tactic| (simp only [depth_under_make, depth_under_kw, depth_in1, depth_deeper] at *; omega))
local macro_rules | `(tactic| k_units) => `(tactic| ktr_units)
local macro_rules | `(tactic| k_mem) => `(tactic| first | assumption | (refine List.mem_cons_of_mem _ ?_; k_mem))

section
variable {h₀ : Heap} {L : Addr} {s₁ : Shared} {h' : Heap} {tk : Nat} {m' : Str → Option Value} {old own tl tl2 big : List (Addr × Obj)} {i nn kS kA S Ap : Nat} {l G ld : Addr} {so ao : Obj} {sta tit x : Str} {gs : List (List Str)} {vs sb ab : List Value} {as : List Str}
theorem J2_skip (hl : (l, W.listOf vs.toArray nn) ∈ tl) (hoff : OwnOff own (((Ap, W.listOf ab.toArray kA) :: (S, W.listOf sb.toArray kS) :: tl).map (·.1))) (d1 : ∀ p ∈ tl, p.1 ≠ S) (d2 : ∀ p ∈ tl, p.1 ≠ Ap) (d3 : S < Ap) (sub : ∀ p ∈ old, p ∈ tl) (SA : StrsAre ab as) (as1 : ∀ x ∈ as, x ∈ gs.flatten ∧ x ≠ Str.ofString "")
    (as2 : ∀ x ∈ gs.flatten.take i, x ≠ Str.ofString "" → x ∈ as) (as3 : as.length ≤ i) (SB : StrsAre sb ((List.range gs.length).map (rbody gs sta tit) ++ as.map wbody)) (hi : i < gs.flatten.length) (hx : gs.flatten.getD i Str.empty = x) (hs : x ≠ Str.ofString "" → x ∈ as)
    (s1 : ∀ p ∈ tl, p ∈ tl2) (s2 : ∀ p ∈ own, p ∈ tl2) (F : Fr h₀ L h' m') (N : News h₀ L h' big) (m1 : (Ap, W.listOf ab.toArray kA) ∈ big) (m2 : (S, W.listOf sb.toArray kS) ∈ big) (m3 : ∀ p ∈ tl2, p ∈ big)
    (lk : Look m' G ld sta tit) (e1 : m' (Str.ofString "apart") = some (.ref Ap)) (e2 : m' (Str.ofString "sent") = some (.ref S)) :
    PySem.W.InvEndG h₀ L (fun m' nx => (l, W.listOf vs.toArray nn) ∈ nx ∧ J2 old G ld sta tit gs (i + 1) m' nx) own s₁ { s₁ with heap := h', toks := tk } := by
  refine PySem.W.InvEndG.intro F N ⟨List.mem_cons_of_mem _ (List.mem_cons_of_mem _ hl), S, kS, Ap, kA, sb, ab, as, tl, rfl, d1, d2, d3, sub, SA, as1, ?_, by omega, SB, lk, e1, e2⟩ hoff ?_ fun p hp => m3 p (s2 p hp)
  · intro y hy hne
    rw [List.take_add_one, List.getElem?_eq_getElem hi] at hy
    rcases List.mem_append.mp hy with hy | hy
    · exact as2 y hy hne
    · rw [List.getD_eq_getElem?_getD, List.getElem?_eq_getElem hi] at hx
      have : y = x := by rw [← hx]; simpa using hy
      subst this
      exact hs hne
  · intro p hp
    rcases List.mem_cons.mp hp with rfl | hp
    · exact m1
    rcases List.mem_cons.mp hp with rfl | hp
    · exact m2
    · exact m3 p (s1 p hp)
theorem J2_next {t1 t2 : Tok} (hl : (l, W.listOf vs.toArray nn) ∈ tl) (hoff : OwnOff own (((Ap, ao) :: (S, so) :: tl).map (·.1))) (d1 : ∀ p ∈ tl, p.1 ≠ S) (d2 : ∀ p ∈ tl, p.1 ≠ Ap) (d3 : S < Ap) (sub : ∀ p ∈ old, p ∈ tl) (SA : StrsAre ab as) (as1 : ∀ x ∈ as, x ∈ gs.flatten ∧ x ≠ Str.ofString "")
    (as2 : ∀ x ∈ gs.flatten.take i, x ≠ Str.ofString "" → x ∈ as) (as3 : as.length ≤ i) (SB : StrsAre sb ((List.range gs.length).map (rbody gs sta tit) ++ as.map wbody)) (hi : i < gs.flatten.length) (hx : gs.flatten.getD i Str.empty = x) (hs : x ≠ Str.ofString "")
    (s1 : ∀ p ∈ tl, p ∈ tl2) (s2 : ∀ p ∈ own, p ∈ tl2) (F : Fr h₀ L h' m') (N : News h₀ L h' big) (m1 : (Ap, W.listOf (ab.toArray.push (Value.str x t1)) (kA + 1)) ∈ big) (m2 : (S, W.listOf (sb.toArray.push (Value.str (Str.ofString "GPWPL," ++ Txt.join (Str.ofString ",") (wpl x ++ [x])) t2)) (kS + 1)) ∈ big) (m3 : ∀ p ∈ tl2, p ∈ big)
    (lk : Look m' G ld sta tit) (e1 : m' (Str.ofString "apart") = some (.ref Ap)) (e2 : m' (Str.ofString "sent") = some (.ref S)) :
    PySem.W.InvEndG h₀ L (fun m' nx => (l, W.listOf vs.toArray nn) ∈ nx ∧ J2 old G ld sta tit gs (i + 1) m' nx) own s₁ { s₁ with heap := h', toks := tk } := by
  rw [List.push_toArray] at m1
  rw [wtext, List.push_toArray] at m2
  have hx2 : gs.flatten[i] = x := by
    rw [List.getD_eq_getElem?_getD, List.getElem?_eq_getElem hi] at hx
    exact hx
  refine PySem.W.InvEndG.intro (nx := (Ap, W.listOf (ab ++ [Value.str x t1]).toArray (kA + 1)) :: (S, W.listOf (sb ++ [Value.str (wbody x) t2]).toArray (kS + 1)) :: tl) F N ⟨List.mem_cons_of_mem _ (List.mem_cons_of_mem _ hl), S, kS + 1, Ap, kA + 1, _, _, as ++ [x], tl, rfl, d1, d2, d3, sub, PyProof.Rows.StrsAre.append' SA (.cons _ _ .nil), ?_, ?_, ?_, ?_, lk, e1, e2⟩ hoff ?_ fun p hp => m3 p (s2 p hp)
  · intro y hy
    rcases List.mem_append.mp hy with hy | hy
    · exact as1 y hy
    · rw [List.mem_singleton.mp hy]
      exact ⟨hx2 ▸ List.getElem_mem hi, hs⟩
  · intro y hy hne
    rw [List.take_add_one, List.getElem?_eq_getElem hi] at hy
    rcases List.mem_append.mp hy with hy | hy
    · exact List.mem_append_left _ (as2 y hy hne)
    · have : y = x := by rw [← hx2]; simpa using hy
      subst this
      exact List.mem_append_right _ (.head _)
  · rw [List.length_append, List.length_singleton]; omega
  · rw [List.map_append, ← List.append_assoc]
    exact PyProof.Rows.StrsAre.append' SB (.cons _ _ .nil)
  · intro p hp
    rcases List.mem_cons.mp hp with rfl | hp
    · exact m1
    rcases List.mem_cons.mp hp with rfl | hp
    · exact m2
    · exact m3 p (s1 p hp)
end
end
/- V4 -/
section
variable {prog : Program} {w : World} {p : Program} {loose : List Str} {mean : ExcName → Option Value} {mg mb : Str → Option Value}
local macro_rules | `(tactic| k_room) => `(tactic| ktr_room)
local macro_rules | `(tactic| ktr_room) => `(tactic| (simp only [depth_under_make, depth_under_kw, depth_in1, depth_deeper] at *; omega))
local macro_rules | `(tactic| k_units) => `(tactic| ktr_units)
local macro_rules | `(tactic| k_mem) => `(tactic| first | assumption | (refine List.mem_cons_of_mem _ ?_; k_mem))

/-- all that is sent -/
def bodies (gs : List (List Str)) (sta tit : Str) (as : List Str) : List Str := (List.range gs.length).map (rbody gs sta tit) ++ as.map wbody
/-- an entry of the order: with its sum or without, and which body -/
abbrev entD (bs : List Str) (e : Bool × Nat) : PySem.W.Dat := .list [.str (lineOf e.1 (bs.getD e.2 Str.empty)), .bool e.1, .str (bs.getD e.2 Str.empty)]
theorem dat_take {news : List (Addr × Obj)} : ∀ {vs : List Value} {ds : List PySem.W.Dat}, PySem.W.DatAll news vs ds → ∀ k, PySem.W.DatAll news (vs.take k) (ds.take k)
  | _, _, _, 0 => by simpa using .nil
  | _, _, .nil, _ + 1 => by simpa using .nil
  | _, _, .cons a r, k + 1 => by simpa using .cons a (dat_take r k)
theorem dat_drop {news : List (Addr × Obj)} : ∀ {vs : List Value} {ds : List PySem.W.Dat}, PySem.W.DatAll news vs ds → ∀ k, PySem.W.DatAll news (vs.drop k) (ds.drop k)
  | _, _, h, 0 => by simpa using h
  | _, _, .nil, _ + 1 => by simpa using .nil
  | _, _, .cons a r, k + 1 => by simpa using dat_drop r k
/-- before the i-th body, third loop -/
def J3 (old : List (Addr × Obj)) (G ld : Addr) (sta tit : Str) (bs : List Str) (i : Nat) (m : Str → Option Value) (nx : List (Addr × Obj)) : Prop :=
  ∃ (O kO : Nat) (ov : List Value) (es : List (Bool × Nat)), (∀ p ∈ old, p ∈ nx) ∧ (O, W.listOf ov.toArray kO) ∈ nx ∧ PySem.W.DatAll nx ov (es.map (entD bs)) ∧ (∀ e ∈ es, e.2 < bs.length) ∧ (∀ j, j < i → ∃ b, (b, j) ∈ es) ∧ es.length ≤ 2 * i ∧ Look m G ld sta tit ∧ m (Str.ofString "order") = some (.ref O)
theorem J3_zero {old news : List (Addr × Obj)} {G ld : Addr} {sta tit : Str} {bs : List Str} {O : Nat} {m : Str → Option Value} (sub : ∀ p ∈ old, p ∈ news) (lk : Look m G ld sta tit) (e1 : m (Str.ofString "order") = some (.ref O)) : J3 old G ld sta tit bs 0 m ((O, W.listOf #[] 0) :: news) :=
  ⟨O, 0, [], [], fun p hp => List.mem_cons_of_mem _ (sub p hp), .head _, .nil, (fun _ h => nomatch h), (fun _ h => absurd h (Nat.not_lt_zero _)), Nat.zero_le _, lk, e1⟩
theorem mem_ins {α : Type} {es : List α} {x e : α} {p : Nat} (h : e ∈ es ∨ e = x) : e ∈ es.take p ++ [x] ++ es.drop p := by
  rcases h with h | h
  · rw [← List.take_append_drop p es] at h
    rcases List.mem_append.mp h with h | h
    · exact List.mem_append_left _ (List.mem_append_left _ h)
    · exact List.mem_append_right _ h
  · subst h
    exact List.mem_append_left _ (List.mem_append_right _ (.head _))
theorem ins_mem {α : Type} {es : List α} {x e : α} {p : Nat} (h : e ∈ es.take p ++ [x] ++ es.drop p) : e ∈ es ∨ e = x := by
  rcases List.mem_append.mp h with h | h
  · rcases List.mem_append.mp h with h | h
    · exact .inl (List.mem_of_mem_take h)
    · exact .inr (List.mem_singleton.mp h)
  · exact .inl (List.mem_of_mem_drop h)
theorem dat_ins {news big : List (Addr × Obj)} {bs : List Str} {ov : List Value} {es : List (Bool × Nat)} {p : Nat} {E : Addr} {kE : Nat} {i : Nat} {x : Str} {t1 t2 : Tok} (D : PySem.W.DatAll news ov (es.map (entD bs))) (sub : ∀ q ∈ news, q ∈ big) (hx : bs.getD i Str.empty = x)
    (mE : (E, W.listOf #[Value.str (Str.ofString "$" ++ x ++ hexOf x) t1, .bool true, Value.str x t2] kE) ∈ big) : PySem.W.DatAll big (ov.take p ++ [Value.ref E] ++ ov.drop p) ((es.take p ++ [(true, i)] ++ es.drop p).map (entD bs)) := by
  rw [str_assoc] at mE
  subst hx
  rw [List.map_append, List.map_append, List.map_take, List.map_drop]
  refine PySem.W.DatAll.append (PySem.W.DatAll.append (dat_take (PySem.W.DatAll.mono sub D) p) (.cons ?_ .nil)) (dat_drop (PySem.W.DatAll.mono sub D) p)
  exact .list mE (.cons (.str _ _) (.cons (.bool _) (.cons (.str _ _) .nil)))
section
variable {h₀ : Heap} {L : Addr} {s₁ : Shared} {h' : Heap} {tk : Nat} {m' : Str → Option Value} {old own tl tl2 big : List (Addr × Obj)} {i p nn kO kE kO2 kE2 O O2 E E2 : Nat} {l G ld : Addr} {sta tit x : Str} {bs : List Str} {vs ov : List Value} {es : List (Bool × Nat)} {t1 t2 t3 t4 : Tok}
theorem J3_next (hl : (l, W.listOf vs.toArray nn) ∈ old) (hoff : OwnOff own (tl.map (·.1))) (sub : ∀ p ∈ old, p ∈ tl) (D : PySem.W.DatAll tl ov (es.map (entD bs))) (es1 : ∀ e ∈ es, e.2 < bs.length) (es2 : ∀ j, j < i → ∃ b, (b, j) ∈ es) (es3 : es.length ≤ 2 * i) (hi : i < bs.length) (hx : bs.getD i Str.empty = x)
    (s1 : ∀ p ∈ tl, p ∈ tl2) (s2 : ∀ p ∈ own, p ∈ tl2) (F : Fr h₀ L h' m') (N : News h₀ L h' big) (m1 : (O2, W.listOf (ov.take p ++ [Value.ref E] ++ ov.drop p).toArray kO2) ∈ big) (m2 : (E, W.listOf #[Value.str (Str.ofString "$" ++ x ++ hexOf x) t1, .bool true, Value.str x t2] kE) ∈ big) (m3 : ∀ p ∈ tl2, p ∈ big)
    (a1 : ∀ p ∈ tl2, p.1 ≠ O2) (a2 : ∀ p ∈ tl2, p.1 ≠ E) (lk : Look m' G ld sta tit) (e1 : m' (Str.ofString "order") = some (.ref O2)) :
    PySem.W.InvEndG h₀ L (fun m' nx => (l, W.listOf vs.toArray nn) ∈ nx ∧ J3 old G ld sta tit bs (i + 1) m' nx) own s₁ { s₁ with heap := h', toks := tk } := by
  refine PySem.W.InvEndG.intro (nx := (O2, W.listOf (ov.take p ++ [Value.ref E] ++ ov.drop p).toArray kO2) :: (E, W.listOf #[Value.str (Str.ofString "$" ++ x ++ hexOf x) t1, .bool true, Value.str x t2] kE) :: tl) F N ⟨List.mem_cons_of_mem _ (List.mem_cons_of_mem _ (sub _ hl)), O2, kO2, _, es.take p ++ [(true, i)] ++ es.drop p, fun q hq => List.mem_cons_of_mem _ (List.mem_cons_of_mem _ (sub q hq)), .head _,
    dat_ins D (fun q hq => List.mem_cons_of_mem _ (List.mem_cons_of_mem _ hq)) hx (List.mem_cons_of_mem _ (.head _)), ?_, ?_, ?_, lk, e1⟩ ?_ ?_ fun q hq => m3 q (s2 q hq)
  · intro e he
    rcases ins_mem he with he | rfl
    · exact es1 e he
    · exact hi
  · intro j hj
    by_cases h : j = i
    · exact ⟨true, mem_ins (.inr (by rw [h]))⟩
    · obtain ⟨b, hb⟩ := es2 j (by omega)
      exact ⟨b, mem_ins (.inl hb)⟩
  · simp only [List.length_append, List.length_take, List.length_drop, List.length_singleton]; omega
  · intro q hq b hb
    rcases List.mem_cons.mp hb with e | hb
    · rw [e]; exact a1 q (s2 q hq)
    rcases List.mem_cons.mp hb with e | hb
    · rw [e]; exact a2 q (s2 q hq)
    · exact hoff q hq b hb
  · intro q hq
    rcases List.mem_cons.mp hq with rfl | hq
    · exact m1
    rcases List.mem_cons.mp hq with rfl | hq
    · exact m2
    · exact m3 q (s1 q hq)
theorem J3_more (hl : (l, W.listOf vs.toArray nn) ∈ old) (hoff : OwnOff own (tl.map (·.1))) (sub : ∀ p ∈ old, p ∈ tl) (D : PySem.W.DatAll tl ov (es.map (entD bs))) (es1 : ∀ e ∈ es, e.2 < bs.length) (es2 : ∀ j, j < i → ∃ b, (b, j) ∈ es) (es3 : es.length ≤ 2 * i) (hi : i < bs.length) (hx : bs.getD i Str.empty = x)
    (s1 : ∀ p ∈ tl, p ∈ tl2) (s2 : ∀ p ∈ own, p ∈ tl2) (F : Fr h₀ L h' m') (N : News h₀ L h' big) (m1 : (O2, W.listOf ((ov.take p ++ [Value.ref E] ++ ov.drop p).toArray.push (Value.ref E2)) kO2) ∈ big) (m2 : (E, W.listOf #[Value.str (Str.ofString "$" ++ x ++ hexOf x) t1, .bool true, Value.str x t2] kE) ∈ big)
    (m4 : (E2, W.listOf #[Value.str (Str.ofString "$" ++ x) t3, .bool false, Value.str x t4] kE2) ∈ big) (m3 : ∀ p ∈ tl2, p ∈ big)
    (a1 : ∀ p ∈ tl2, p.1 ≠ O2) (a2 : ∀ p ∈ tl2, p.1 ≠ E) (a3 : ∀ p ∈ tl2, p.1 ≠ E2) (lk : Look m' G ld sta tit) (e1 : m' (Str.ofString "order") = some (.ref O2)) :
    PySem.W.InvEndG h₀ L (fun m' nx => (l, W.listOf vs.toArray nn) ∈ nx ∧ J3 old G ld sta tit bs (i + 1) m' nx) own s₁ { s₁ with heap := h', toks := tk } := by
  rw [List.push_toArray] at m1
  refine PySem.W.InvEndG.intro (nx := (O2, W.listOf ((ov.take p ++ [Value.ref E] ++ ov.drop p) ++ [Value.ref E2]).toArray kO2) :: (E, W.listOf #[Value.str (Str.ofString "$" ++ x ++ hexOf x) t1, .bool true, Value.str x t2] kE) :: (E2, W.listOf #[Value.str (Str.ofString "$" ++ x) t3, .bool false, Value.str x t4] kE2) :: tl) F N
    ⟨List.mem_cons_of_mem _ (List.mem_cons_of_mem _ (List.mem_cons_of_mem _ (sub _ hl))), O2, kO2, _, (es.take p ++ [(true, i)] ++ es.drop p) ++ [(false, i)], fun q hq => List.mem_cons_of_mem _ (List.mem_cons_of_mem _ (List.mem_cons_of_mem _ (sub q hq))), .head _, ?_, ?_, ?_, ?_, lk, e1⟩ ?_ ?_ fun q hq => m3 q (s2 q hq)
  · rw [List.map_append (l₁ := es.take p ++ [(true, i)] ++ es.drop p)]
    refine PySem.W.DatAll.append (dat_ins D (fun q hq => List.mem_cons_of_mem _ (List.mem_cons_of_mem _ (List.mem_cons_of_mem _ hq))) hx (List.mem_cons_of_mem _ (.head _))) ?_
    subst hx
    exact .cons (.list (List.mem_cons_of_mem _ (List.mem_cons_of_mem _ (.head _))) (.cons (.str _ _) (.cons (.bool _) (.cons (.str _ _) .nil)))) .nil
  · intro e he
    rcases List.mem_append.mp he with he | he
    · rcases ins_mem he with he | rfl
      · exact es1 e he
      · exact hi
    · rw [List.mem_singleton.mp he]; exact hi
  · intro j hj
    by_cases h : j = i
    · exact ⟨true, List.mem_append_left _ (mem_ins (.inr (by rw [h])))⟩
    · obtain ⟨b, hb⟩ := es2 j (by omega)
      exact ⟨b, List.mem_append_left _ (mem_ins (.inl hb))⟩
  · simp only [List.length_append, List.length_take, List.length_drop, List.length_singleton]; omega
  · intro q hq b hb
    rcases List.mem_cons.mp hb with e | hb
    · rw [e]; exact a1 q (s2 q hq)
    rcases List.mem_cons.mp hb with e | hb
    · rw [e]; exact a2 q (s2 q hq)
    rcases List.mem_cons.mp hb with e | hb
    · rw [e]; exact a3 q (s2 q hq)
    · exact hoff q hq b hb
  · intro q hq
    rcases List.mem_cons.mp hq with rfl | hq
    · exact m1
    rcases List.mem_cons.mp hq with rfl | hq
    · exact m2
    rcases List.mem_cons.mp hq with rfl | hq
    · exact m4
    · exact m3 q (s1 q hq)
end
end
/- V5 -/
section
variable {prog : Program} {w : World} {p : Program} {loose : List Str} {mean : ExcName → Option Value} {mg mb : Str → Option Value}
local macro_rules | `(tactic| k_room) => `(tactic| ktr_room)
local macro_rules | `(tactic| ktr_room) => `(tactic| (simp only [depth_under_make, depth_under_kw, depth_in1, depth_deeper] at *; omega))
local macro_rules | `(tactic| k_units) => `(tactic| ktr_units)
local macro_rules | `(tactic| k_mem) => `(tactic| first | assumption | (refine List.mem_cons_of_mem _ ?_; k_mem))

theorem num_all : ∀ k : Fin 10, (num k.val).length ≤ 1 ∧ ∀ c ∈ (num k.val).cps.toList, c < 128 ∧ c ≠ 42 ∧ c ≠ 44 := by decide +kernel
theorem num_facts {n : Nat} (h : n < 10) : (num n).length ≤ 1 ∧ Clean (num n) := num_all ⟨n, h⟩
/-- fields that a line can bear -/
structure FieldsOK (fs : List Str) : Prop where
  ne : fs ≠ []
  cl : ∀ f ∈ fs, Clean f
  ln : fs.length ≤ 20
  sm : (fs.map (·.length)).sum ≤ 200
theorem group_clean {gs : List (List Str)} (h : GoodG gs) (i : Nat) : ∀ y ∈ gs.getD i [], Clean y := by
  intro y hy
  by_cases hi : i < gs.length
  · rw [List.getD_eq_getElem?_getD, List.getElem?_eq_getElem hi] at hy
    exact (name_facts (h.nm _ (List.getElem_mem hi) y hy)).2
  · rw [List.getD_eq_getElem?_getD, List.getElem?_eq_none (by omega)] at hy
    exact nomatch hy
theorem rfields_ok {gs : List (List Str)} {sta tit : Str} {k : Nat} (good : GoodG gs) (hst : sta.length ≤ 1 ∧ Clean sta) (hti : tit.length ≤ 4 ∧ Clean tit) (hk : k < gs.length) : FieldsOK (rfields gs sta tit k) := by
  have l1 := group_len good k
  have l2 := sum_le (group_short good k)
  have l3 := num_facts (n := gs.length) (by have := good.ln; omega)
  have l4 := num_facts (n := k + 1) (by have := good.ln; omega)
  unfold rfields
  refine ⟨by simp, ?_, ?_, ?_⟩
  · intro f hf
    rcases List.mem_append.mp hf with hf | hf
    · simp only [List.mem_cons, List.not_mem_nil, or_false] at hf
      rcases hf with rfl | rfl | rfl | rfl
      · exact l3.2
      · exact l4.2
      · exact hst.2
      · exact hti.2
    · exact group_clean good k f hf
  · simp only [List.length_append, List.length_cons, List.length_nil]; omega
  · simp only [List.map_append, List.map_cons, List.map_nil, List.sum_append, List.sum_cons, List.sum_nil]
    have := hst.1
    have := hti.1
    have := l3.1
    have := l4.1
    omega
theorem wname_is {n : Int} (n0 : 0 ≤ n) (n1 : n < 49) : IsName (wname n) := ⟨n, by
  unfold nameOf
  rw [Int.fmod_eq_of_lt n0 (by omega), if_neg (by omega)]⟩
theorem wfields_ok {n : Int} (n0 : 0 ≤ n) (n1 : n < 49) : FieldsOK (wfields (wname n)) := by
  obtain ⟨f1, f2⟩ := place_facts n0 n1
  have l3 := sum_le fun y hy => (f2 y hy).1
  have l4 := name_facts (wname_is n0 n1)
  unfold wfields
  rw [wpl_eq n0 n1]
  refine ⟨by simp, ?_, ?_, ?_⟩
  · intro f hf
    rcases List.mem_append.mp hf with hf | hf
    · exact (f2 f hf).2
    · rw [List.mem_singleton.mp hf]; exact l4.2
  · simp only [List.length_append, List.length_cons, List.length_nil]; omega
  · simp only [List.map_append, List.map_cons, List.map_nil, List.sum_append, List.sum_cons, List.sum_nil]
    have := l4.1
    omega
theorem fields_short {k1 k2 k3 : Nat} {fs : List Str} (ok : FieldsOK fs) : (bodyOf ⟨#[k1, k2, k3]⟩ fs).length ≤ 300 := by
  have := tjoin_len (ys := fs)
  have a1 := ok.ln
  have a2 := ok.sm
  rw [len_list] at this
  rw [len_list, body_list]
  simp only [List.length_cons]
  omega
theorem rbody_codes {fs : List Str} (ok : FieldsOK fs) : ∀ c ∈ KStt.codes (bodyOf RTEk fs), c < 128 := body_ascii (by decide) (by decide) (by decide) ok.cl
theorem wbody_codes {fs : List Str} (ok : FieldsOK fs) : ∀ c ∈ KStt.codes (bodyOf WPLk fs), c < 128 := body_ascii (by decide) (by decide) (by decide) ok.cl
theorem parse_rte {b : Bool} {t : Tok} {d : Addr} {o : Obj} {fs : List Str} (ok : FieldsOK fs) :
    Claim prog w p loose mean mg mb 3 124 [.str (lineOf b (bodyOf RTEk fs)) t, .ref d] (fun h₀ L m news s Q => (d, o) ∈ news ∧ (d == sysModules) = false ∧ o.IsDictOf (strKind prog w) kinds ∧ RetM 269 RTEk fs h₀ L m news s Q) := by
  have a1 := ok.ln
  have a2 := ok.sm
  cases b
  · exact parse_bare (parts_bare (by decide) (by decide) (by decide) ok.ne ok.cl (by omega) (by omega)) kind_rte (by omega)
  · exact parse_sum (parts_sum (by decide) (by decide) (by decide) ok.ne ok.cl (by omega) (by omega)) kind_rte (rbody_codes ok) (by omega)
theorem parse_wpl {b : Bool} {t : Tok} {d : Addr} {o : Obj} {fs : List Str} (ok : FieldsOK fs) :
    Claim prog w p loose mean mg mb 3 124 [.str (lineOf b (bodyOf WPLk fs)) t, .ref d] (fun h₀ L m news s Q => (d, o) ∈ news ∧ (d == sysModules) = false ∧ o.IsDictOf (strKind prog w) kinds ∧ RetM 287 WPLk fs h₀ L m news s Q) := by
  have a1 := ok.ln
  have a2 := ok.sm
  cases b
  · exact parse_bare (parts_bare (by decide) (by decide) (by decide) ok.ne ok.cl (by omega) (by omega)) kind_wpl (by omega)
  · exact parse_sum (parts_sum (by decide) (by decide) (by decide) ok.ne ok.cl (by omega) (by omega)) kind_wpl (wbody_codes ok) (by omega)
/-- which body is the i-th -/
theorem body_at {gs : List (List Str)} {sta tit : Str} {as : List Str} {i : Nat} (good : GoodG gs) (as1 : ∀ x ∈ as, x ∈ gs.flatten ∧ x ≠ Str.ofString "") (hi : i < (bodies gs sta tit as).length) :
    (i < gs.length ∧ (bodies gs sta tit as).getD i Str.empty = bodyOf RTEk (rfields gs sta tit i)) ∨ (gs.length ≤ i ∧ ∃ n : Int, 0 ≤ n ∧ n < 49 ∧ as[i - gs.length]? = some (wname n) ∧ (bodies gs sta tit as).getD i Str.empty = bodyOf WPLk (wfields (wname n))) := by
  unfold bodies at hi ⊢
  simp only [List.length_append, List.length_map, List.length_range] at hi
  by_cases h : i < gs.length
  · refine .inl ⟨h, ?_⟩
    rw [List.getD_eq_getElem?_getD, List.getElem?_append_left (by simpa using h)]
    simp [h, rbody]
  · refine .inr ⟨by omega, ?_⟩
    have h2 : i - gs.length < as.length := by omega
    have h3 : as[i - gs.length]? = some as[i - gs.length] := List.getElem?_eq_getElem h2
    obtain ⟨a1, a2⟩ := as1 _ (List.getElem_mem h2)
    rcases name_cases (flat_names good a1) with e | ⟨n, n0, n1, e⟩
    · exact absurd e a2
    · refine ⟨n, n0, n1, by rw [h3, e], ?_⟩
      rw [List.getD_eq_getElem?_getD, List.getElem?_append_right (by simp; omega)]
      simp only [List.length_map, List.length_range, List.getElem?_map, h3, Option.map_some, Option.getD_some, wbody, e]
theorem body_short {gs : List (List Str)} {sta tit : Str} {as : List Str} {i : Nat} (good : GoodG gs) (hst : sta.length ≤ 1 ∧ Clean sta) (hti : tit.length ≤ 4 ∧ Clean tit) (as1 : ∀ x ∈ as, x ∈ gs.flatten ∧ x ≠ Str.ofString "") (hi : i < (bodies gs sta tit as).length) :
    ((bodies gs sta tit as).getD i Str.empty).length ≤ 300 ∧ ∀ c ∈ KStt.codes ((bodies gs sta tit as).getD i Str.empty), c < 128 := by
  rcases body_at (sta := sta) (tit := tit) good as1 hi with ⟨h, e⟩ | ⟨h, n, n0, n1, _, e⟩
  · rw [e]
    have ok := rfields_ok good hst hti h
    exact ⟨fields_short ok, rbody_codes ok⟩
  · rw [e]
    have ok := wfields_ok n0 n1
    exact ⟨fields_short ok, wbody_codes ok⟩
theorem led_item_some {A : Around} {E : Value → Shared → Prop} {s : Shared} {h₀ : Heap} {L l : Addr} {news : List (Addr × Obj)} {value slice : PySem.Expr} {vs : List Value} {ks : List Int} {k : Nat} {Q : Value → Shared → Prop} {i : Int} {u : Tok} (N : News h₀ L s.heap news) (hl : (l, W.listOf vs.toArray k) ∈ news) (hI : IntsAre vs ks) (h0 : 0 ≤ i) (h1 : i < vs.length) (hz : vs.length ≤ 1000000) (h : ∀ n t, Q (.int n t) s)
    (hs : subscripted slice false (.ref l) (.int i u) = operate [.ref l, .int i u] (getItem (.ref l) (.int i u)) := by with_unfolding_all rfl) :
    wpAny (model prog w) A (subscriptTail value slice (.ref l) (.int i u)) Q E s := by
  have e : vs[i.toNat]? = some (vs[i.toNat]'(by omega)) := List.getElem?_eq_getElem (by omega)
  obtain ⟨n, t, hv⟩ := ints_get hI e
  rw [hv] at e
  exact led_item N hl h0 (by omega) e (h n t) hs
end
/- V6 -/
section
variable {prog : Program} {w : World} {p : Program} {loose : List Str} {mean : ExcName → Option Value} {mg mb : Str → Option Value}
local macro_rules | `(tactic| k_room) => `(tactic| ktr_room)
local macro_rules | `(tactic| ktr_room) => `(tactic| (simp only [depth_under_make, depth_under_kw, depth_in1, depth_deeper] at *; omega))
local macro_rules | `(tactic| k_units) => `(tactic| ktr_units)
local macro_rules | `(tactic| k_mem) => `(tactic| first | assumption | (refine List.mem_cons_of_mem _ ?_; k_mem))

section
variable {K : Type} [DecidableEq K]
theorem at_map {k k' : K} {v : Value} : ∀ (kvs : List (K × Value)), PySem.valueAt (kvs.map fun kv => if kv.1 = k then (kv.1, v) else kv) k' = if k' = k then (if kvs.any (fun kv => kv.1 = k) then some v else none) else PySem.valueAt kvs k'
  | [] => by simp [PySem.valueAt]
  | kv :: kvs => by
    have ih := at_map (k := k) (k' := k') (v := v) kvs
    unfold PySem.valueAt at ih ⊢
    by_cases h1 : kv.1 = k
    · by_cases h2 : k' = k
      · subst h2; simp [h1]
      · have h3 : ¬ kv.1 = k' := fun e => h2 (by rw [← e, h1])
        have h4 : ¬ k = k' := fun e => h2 e.symm
        simp only [List.map_cons, h1, if_true, List.find?_cons, h4, decide_false, h2, if_false] at ih ⊢
        exact ih
    · by_cases h2 : k' = k
      · subst h2
        simp only [List.map_cons, h1, if_false, List.find?_cons, decide_false, if_true, List.any_cons, Bool.false_or] at ih ⊢
        exact ih
      · by_cases h3 : kv.1 = k'
        · simp [h1, h2, h3]
        · simp only [List.map_cons, h1, if_false, List.find?_cons, h3, decide_false, h2] at ih ⊢
          exact ih
theorem at_stored (kvs : List (K × Value)) (k k' : K) (v : Value) : PySem.valueAt (PySem.stored kvs k v) k' = if k' = k then some v else PySem.valueAt kvs k' := by
  unfold PySem.stored
  split
  · rename_i h
    have := at_map (k := k) (k' := k') (v := v) kvs
    rw [h, if_pos rfl] at this
    exact this
  · rename_i h
    unfold PySem.valueAt
    rw [List.find?_append]
    by_cases h2 : k' = k
    · subst h2
      have : List.find? (fun kv => decide (kv.1 = k')) kvs = none := by
        rw [List.find?_eq_none]
        intro x hx e
        exact h (List.any_eq_true.mpr ⟨x, hx, e⟩)
      simp [this]
    · have h3 : ¬ k = k' := fun e => h2 e.symm
      simp [h2, h3]
end
/-- before the i-th entry, fourth loop: told at T, due at U, lists at D1, places at D2 -/
structure S4 (gs : List (List Str)) (as : List Str) (es : List (Bool × Nat)) (i : Nat) (tl : List (Addr × Obj)) (tv uv : List Value) (kv1 kv2 : List (Str × Value)) (ds : List PySem.W.Dat) : Prop where
  tt : PySem.W.DatAll tl tv ds
  uu : PySem.W.DatAll tl uv ds
  ok : ∀ d ∈ ds, okB 8 d = true
  ln : ds.length = 2 * i
  n1 : kv1.length ≤ i
  n2 : kv2.length ≤ i
  ll : ∀ b j, (b, j) ∈ es.take i → j < gs.length → ∃ a k us, PySem.valueAt kv1 (num (j + 1)) = some (.ref a) ∧ (a, W.listOf us.toArray k) ∈ tl ∧ StrsAre us (gs.getD j [])
  pp : ∀ b j n, (b, j) ∈ es.take i → gs.length ≤ j → 0 ≤ n → n < 49 → as[j - gs.length]? = some (wname n) → ∃ a k us, PySem.valueAt kv2 (wname n) = some (.ref a) ∧ (a, W.listOf us.toArray k) ∈ tl ∧ StrsAre us (placeOf n)
  pn : PySem.valueAt kv2 (Str.ofString "") = none
def J4 (old : List (Addr × Obj)) (G ld : Addr) (sta tit : Str) (gs : List (List Str)) (as : List Str) (es : List (Bool × Nat)) (T U D1 D2 : Nat) (i : Nat) (m : Str → Option Value) (nx : List (Addr × Obj)) : Prop :=
  ∃ (kT kU : Nat) (tv uv : List Value) (o1 o2 : Obj) (kv1 kv2 : List (Str × Value)) (ds : List PySem.W.Dat) (tl : List (Addr × Obj)), nx = (D2, o2) :: (D1, o1) :: (U, W.listOf uv.toArray kU) :: (T, W.listOf tv.toArray kT) :: tl ∧
    (∀ p ∈ tl, p.1 ≠ T) ∧ (∀ p ∈ tl, p.1 ≠ U) ∧ (∀ p ∈ tl, p.1 ≠ D1) ∧ (∀ p ∈ tl, p.1 ≠ D2) ∧ (∀ p ∈ old, p ∈ tl) ∧ o1.IsDictOf (strKind prog w) kv1 ∧ o2.IsDictOf (strKind prog w) kv2 ∧ S4 gs as es i tl tv uv kv1 kv2 ds ∧
    Look m G ld sta tit ∧ m (Str.ofString "told") = some (.ref T) ∧ m (Str.ofString "due") = some (.ref U) ∧ m (Str.ofString "lists") = some (.ref D1)
theorem num_inj : ∀ i j : Fin 9, num (i.val + 1) = num (j.val + 1) → i = j := by decide +kernel
theorem wname_inj : ∀ i j : Fin 49, wname (i.val : Int) = wname (j.val : Int) → i = j := by decide +kernel
theorem wname_ne : ∀ i : Fin 49, Str.ofString "" ≠ wname (i.val : Int) := by decide +kernel
theorem take_in {es : List (Bool × Nat)} {i j : Nat} {b c : Bool} {q : Nat} (hi : es[i]? = some (c, q)) (h : (b, j) ∈ es.take (i + 1)) : (b, j) ∈ es.take i ∨ j = q := by
  rw [List.take_add_one, hi] at h
  rcases List.mem_append.mp h with h | h
  · exact .inl h
  · right
    exact (by simpa using h : b = c ∧ j = q).2
section
variable {gs : List (List Str)} {as : List Str} {es : List (Bool × Nat)} {i q : Nat} {c : Bool} {tl tl2 : List (Addr × Obj)} {tv uv : List Value} {kv1 kv2 : List (Str × Value)} {ds : List PySem.W.Dat}
theorem S4.rte (S : S4 gs as es i tl tv uv kv1 kv2 ds) (good : GoodG gs) (hi : es[i]? = some (c, q)) (hq : q < gs.length) (sub : ∀ p ∈ tl, p ∈ tl2) {t1 t2 u1 u2 : Value} {d1 d2 : PySem.W.Dat} {a : Addr} {k : Nat} {us : List Value}
    (h1 : PySem.W.DatIn tl2 t1 d1) (h2 : PySem.W.DatIn tl2 t2 d2) (h3 : PySem.W.DatIn tl2 u1 d1) (h4 : PySem.W.DatIn tl2 u2 d2) (k1 : okB 8 d1 = true) (k2 : okB 8 d2 = true) (ha : (a, W.listOf us.toArray k) ∈ tl2) (hu : StrsAre us (gs.getD q [])) :
    S4 gs as es (i + 1) tl2 (tv ++ [t1, t2]) (uv ++ [u1, u2]) (PySem.stored kv1 (num (q + 1)) (.ref a)) kv2 (ds ++ [d1, d2]) where
  tt := PySem.W.DatAll.append (PySem.W.DatAll.mono sub S.tt) (.cons h1 (.cons h2 .nil))
  uu := PySem.W.DatAll.append (PySem.W.DatAll.mono sub S.uu) (.cons h3 (.cons h4 .nil))
  ok := by
    intro d hd
    rcases List.mem_append.mp hd with hd | hd
    · exact S.ok d hd
    · simp only [List.mem_cons, List.not_mem_nil, or_false] at hd
      rcases hd with rfl | rfl
      · exact k1
      · exact k2
  ln := by rw [List.length_append, S.ln]; simp only [List.length_cons, List.length_nil]; omega
  n1 := Nat.le_trans (PySem.stored_length_le _ _ _) (Nat.succ_le_succ S.n1)
  n2 := Nat.le_succ_of_le S.n2
  ll := by
    intro b j hj hjl
    rw [at_stored]
    by_cases e : num (j + 1) = num (q + 1)
    · have g := good.ln
      have : j = q := by
        have := num_inj ⟨j, by omega⟩ ⟨q, by omega⟩ e
        exact congrArg Fin.val this
      subst this
      rw [if_pos e]
      exact ⟨a, k, us, rfl, ha, hu⟩
    · rw [if_neg e]
      rcases take_in hi hj with h | h
      · obtain ⟨a', k', us', x, y, z⟩ := S.ll b j h hjl
        exact ⟨a', k', us', x, sub _ y, z⟩
      · subst h; exact absurd rfl e
  pp := by
    intro b j n hj hjl n0 n1 e
    rcases take_in hi hj with h | h
    · obtain ⟨a', k', us', x, y, z⟩ := S.pp b j n h hjl n0 n1 e
      exact ⟨a', k', us', x, sub _ y, z⟩
    · omega
  pn := S.pn
theorem S4.wpl (S : S4 gs as es i tl tv uv kv1 kv2 ds) (hi : es[i]? = some (c, q)) {n : Int} (n0 : 0 ≤ n) (n1 : n < 49) (hq : gs.length ≤ q) (hn : as[q - gs.length]? = some (wname n)) (sub : ∀ p ∈ tl, p ∈ tl2) {t1 t2 u1 u2 : Value} {d1 d2 : PySem.W.Dat} {a : Addr} {k : Nat} {us : List Value}
    (h1 : PySem.W.DatIn tl2 t1 d1) (h2 : PySem.W.DatIn tl2 t2 d2) (h3 : PySem.W.DatIn tl2 u1 d1) (h4 : PySem.W.DatIn tl2 u2 d2) (k1 : okB 8 d1 = true) (k2 : okB 8 d2 = true) (ha : (a, W.listOf us.toArray k) ∈ tl2) (hu : StrsAre us (placeOf n)) :
    S4 gs as es (i + 1) tl2 (tv ++ [t1, t2]) (uv ++ [u1, u2]) kv1 (PySem.stored kv2 (wname n) (.ref a)) (ds ++ [d1, d2]) where
  tt := PySem.W.DatAll.append (PySem.W.DatAll.mono sub S.tt) (.cons h1 (.cons h2 .nil))
  uu := PySem.W.DatAll.append (PySem.W.DatAll.mono sub S.uu) (.cons h3 (.cons h4 .nil))
  ok := by
    intro d hd
    rcases List.mem_append.mp hd with hd | hd
    · exact S.ok d hd
    · simp only [List.mem_cons, List.not_mem_nil, or_false] at hd
      rcases hd with rfl | rfl
      · exact k1
      · exact k2
  ln := by rw [List.length_append, S.ln]; simp only [List.length_cons, List.length_nil]; omega
  n1 := Nat.le_succ_of_le S.n1
  n2 := Nat.le_trans (PySem.stored_length_le _ _ _) (Nat.succ_le_succ S.n2)
  ll := by
    intro b j hj hjl
    rcases take_in hi hj with h | h
    · obtain ⟨a', k', us', x, y, z⟩ := S.ll b j h hjl
      exact ⟨a', k', us', x, sub _ y, z⟩
    · omega
  pp := by
    intro b j n' hj hjl m0 m1 e
    rw [at_stored]
    by_cases e2 : wname n' = wname n
    · obtain ⟨x, rfl⟩ := Int.eq_ofNat_of_zero_le m0
      obtain ⟨y, rfl⟩ := Int.eq_ofNat_of_zero_le n0
      have : x = y := congrArg Fin.val (wname_inj ⟨x, by omega⟩ ⟨y, by omega⟩ e2)
      subst this
      rw [if_pos e2]
      exact ⟨a, k, us, rfl, ha, hu⟩
    · rw [if_neg e2]
      rcases take_in hi hj with h | h
      · obtain ⟨a', k', us', x, y, z⟩ := S.pp b j n' h hjl m0 m1 e
        exact ⟨a', k', us', x, sub _ y, z⟩
      · subst h
        rw [hn] at e
        exact absurd (Option.some.inj e).symm e2
  pn := by
    obtain ⟨y, rfl⟩ := Int.eq_ofNat_of_zero_le n0
    rw [at_stored, if_neg (wname_ne ⟨y, by omega⟩)]
    exact S.pn
end
end
/- V7 -/
section
variable {prog : Program} {w : World} {p : Program} {loose : List Str} {mean : ExcName → Option Value} {mg mb : Str → Option Value}
local macro_rules | `(tactic| k_room) => `(tactic| ktr_room)
local macro_rules | `(tactic| ktr_room) => `(tactic| (simp only [depth_under_make, depth_under_kw, depth_in1, depth_deeper] at *; omega))
local macro_rules | `(tactic| k_units) => `(tactic| ktr_units)
local macro_rules | `(tactic| k_mem) => `(tactic| first | assumption | (refine List.mem_cons_of_mem _ ?_; k_mem))

theorem hex_ascii : ∀ v : Fin 128, ∀ c ∈ (hexText (v.val : Int)).cps.toList, c < 128 := by decide +kernel
theorem app_ascii {x y : Str} (hx : ∀ c ∈ x.cps.toList, c < 128) (hy : ∀ c ∈ y.cps.toList, c < 128) : ∀ c ∈ (x ++ y).cps.toList, c < 128 := by
  intro c h
  rw [app_list] at h
  rcases List.mem_append.mp h with h | h
  · exact hx c h
  · exact hy c h
theorem codes_ascii {x : Str} (h : ∀ c ∈ KStt.codes x, c < 128) : ∀ c ∈ x.cps.toList, c < 128 := by
  intro c hc
  have := h (c : Int) (by unfold KStt.codes; exact List.mem_map.mpr ⟨c, hc, rfl⟩)
  omega
theorem line_ascii {x : Str} {b : Bool} (h : ∀ c ∈ KStt.codes x, c < 128) : ∀ c ∈ (lineOf b x).cps.toList, c < 128 := by
  have hx := codes_ascii h
  obtain ⟨h4, h5⟩ := xsumI_lt h
  obtain ⟨k, hk⟩ := Int.eq_ofNat_of_zero_le h4
  have hh := hex_ascii ⟨k, by omega⟩
  unfold lineOf hexOf
  rw [hk]
  cases b
  · exact app_ascii (by decide) hx
  · exact app_ascii (by decide) (app_ascii hx hh)
theorem rfields_at (gs : List (List Str)) (sta tit : Str) (k : Nat) : (rfields gs sta tit k).getD 0 Str.empty = num gs.length ∧ (rfields gs sta tit k).getD 1 Str.empty = num (k + 1) ∧ (rfields gs sta tit k).getD 2 Str.empty = sta ∧ (rfields gs sta tit k).getD 3 Str.empty = tit ∧ (rfields gs sta tit k).drop 4 = gs.getD k [] ∧ 4 ≤ (rfields gs sta tit k).length :=
  ⟨rfl, rfl, rfl, rfl, rfl, by simp [rfields]⟩
theorem wfields_at {n : Int} (n0 : 0 ≤ n) (n1 : n < 49) : (wfields (wname n)).getD 0 Str.empty = (placeOf n).getD 0 Str.empty ∧ (wfields (wname n)).getD 1 Str.empty = (placeOf n).getD 1 Str.empty ∧ (wfields (wname n)).getD 2 Str.empty = (placeOf n).getD 2 Str.empty ∧ (wfields (wname n)).getD 3 Str.empty = (placeOf n).getD 3 Str.empty ∧ (wfields (wname n)).getD 4 Str.empty = wname n ∧ (wfields (wname n)).length = 5 := by
  unfold wfields
  rw [wpl_eq n0 n1]
  exact ⟨rfl, rfl, rfl, rfl, rfl, rfl⟩
theorem place_strs {n : Int} {t1 t2 t3 t4 : Tok} : StrsAre [Value.str ((placeOf n).getD 0 Str.empty) t1, Value.str ((placeOf n).getD 1 Str.empty) t2, Value.str ((placeOf n).getD 2 Str.empty) t3, Value.str ((placeOf n).getD 3 Str.empty) t4] (placeOf n) :=
  .cons _ _ (.cons _ _ (.cons _ _ (.cons _ _ .nil)))
open PySem.Spec in
theorem clean_ok {x : Str} (h : Clean x) : PyData.strOk x = true := ascii_ok fun c hc => (h c hc).1
theorem isMsg_of {l x C dx n k : Nat} {es : List DictEntry} {vs : List Value} {kd : Str} {fs : List Str} (S : StrsAre vs fs) (M : MsgDict es kd l) : IsMsg [(l, W.listOf vs.toArray k), (x, instObj C dx), (dx, dictOf es n)] x C kd fs :=
  ⟨dx, es, n, l, vs, k, .tail _ (.head _), .tail _ (.tail _ (.head _)), .head _, S, M⟩
theorem split_cell {h₀ h : Heap} {L : Addr} {news : List (Addr × Obj)} {C : Addr} {w : Obj} {v : Option Value} (N : News h₀ L h news) (hC : (C, w) ∈ news) (hd : w.data = .cell v) :
    ∃ tl, News h₀ L h ((C, w) :: tl) ∧ (∀ p ∈ tl, p.1 ≠ C) ∧ ∀ p ∈ news, (∃ its n, p.2.data = .seq its n) → p ∈ tl := by
  refine ⟨news.filter fun p => decide (p.1 ≠ C), ?_, ?_, ?_⟩
  · intro p hp
    rcases List.mem_cons.mp hp with rfl | hp
    · exact N _ hC
    · exact N _ (List.mem_filter.mp hp).1
  · intro p hp
    simpa using (List.mem_filter.mp hp).2
  · rintro p hp ⟨its, n, e⟩
    refine List.mem_filter.mpr ⟨hp, decide_eq_true ?_⟩
    intro e2
    have h1 := (N _ hp).1
    have h2 := (N _ hC).1
    rw [e2, h2] at h1
    have h3 : w = p.2 := Option.some.inj h1
    rw [h3, e] at hd
    cases hd
theorem item_at {news : List (Addr × Obj)} {bs : List Str} {ov : List Value} {es : List (Bool × Nat)} {i : Nat} {v : Value} (D : PySem.W.DatAll news ov (es.map (entD bs))) (e : ov[i]? = some v) : ∃ a k b q t1 t2, v = .ref a ∧ (a, W.listOf #[Value.str (lineOf b (bs.getD q Str.empty)) t1, .bool b, Value.str (bs.getD q Str.empty) t2] k) ∈ news ∧ es[i]? = some (b, q) := by
  have hl := D.length
  have hi : i < ov.length := (List.getElem?_eq_some_iff.mp e).1
  rw [List.length_map] at hl
  obtain ⟨u, e2, D2⟩ := D.get (k := i) (by rw [List.length_map]; omega)
  rw [e] at e2
  cases Option.some.inj e2
  rw [List.getElem_map] at D2
  have h3 : es[i]? = some es[i] := List.getElem?_eq_getElem (by omega)
  rw [h3]
  generalize es[i] = x at D2
  obtain ⟨b, q⟩ := x
  cases D2 with
  | list hm r =>
    cases r with
    | cons a r =>
      cases a
      cases r with
      | cons a r =>
        cases a
        cases r with
        | cons a r =>
          cases a
          cases r
          exact ⟨_, _, b, q, _, _, rfl, hm, rfl⟩
theorem refs_at {news : List (Addr × Obj)} {bs : List Str} {ov : List Value} {es : List (Bool × Nat)} (D : PySem.W.DatAll news ov (es.map (entD bs))) (i : Nat) (v : Value) (e : ov[i]? = some v) : ∃ T : Addr, v = Value.ref T := by
  obtain ⟨a, _, _, _, _, _, e, _⟩ := item_at D e
  exact ⟨a, e⟩
/-- an address that is apart from the four and from the rest -/
def Apart (X T U D1 D2 : Nat) (tl : List (Addr × Obj)) : Prop := X ≠ T ∧ X ≠ U ∧ X ≠ D1 ∧ X ≠ D2 ∧ ∀ p ∈ tl, p.1 ≠ X
theorem apart_all {T U D1 D2 : Nat} {tl tl2 own : List (Addr × Obj)} {fr nx : List (Addr × Obj)} (h : ∀ p ∈ fr, Apart p.1 T U D1 D2 tl2) (dT : ∀ p ∈ tl, p.1 ≠ T) (dU : ∀ p ∈ tl, p.1 ≠ U) (d1 : ∀ p ∈ tl, p.1 ≠ D1) (d2 : ∀ p ∈ tl, p.1 ≠ D2) (s2 : ∀ p ∈ own, p ∈ tl2) (hoff : OwnOff own ([D2, D1, U, T] ++ tl.map (·.1))) (hnx : nx.map (·.1) = [D2, D1, U, T]) :
    (∀ p ∈ fr ++ tl, p.1 ≠ T) ∧ (∀ p ∈ fr ++ tl, p.1 ≠ U) ∧ (∀ p ∈ fr ++ tl, p.1 ≠ D1) ∧ (∀ p ∈ fr ++ tl, p.1 ≠ D2) ∧ OwnOff own ((nx ++ (fr ++ tl)).map (·.1)) := by
  refine ⟨?_, ?_, ?_, ?_, ?_⟩
  · intro p hp; rcases List.mem_append.mp hp with hp | hp
    · exact (h p hp).1
    · exact dT p hp
  · intro p hp; rcases List.mem_append.mp hp with hp | hp
    · exact (h p hp).2.1
    · exact dU p hp
  · intro p hp; rcases List.mem_append.mp hp with hp | hp
    · exact (h p hp).2.2.1
    · exact d1 p hp
  · intro p hp; rcases List.mem_append.mp hp with hp | hp
    · exact (h p hp).2.2.2.1
    · exact d2 p hp
  · intro p hp b hb
    rw [List.map_append, hnx, List.map_append] at hb
    rcases List.mem_append.mp hb with hb | hb
    · exact hoff p hp b (List.mem_append_left _ hb)
    rcases List.mem_append.mp hb with hb | hb
    · obtain ⟨q, hq, rfl⟩ := List.mem_map.mp hb
      exact (h q hq).2.2.2.2 p (s2 p hp)
    · exact hoff p hp b (List.mem_append_right _ hb)
theorem J4_zero {old : List (Addr × Obj)} {G ld T U D1 D2 : Nat} {sta tit : Str} {gs : List (List Str)} {as : List Str} {es : List (Bool × Nat)} {m : Str → Option Value} {o1 o2 : Obj} (dT : ∀ p ∈ old, p.1 ≠ T) (dU : ∀ p ∈ old, p.1 ≠ U) (d1 : ∀ p ∈ old, p.1 ≠ D1) (d2 : ∀ p ∈ old, p.1 ≠ D2) (i1 : o1.IsDictOf (strKind prog w) []) (i2 : o2.IsDictOf (strKind prog w) [])
    (lk : Look m G ld sta tit) (e1 : m (Str.ofString "told") = some (.ref T)) (e2 : m (Str.ofString "due") = some (.ref U)) (e3 : m (Str.ofString "lists") = some (.ref D1)) :
    J4 (prog := prog) (w := w) old G ld sta tit gs as es T U D1 D2 0 m ((D2, o2) :: (D1, o1) :: (U, W.listOf #[] 0) :: (T, W.listOf #[] 0) :: old) :=
  ⟨0, 0, [], [], o1, o2, [], [], [], old, rfl, dT, dU, d1, d2, fun _ h => h, i1, i2, ⟨.nil, .nil, (fun _ h => nomatch h), rfl, Nat.le_refl _, Nat.le_refl _, (fun _ _ h => by simp at h), (fun _ _ _ h => by simp at h), rfl⟩, lk, e1, e2, e3⟩
end
/- V8 -/
section
variable {prog : Program} {w : World} {p : Program} {loose : List Str} {mean : ExcName → Option Value} {mg mb : Str → Option Value}
local macro_rules | `(tactic| k_room) => `(tactic| ktr_room)
local macro_rules | `(tactic| ktr_room) => `(tactic| (simp only [depth_under_make, depth_under_kw, depth_in1, depth_deeper] at *; omega))
local macro_rules | `(tactic| k_units) => `(tactic| ktr_units)
local macro_rules | `(tactic| k_mem) => `(tactic| first | assumption | (refine List.mem_cons_of_mem _ ?_; k_mem))

theorem keysR_0 : keysR.getD 0 Str.empty = Str.ofString "num_in_seq" := rfl
theorem keysR_1 : keysR.getD 1 Str.empty = Str.ofString "sen_num" := rfl
theorem keysR_2 : keysR.getD 2 Str.empty = Str.ofString "start_type" := rfl
theorem keysR_3 : keysR.getD 3 Str.empty = Str.ofString "active_route_id" := rfl
theorem keysW_0 : keysW.getD 0 Str.empty = Str.ofString "lat" := rfl
theorem keysW_1 : keysW.getD 1 Str.empty = Str.ofString "lat_dir" := rfl
theorem keysW_2 : keysW.getD 2 Str.empty = Str.ofString "lon" := rfl
theorem keysW_3 : keysW.getD 3 Str.empty = Str.ofString "lon_dir" := rfl
theorem keysW_4 : keysW.getD 4 Str.empty = Str.ofString "waypoint_id" := rfl
section
variable {dp un : Nat} {gd : Option (List Code)} {cn : Str} {cs : Scope} {a : Addr} {ccd : Value} {cl : List (Str × Addr)} {outer : List Env} {A₀ : Around} {base h₀ : Heap} {L : Addr} {m : Str → Option Value} {news : List (Addr × Obj)} {s : Shared} {Q E : Value → Shared → Prop} {x : Addr} {kd : Str} {fs : List Str} {name : Str} {expr : Bool} {i : Nat}
theorem field_rte (hn : keysR.getD i Str.empty = name) (B : Below A₀ base outer h₀) (F : Fr h₀ L s.heap m) (X : (Mine.hd.heap_39 w.params).In h₀) (N : News h₀ L s.heap news) (T : Top p loose mean mg mb h₀) (hk : cs.kind = .function) (hd : dp + 2 * 2 < recursionLimit) (hu : un + 300 < cLine)
    (im : IsMsg news x 269 kd fs) (hi : i < 4) (hb : fs.length ≤ 100) (h4 : 4 ≤ fs.length) (ha : findIn (Mine.hd.heap_39 w.params) (.ref 269) name = some none) (hc : copiedNames.contains name = false) (n1 : name ≠ "talker") (n2 : name ≠ "sentence_type") (n3 : name ≠ "data")
    (h : ∀ h' tk t, Fr h₀ L h' m → News h₀ L h' news → Q (.str (fs.getD i Str.empty) t) { s with heap := h', toks := tk }) : wpAny (model prog w) (ktrTop dp un gd cn cs L a ccd cl outer) (getAttr (.ref x) name expr) Q E s := by
  obtain ⟨dx, es, n, l, vs, k, m1, m2, m3, m4, MD⟩ := id im
  subst hn
  refine hk_hook F X (InstAt.of_news N m1 m2) hooked_rte ha hc (MD.no _ n1 n2 n3) (call_of (ga_rte hb h4 hi dp (un + 1) gd cn cs a ccd cl outer A₀ base h₀ L m news _ _ _ B F X N T hk hd (by omega) ⟨im, ?_⟩))
  rintro h' tk _ F' N' ⟨t, rfl⟩
  exact handed_on rfl (h h' tk t F' N')
theorem field_wpl (hn : keysW.getD i Str.empty = name) (B : Below A₀ base outer h₀) (F : Fr h₀ L s.heap m) (X : (Mine.hd.heap_39 w.params).In h₀) (N : News h₀ L s.heap news) (T : Top p loose mean mg mb h₀) (hk : cs.kind = .function) (hd : dp + 2 * 2 < recursionLimit) (hu : un + 300 < cLine)
    (im : IsMsg news x 287 kd fs) (hi : i < 5) (hb : fs.length ≤ 100) (h4 : 5 ≤ fs.length) (ha : findIn (Mine.hd.heap_39 w.params) (.ref 287) name = some none) (hc : copiedNames.contains name = false) (n1 : name ≠ "talker") (n2 : name ≠ "sentence_type") (n3 : name ≠ "data")
    (h : ∀ h' tk t, Fr h₀ L h' m → News h₀ L h' news → Q (.str (fs.getD i Str.empty) t) { s with heap := h', toks := tk }) : wpAny (model prog w) (ktrTop dp un gd cn cs L a ccd cl outer) (getAttr (.ref x) name expr) Q E s := by
  obtain ⟨dx, es, n, l, vs, k, m1, m2, m3, m4, MD⟩ := id im
  subst hn
  refine hk_hook F X (InstAt.of_news N m1 m2) hooked_wpl ha hc (MD.no _ n1 n2 n3) (call_of (ga_wpl hb h4 hi dp (un + 1) gd cn cs a ccd cl outer A₀ base h₀ L m news _ _ _ B F X N T hk hd (by omega) ⟨im, ?_⟩))
  rintro h' tk _ F' N' ⟨t, rfl⟩
  exact handed_on rfl (h h' tk t F' N')
theorem wpts_at (hn : name = Str.ofString "waypoint_list") (B : Below A₀ base outer h₀) (F : Fr h₀ L s.heap m) (X : (Mine.hd.heap_39 w.params).In h₀) (N : News h₀ L s.heap news) (T : Top p loose mean mg mb h₀) (hk : cs.kind = .function) (hd : dp + 2 * 2 < recursionLimit) (hu : un + 300 < cLine)
    (im : IsMsg news x 269 kd fs) (hb : fs.length ≤ 100)
    (h : ∀ h' tk l k vs, Fr h₀ L h' m → News h₀ L h' ((l, W.listOf vs.toArray k) :: news) → (∀ p ∈ news, p.1 < l) → StrsAre vs (fs.drop 4) → Q (.ref l) { s with heap := h', toks := tk }) : wpAny (model prog w) (ktrTop dp un gd cn cs L a ccd cl outer) (getAttr (.ref x) name expr) Q E s := by
  obtain ⟨dx, es, n, l, vs, k, m1, m2, m3, m4, MD⟩ := id im
  subst hn
  refine' hk_prop F X (InstAt.of_news N m1 m2) hooked_rte ?ha ?hn ?ht ?hp (wpts_c hb dp (un + 1) gd cn cs a ccd cl outer A₀ base h₀ L m news _ _ _ B F X N T hk (by omega) (by omega) ⟨im, ?hh⟩)
  case hh =>
    intro h' tk l k vs F' N' l1 S'
    exact handed_on rfl (h h' tk l k vs F' N' l1 S')
  case ha => k_is
  case hn => k_is
  case ht => k_is
  case hp => k_is
end
section
variable {h₀ : Heap} {L : Addr} {s₁ : Shared} {h' : Heap} {tk : Nat} {m' : Str → Option Value} {old own tl tl2 big : List (Addr × Obj)} {gs : List (List Str)} {as : List Str} {es : List (Bool × Nat)} {sta tit : Str} {i q nn kT kU kT2 kU2 : Nat} {c b : Bool} {tv uv vs : List Value} {kv1 kv2 : List (Str × Value)} {ds : List PySem.W.Dat} {l G ld T U D1 D2 : Nat} {o1 o2 p1 p2 uo to : Obj} {fs : List Str}
theorem push2 {l : List Value} {x y : Value} : (l.toArray.push x).push y = (l ++ [x, y]).toArray := by simp
theorem J4_rte (hl : (l, W.listOf vs.toArray nn) ∈ old) (hoff : OwnOff own (((D2, p2) :: (D1, p1) :: (U, uo) :: (T, to) :: tl).map (·.1))) (dT : ∀ p ∈ tl, p.1 ≠ T) (dU : ∀ p ∈ tl, p.1 ≠ U) (d1 : ∀ p ∈ tl, p.1 ≠ D1) (d2 : ∀ p ∈ tl, p.1 ≠ D2) (sub : ∀ p ∈ old, p ∈ tl) (i2 : o2.IsDictOf (strKind prog w) kv2)
    (S : S4 gs as es i tl tv uv kv1 kv2 ds) (good : GoodG gs) (hi : es[i]? = some (c, q)) (hq : q < gs.length) (s1 : ∀ p ∈ tl, p ∈ tl2) (s2 : ∀ p ∈ own, p ∈ tl2) (hst : Clean sta) (hti : Clean tit) (ok : FieldsOK fs)
    (f0 : fs.getD 0 Str.empty = num gs.length) (f1 : fs.getD 1 Str.empty = num (q + 1)) (f2 : fs.getD 2 Str.empty = sta) (f3 : fs.getD 3 Str.empty = tit) (f4 : fs.drop 4 = gs.getD q []) {wG : List Value} (hwG : wG.length = gs.length)
    {a A1 A2 A3 A4 k0 k1 k2 k3 k4 : Nat} {us : List Value} {t1 t2 t3 t4 t5 t6 t7 t8 t9 t10 : Tok} (hu : StrsAre us (fs.drop 4))
    (F : Fr h₀ L h' m') (N : News h₀ L h' big) (m1 : (D2, o2) ∈ big) (m2 : (D1, o1) ∈ big) (m3 : (U, W.listOf ((uv.toArray.push (Value.ref A3)).push (Value.ref A4)) kU2) ∈ big) (m4 : (T, W.listOf ((tv.toArray.push (Value.ref A1)).push (Value.ref A2)) kT2) ∈ big) (m5 : ∀ p ∈ tl2, p ∈ big)
    (i1 : o1.IsDictOf (strKind prog w) (PySem.stored kv1 (fs.getD 1 Str.empty) (.ref a)))
    (n0 : (a, W.listOf us.toArray k0) ∈ big) (n1 : (A1, W.listOf #[Value.str (fs.getD 0 Str.empty) t1, Value.str (fs.getD 2 Str.empty) t2, Value.str (fs.getD 3 Str.empty) t3] k1) ∈ big) (n3 : (A3, W.listOf #[Value.str (Str.ofString (toString ((wG.length : Nat) : Int))) t4, Value.str sta t5, Value.str tit t6] k3) ∈ big)
    (n2 : (A2, W.listOf #[Value.str (lineOf b (bodyOf RTEk fs)) t7, Value.str (bodyOf RTEk fs) t8] k2) ∈ big) (n4 : (A4, W.listOf #[Value.str (lineOf b (bodyOf RTEk fs)) t9, Value.str (bodyOf RTEk fs) t10] k4) ∈ big)
    (z0 : Apart a T U D1 D2 tl2) (z1 : Apart A1 T U D1 D2 tl2) (z2 : Apart A2 T U D1 D2 tl2) (z3 : Apart A3 T U D1 D2 tl2) (z4 : Apart A4 T U D1 D2 tl2)
    (lk : Look m' G ld sta tit) (e1 : m' (Str.ofString "told") = some (.ref T)) (e2 : m' (Str.ofString "due") = some (.ref U)) (e3 : m' (Str.ofString "lists") = some (.ref D1)) :
    PySem.W.InvEndG h₀ L (fun m' nx => (l, W.listOf vs.toArray nn) ∈ nx ∧ J4 (prog := prog) (w := w) old G ld sta tit gs as es T U D1 D2 (i + 1) m' nx) own s₁ { s₁ with heap := h', toks := tk } := by
  rw [hwG, show Str.ofString (toString ((gs.length : Nat) : Int)) = num gs.length from rfl] at n3
  rw [f0, f2, f3] at n1
  rw [f1] at i1
  rw [f4] at hu
  rw [push2] at m3 m4
  obtain ⟨fr, hfr⟩ : ∃ fr : List (Addr × Obj), fr = [(a, W.listOf us.toArray k0), (A1, W.listOf #[Value.str (num gs.length) t1, Value.str sta t2, Value.str tit t3] k1), (A3, W.listOf #[Value.str (num gs.length) t4, Value.str sta t5, Value.str tit t6] k3), (A2, W.listOf #[Value.str (lineOf b (bodyOf RTEk fs)) t7, Value.str (bodyOf RTEk fs) t8] k2), (A4, W.listOf #[Value.str (lineOf b (bodyOf RTEk fs)) t9, Value.str (bodyOf RTEk fs) t10] k4)] := ⟨_, rfl⟩
  have hz : ∀ p ∈ fr, Apart p.1 T U D1 D2 tl2 := by
    rw [hfr]
    exact List.forall_mem_cons.mpr ⟨z0, List.forall_mem_cons.mpr ⟨z1, List.forall_mem_cons.mpr ⟨z3, List.forall_mem_cons.mpr ⟨z2, List.forall_mem_cons.mpr ⟨z4, List.forall_mem_nil _⟩⟩⟩⟩⟩
  have hb : ∀ p ∈ fr, p ∈ big := by
    rw [hfr]
    exact List.forall_mem_cons.mpr ⟨n0, List.forall_mem_cons.mpr ⟨n1, List.forall_mem_cons.mpr ⟨n3, List.forall_mem_cons.mpr ⟨n2, List.forall_mem_cons.mpr ⟨n4, List.forall_mem_nil _⟩⟩⟩⟩⟩
  obtain ⟨w1, w2, w3, w4, w5⟩ := apart_all (nx := [(D2, o2), (D1, o1), (U, W.listOf (uv ++ [Value.ref A3, Value.ref A4]).toArray kU2), (T, W.listOf (tv ++ [Value.ref A1, Value.ref A2]).toArray kT2)]) hz dT dU d1 d2 s2 hoff rfl
  have sb : ∀ p ∈ tl, p ∈ fr ++ tl := fun p hp => List.mem_append_right _ hp
  have hfm : ∀ p ∈ fr, p ∈ fr ++ tl := fun p hp => List.mem_append_left _ hp
  have q0 := hfm _ (by rw [hfr]; exact .head _ : (a, W.listOf us.toArray k0) ∈ fr)
  have q1 := hfm _ (by rw [hfr]; exact .tail _ (.head _) : (A1, W.listOf [Value.str (num gs.length) t1, Value.str sta t2, Value.str tit t3].toArray k1) ∈ fr)
  have q3 := hfm _ (by rw [hfr]; exact .tail _ (.tail _ (.head _)) : (A3, W.listOf [Value.str (num gs.length) t4, Value.str sta t5, Value.str tit t6].toArray k3) ∈ fr)
  have q2 := hfm _ (by rw [hfr]; exact .tail _ (.tail _ (.tail _ (.head _))) : (A2, W.listOf [Value.str (lineOf b (bodyOf RTEk fs)) t7, Value.str (bodyOf RTEk fs) t8].toArray k2) ∈ fr)
  have q4 := hfm _ (by rw [hfr]; exact .tail _ (.tail _ (.tail _ (.tail _ (.head _)))) : (A4, W.listOf [Value.str (lineOf b (bodyOf RTEk fs)) t9, Value.str (bodyOf RTEk fs) t10].toArray k4) ∈ fr)
  have ha := rbody_codes ok
  have gl := good.ln
  have S' := S.rte good hi hq sb (t1 := .ref A1) (t2 := .ref A2) (u1 := .ref A3) (u2 := .ref A4) (d1 := .list [.str (num gs.length), .str sta, .str tit]) (d2 := .list [.str (lineOf b (bodyOf RTEk fs)), .str (bodyOf RTEk fs)])
    (.list q1 (.cons (.str _ _) (.cons (.str _ _) (.cons (.str _ _) .nil)))) (.list q2 (.cons (.str _ _) (.cons (.str _ _) .nil))) (.list q3 (.cons (.str _ _) (.cons (.str _ _) (.cons (.str _ _) .nil)))) (.list q4 (.cons (.str _ _) (.cons (.str _ _) .nil)))
    (by simp [okB, clean_ok (num_facts (n := gs.length) (by omega)).2, clean_ok hst, clean_ok hti]) (by simp [okB, ascii_ok (line_ascii (b := b) ha), ascii_ok (codes_ascii ha)]) q0 hu
  refine PySem.W.InvEndG.intro (nx := [(D2, o2), (D1, o1), (U, W.listOf (uv ++ [Value.ref A3, Value.ref A4]).toArray kU2), (T, W.listOf (tv ++ [Value.ref A1, Value.ref A2]).toArray kT2)] ++ (fr ++ tl)) F N ⟨List.mem_append_right _ (sb _ (sub _ hl)),
    kT2, kU2, _, _, o1, o2, _, _, _, fr ++ tl, rfl, w1, w2, w3, w4, fun p hp => sb p (sub p hp), i1, i2, S', lk, e1, e2, e3⟩ w5 ?_ fun p hp => m5 p (s2 p hp)
  · intro p hp
    rcases List.mem_append.mp hp with hp | hp
    · simp only [List.mem_cons, List.not_mem_nil, or_false] at hp
      rcases hp with rfl | rfl | rfl | rfl
      · exact m1
      · exact m2
      · exact m3
      · exact m4
    · rcases List.mem_append.mp hp with hp | hp
      · exact hb p hp
      · exact m5 p (s1 p hp)
theorem J4_wpl (hl : (l, W.listOf vs.toArray nn) ∈ old) (hoff : OwnOff own (((D2, p2) :: (D1, p1) :: (U, uo) :: (T, to) :: tl).map (·.1))) (dT : ∀ p ∈ tl, p.1 ≠ T) (dU : ∀ p ∈ tl, p.1 ≠ U) (d1 : ∀ p ∈ tl, p.1 ≠ D1) (d2 : ∀ p ∈ tl, p.1 ≠ D2) (sub : ∀ p ∈ old, p ∈ tl) (i1 : o1.IsDictOf (strKind prog w) kv1)
    (S : S4 gs as es i tl tv uv kv1 kv2 ds) (hi : es[i]? = some (c, q)) {n : Int} (n0 : 0 ≤ n) (n1 : n < 49) (hq : gs.length ≤ q) (hn : as[q - gs.length]? = some (wname n)) (s1 : ∀ p ∈ tl, p ∈ tl2) (s2 : ∀ p ∈ own, p ∈ tl2) (ok : FieldsOK fs)
    (f0 : fs.getD 0 Str.empty = (placeOf n).getD 0 Str.empty) (f1 : fs.getD 1 Str.empty = (placeOf n).getD 1 Str.empty) (f2 : fs.getD 2 Str.empty = (placeOf n).getD 2 Str.empty) (f3 : fs.getD 3 Str.empty = (placeOf n).getD 3 Str.empty) (f4 : fs.getD 4 Str.empty = wname n)
    {a A2 A4 k0 k2 k4 : Nat} {t1 t2 t3 t4 t7 t8 t9 t10 : Tok}
    (F : Fr h₀ L h' m') (N : News h₀ L h' big) (m1 : (D2, o2) ∈ big) (m2 : (D1, o1) ∈ big) (m3 : (U, W.listOf ((uv.toArray.push (Value.bool true)).push (Value.ref A4)) kU2) ∈ big) (m4 : (T, W.listOf ((tv.toArray.push (Value.bool true)).push (Value.ref A2)) kT2) ∈ big) (m5 : ∀ p ∈ tl2, p ∈ big)
    (i2 : o2.IsDictOf (strKind prog w) (PySem.stored kv2 (fs.getD 4 Str.empty) (.ref a)))
    (r0 : (a, W.listOf #[Value.str (fs.getD 0 Str.empty) t1, Value.str (fs.getD 1 Str.empty) t2, Value.str (fs.getD 2 Str.empty) t3, Value.str (fs.getD 3 Str.empty) t4] k0) ∈ big)
    (r2 : (A2, W.listOf #[Value.str (lineOf b (bodyOf WPLk fs)) t7, Value.str (bodyOf WPLk fs) t8] k2) ∈ big) (r4 : (A4, W.listOf #[Value.str (lineOf b (bodyOf WPLk fs)) t9, Value.str (bodyOf WPLk fs) t10] k4) ∈ big)
    (z0 : Apart a T U D1 D2 tl2) (z2 : Apart A2 T U D1 D2 tl2) (z4 : Apart A4 T U D1 D2 tl2)
    (lk : Look m' G ld sta tit) (e1 : m' (Str.ofString "told") = some (.ref T)) (e2 : m' (Str.ofString "due") = some (.ref U)) (e3 : m' (Str.ofString "lists") = some (.ref D1)) :
    PySem.W.InvEndG h₀ L (fun m' nx => (l, W.listOf vs.toArray nn) ∈ nx ∧ J4 (prog := prog) (w := w) old G ld sta tit gs as es T U D1 D2 (i + 1) m' nx) own s₁ { s₁ with heap := h', toks := tk } := by
  rw [f0, f1, f2, f3] at r0
  rw [f4] at i2
  rw [push2] at m3 m4
  obtain ⟨fr, hfr⟩ : ∃ fr : List (Addr × Obj), fr = [(a, W.listOf [Value.str ((placeOf n).getD 0 Str.empty) t1, Value.str ((placeOf n).getD 1 Str.empty) t2, Value.str ((placeOf n).getD 2 Str.empty) t3, Value.str ((placeOf n).getD 3 Str.empty) t4].toArray k0), (A2, W.listOf #[Value.str (lineOf b (bodyOf WPLk fs)) t7, Value.str (bodyOf WPLk fs) t8] k2), (A4, W.listOf #[Value.str (lineOf b (bodyOf WPLk fs)) t9, Value.str (bodyOf WPLk fs) t10] k4)] := ⟨_, rfl⟩
  have hz : ∀ p ∈ fr, Apart p.1 T U D1 D2 tl2 := by
    rw [hfr]
    exact List.forall_mem_cons.mpr ⟨z0, List.forall_mem_cons.mpr ⟨z2, List.forall_mem_cons.mpr ⟨z4, List.forall_mem_nil _⟩⟩⟩
  have hb : ∀ p ∈ fr, p ∈ big := by
    rw [hfr]
    exact List.forall_mem_cons.mpr ⟨r0, List.forall_mem_cons.mpr ⟨r2, List.forall_mem_cons.mpr ⟨r4, List.forall_mem_nil _⟩⟩⟩
  obtain ⟨w1, w2, w3, w4, w5⟩ := apart_all (nx := [(D2, o2), (D1, o1), (U, W.listOf (uv ++ [Value.bool true, Value.ref A4]).toArray kU2), (T, W.listOf (tv ++ [Value.bool true, Value.ref A2]).toArray kT2)]) hz dT dU d1 d2 s2 hoff rfl
  have sb : ∀ p ∈ tl, p ∈ fr ++ tl := fun p hp => List.mem_append_right _ hp
  have hfm : ∀ p ∈ fr, p ∈ fr ++ tl := fun p hp => List.mem_append_left _ hp
  have q0 := hfm _ (by rw [hfr]; exact .head _ : (a, W.listOf [Value.str ((placeOf n).getD 0 Str.empty) t1, Value.str ((placeOf n).getD 1 Str.empty) t2, Value.str ((placeOf n).getD 2 Str.empty) t3, Value.str ((placeOf n).getD 3 Str.empty) t4].toArray k0) ∈ fr)
  have q2 := hfm _ (by rw [hfr]; exact .tail _ (.head _) : (A2, W.listOf [Value.str (lineOf b (bodyOf WPLk fs)) t7, Value.str (bodyOf WPLk fs) t8].toArray k2) ∈ fr)
  have q4 := hfm _ (by rw [hfr]; exact .tail _ (.tail _ (.head _)) : (A4, W.listOf [Value.str (lineOf b (bodyOf WPLk fs)) t9, Value.str (bodyOf WPLk fs) t10].toArray k4) ∈ fr)
  have ha := wbody_codes ok
  have S' := S.wpl hi n0 n1 hq hn sb (t1 := .bool true) (t2 := .ref A2) (u1 := .bool true) (u2 := .ref A4) (d1 := .bool true) (d2 := .list [.str (lineOf b (bodyOf WPLk fs)), .str (bodyOf WPLk fs)])
    (.bool true) (.list q2 (.cons (.str _ _) (.cons (.str _ _) .nil))) (.bool true) (.list q4 (.cons (.str _ _) (.cons (.str _ _) .nil)))
    rfl (by simp [okB, ascii_ok (line_ascii (b := b) ha), ascii_ok (codes_ascii ha)]) q0 place_strs
  refine PySem.W.InvEndG.intro (nx := [(D2, o2), (D1, o1), (U, W.listOf (uv ++ [Value.bool true, Value.ref A4]).toArray kU2), (T, W.listOf (tv ++ [Value.bool true, Value.ref A2]).toArray kT2)] ++ (fr ++ tl)) F N ⟨List.mem_append_right _ (sb _ (sub _ hl)),
    kT2, kU2, _, _, o1, o2, _, _, _, fr ++ tl, rfl, w1, w2, w3, w4, fun p hp => sb p (sub p hp), i1, i2, S', lk, e1, e2, e3⟩ w5 ?_ fun p hp => m5 p (s2 p hp)
  · intro p hp
    rcases List.mem_append.mp hp with hp | hp
    · simp only [List.mem_cons, List.not_mem_nil, or_false] at hp
      rcases hp with rfl | rfl | rfl | rfl
      · exact m1
      · exact m2
      · exact m3
      · exact m4
    · rcases List.mem_append.mp hp with hp | hp
      · exact hb p hp
      · exact m5 p (s1 p hp)
end
end
/- V9 -/
section
variable {prog : Program} {w : World} {p : Program} {loose : List Str} {mean : ExcName → Option Value} {mg mb : Str → Option Value}
local macro_rules | `(tactic| k_room) => `(tactic| ktr_room)
local macro_rules | `(tactic| ktr_room) => `(tactic| (simp only [depth_under_make, depth_under_kw, depth_in1, depth_deeper] at *; omega))
local macro_rules | `(tactic| k_units) => `(tactic| ktr_units)
local macro_rules | `(tactic| k_mem) => `(tactic| first | assumption | (refine List.mem_cons_of_mem _ ?_; k_mem))

section
variable {A : Around} {h₀ : Heap} {L : Addr} {m : Str → Option Value} {news : List (Addr × Obj)} {s : Shared} {Q E : Value → Shared → Prop} {x : Addr} {kd : Str} {fs : List Str}
open PySem.W
theorem isi_rte (F : Fr h₀ L s.heap m) (X : (Mine.hd.heap_39 w.params).In h₀) (N : News h₀ L s.heap news) (im : IsMsg news x 269 kd fs) (h : Q (.bool true) s) : wpAny (model prog w) A (call (.builtin "isinstance") [.ref x, .ref 269]) Q E s := by
  obtain ⟨dx, es, n, l, vs, k, m1, m2, m3, m4, MD⟩ := im
  k_dflt (refine' isi_call ?k1 ?k2 ?k3 ?k4 ?_; (case k1 => k_in); (case k2 => k_types); (case k3 => k_is); (case k4 => intro e; cases e); k_whole)
  exact h
theorem isi_wpl (F : Fr h₀ L s.heap m) (X : (Mine.hd.heap_39 w.params).In h₀) (N : News h₀ L s.heap news) (im : IsMsg news x 287 kd fs) (h : Q (.bool true) s) : wpAny (model prog w) A (call (.builtin "isinstance") [.ref x, .ref 287]) Q E s := by
  obtain ⟨dx, es, n, l, vs, k, m1, m2, m3, m4, MD⟩ := im
  k_dflt (refine' isi_call ?k1 ?k2 ?k3 ?k4 ?_; (case k1 => k_in); (case k2 => k_types); (case k3 => k_is); (case k4 => intro e; cases e); k_whole)
  exact h
theorem hk_class {K : Frag} {D hook : Addr} {ox od : Obj} {Q : Option Value → Shared → Prop} (X : K.In s.heap) (I : InstAt s.heap x ox D (some od)) (hg : hooked K D hook) (ha : findIn K (.ref D) "__class__" = some (some (.builtin "object.__class__")))
    (hn : specialIn K (.builtin "object.__class__") "__get__" = some (some (.builtin "getset_descriptor.__get__"))) (ht : takesIn K (.builtin "object.__class__") = some true) (hm : mroIn K D (.type "object") = some true) (h : Q (some (.ref D)) { s with toks := s.toks + 1 }) :
    wpAny (model prog w) A (getAttr? (.ref x) "__class__") Q E s := by
  have hf : findObj K D (some od) "__class__" = some (.bind (.builtin "getset_descriptor.__get__") (.builtin "object.__class__")) := findObj_data (by obtain ⟨cd, hc, _⟩ := any_some hg.2.2.2; rw [hc]; rfl) ha hn ht
  refine kin_open X I hg.1 ?_
  obtain ⟨hh', gg, d, t, os⟩ := s
  have L0 := I.type (M := model prog w)
  have L1 := looks_find (M := model prog w) X I hf
  have L2 := looks_findIn (M := model prog w) X hg.2.1
  refine wpAny_bind (wpAny_pure (wpAny_bind (L0.at (wpAny_bind (L1.at (wpAny_bind (L2.at ?_)))))))
  show wpAny _ _ (PySem.Builtin.ObjectAttr.bindOrHook (.builtin "getset_descriptor.__get__") (.builtin "object.__class__") (.ref x) (.ref D) _ (.ref hook)) _ _ _
  unfold PySem.Builtin.ObjectAttr.bindOrHook
  refine wpAny_bind (wpAny_attempt (wpAny_holding ?_))
  exact wpAny_bind (wpAny_holding (wpAny_call (class_get (s := ⟨hh', gg, d, t + 1, os⟩) X I hm (wpAny_pure (wpAny_pure (handed_on rfl h))))))
theorem hk_isinst {K : Frag} {D C hook : Addr} {ox od : Obj} {dep : Int} {tk : Tok} {Q : Fin → Shared → Prop} (X : K.In s.heap) (I : InstAt s.heap x ox D (some od)) (hg : hooked K D hook) (ha : findIn K (.ref D) "__class__" = some (some (.builtin "object.__class__")))
    (hn : specialIn K (.builtin "object.__class__") "__get__" = some (some (.builtin "getset_descriptor.__get__"))) (ht : takesIn K (.builtin "object.__class__") = some true) (hm : mroIn K D (.type "object") = some true)
    (hC : (clsIn K C).isSome = true) (h1 : typeIn K (.ref C) = some (.type "type")) (h2 : subIn K (.ref D) (.ref C) = some false) (hne : (Value.ref D == Value.ref C) = false) (h : Q (.done (.ret (.bool false))) { s with toks := s.toks + 1 }) :
    wpAny (model prog w) A (Builtin.«isinstance.nested» ⟨[.ref x, .ref C, .int dep tk], []⟩) Q E s := by
  have cls : ∀ (c : Addr), (clsIn K c).isSome = true → Looks (model prog w) s.heap (isType (.ref c)) true := by
    intro c hc
    unfold clsIn at hc
    split at hc
    · rename_i ho
      intro A' Q' E' s' k q
      unfold isType loadHead
      exact wpAny_bind (wpAny_loadPart (k _ _ (X _ _ ho)) (wpAny_pure q))
    · cases hc
  have hD : (clsIn K D).isSome = true := by
    obtain ⟨cd, hc, _⟩ := any_some hg.2.2.2
    rw [hc]; rfl
  have T1 := cls C hC
  have T2 := cls D hD
  have T3 := looks_typeIn (M := model prog w) X h1
  have T4 := looks_subIn (M := model prog w) X h2
  obtain ⟨h0, g, d, tt, os⟩ := s
  have T5 := I.type (M := model prog w)
  have T6 : Looks (model prog w) h0 (isInstance (.ref x) (.ref C)) false := T5.andThen T4
  unfold Builtin.«isinstance.nested»
  refine wpAny_bind (T5.at ?_)
  rw [hne]
  simp only [Bool.false_eq_true, if_false]
  refine wpAny_bind (T3.at ?_)
  rw [if_pos (by decide)]
  k_delta "plainIsInstance"
  refine wpAny_bind (wpAny_bind (T1.at ?_))
  simp only [Bool.not_true, Bool.false_eq_true, if_false]
  refine wpAny_bind (T6.at ?_)
  simp only [Bool.false_eq_true, if_false]
  refine wpAny_bind (hk_class X I hg ha hn ht hm ?_)
  refine wpAny_bind (T2.at ?_)
  simp only [Bool.not_true, Bool.false_eq_true, if_false]
  refine wpAny_bind (wpAny_rule ?_)
  refine T4.at ?_
  first | exact wpAny_pure h | exact wpAny_pure (wpAny_pure h) | exact wpAny_bind (wpAny_pure (wpAny_pure h))
theorem isi_not (F : Fr h₀ L s.heap m) (X : (Mine.hd.heap_39 w.params).In h₀) (N : News h₀ L s.heap news) (im : IsMsg news x 287 kd fs) (h : Q (.bool false) { s with toks := s.toks + 1 }) : wpAny (model prog w) A (call (.builtin "isinstance") [.ref x, .ref 269]) Q E s := by
  obtain ⟨dx, es, n, l, vs, k, m1, m2, m3, m4, MD⟩ := im
  have X1 := X.keeps F.keep
  have I := InstAt.of_news N m1 m2
  refine call_isinstance (S := fun _ R s => ((Mine.hd.heap_39 w.params).In s.heap ∧ InstAt s.heap x (instObj 287 dx) 287 (some (dictOf es n))) ∧ R (.ok (.ret (.bool false))) { s with toks := s.toks + 1 })
    (fun _ _ _ _ _ hs => isinstance_outer (hk_isinst hs.1.1 hs.1.2 hooked_wpl ?_ ?_ ?_ ?_ (by obtain ⟨cd, hc, _⟩ := any_some hooked_rte.2.2.2; rw [hc]; rfl) ?_ ?_ (by decide) hs.2) (by intro q; cases q)) ⟨⟨X1, I⟩, h⟩
  all_goals k_is
end
end
/- V10 -/
section
variable {prog : Program} {w : World} {p : Program} {loose : List Str} {mean : ExcName → Option Value} {mg mb : Str → Option Value}
local macro_rules | `(tactic| k_room) => `(tactic| ktr_room)
local macro_rules | `(tactic| ktr_room) => `(tactic| (simp only [depth_under_make, depth_under_kw, depth_in1, depth_deeper] at *; omega))
local macro_rules | `(tactic| k_units) => `(tactic| ktr_units)
local macro_rules | `(tactic| k_mem) => `(tactic| first | assumption | (refine List.mem_cons_of_mem _ ?_; k_mem))

section
variable {A : Around} {h₀ : Heap} {L : Addr} {m : Str → Option Value} {news : List (Addr × Obj)} {s : Shared} {x C : Addr} {kd : Str} {fs : List Str}
open PySem.W
theorem meth_render {E : Value → Shared → Prop} {pl : Sem Bool} {R : Value × List Value → Shared → Prop} (F : Fr h₀ L s.heap m) (X : (Mine.hd.heap_39 w.params).In h₀) (N : News h₀ L s.heap news) (im : IsMsg news x C kd fs) (hC : C = 269 ∨ C = 287)
    (h : ∀ q h', Fr h₀ L h' m → News h₀ L h' ((q, methodObj (.ref 154) (.ref x)) :: news) → (∀ p ∈ news, p.1 < q) → R (.ref q, []) { s with heap := h', toks := s.toks + 1 }) : wpAny (model prog w) A (getMethod (.ref x) (Str.ofString "render") pl) R E s := by
  obtain ⟨dx, es, n, l, vs, k, m1, m2, m3, m4, MD⟩ := im
  have I := InstAt.of_news N m1 m2
  have hl : getL (Str.ofString "render") es = some none := MD.no _ (by decide +kernel) (by decide +kernel) (by decide +kernel)
  rcases hC with rfl | rfl
  · refine hk_method X F I hooked_rte ?_
    refine' hk_bound F X N I hooked_rte ?k7 ?k8 ?k9 ?k10 ?k11 hl ?_
    case k7 => k_is
    case k8 => k_is
    case k9 => k_is
    case k10 => k_is
    case k11 => decide +kernel
    exact h
  · refine hk_method X F I hooked_wpl ?_
    refine' hk_bound F X N I hooked_wpl ?k7 ?k8 ?k9 ?k10 ?k11 hl ?_
    case k7 => k_is
    case k8 => k_is
    case k9 => k_is
    case k10 => k_is
    case k11 => decide +kernel
    exact h
theorem meth_p {q f : Addr} {self : Value} {h : Heap} (F : Fr h₀ L h m) (X : (Mine.hd.heap_39 w.params).In h₀) (N : News h₀ L h news) (hm : (q, methodObj (.ref f) self) ∈ news) : MethP (Mine.hd.heap_39 w.params) q f self h := ⟨(N _ hm).1, X.keeps F.keep⟩
end
end
/- V11 -/
section
variable {prog : Program} {w : World} {p : Program} {loose : List Str} {mean : ExcName → Option Value} {mg mb : Str → Option Value}
local macro_rules | `(tactic| k_room) => `(tactic| ktr_room)
local macro_rules | `(tactic| ktr_room) => `(tactic| (simp only [depth_under_make, depth_under_kw, depth_in1, depth_deeper] at *; omega))
local macro_rules | `(tactic| k_units) => `(tactic| ktr_units)
local macro_rules | `(tactic| k_mem) => `(tactic| first | assumption | (refine List.mem_cons_of_mem _ ?_; k_mem))

section
variable {A : Around} {E : Value → Shared → Prop} {s : Shared} {h₀ : Heap} {L : Addr} {m : Str → Option Value} {env : Env}
/-- the source of a comprehension is at hand -/
def SrcS (prog : Program) (w : World) (A : Around) (h₀ : Heap) (L : Addr) (m : Str → Option Value) (env : Env) (elt : Expr) (x : Str) (scope : Scope) (cl : List (Str × Addr)) (Fin : Shared → List Value → List (Addr × Obj) → Prop) (xv : Value) (s₁ : Shared) : Prop :=
  LCg.CompSrc prog w A h₀ L m env elt x scope cl Fin xv s₁
theorem comp_strs {elt iter : Expr} {x : Str} {px : Pos} {scope : Scope} {cl : List (Str × Addr)} {pos : Pos} {Q : Value → Shared → Prop} (F₀ : Fr h₀ L s.heap m)
    (hclos : closureFor scope env = pure cl) (hcell : ∀ y ∈ scope.names, y.2 ≠ .cell) (hkind : scope.kind = .function)
    (hnames : ∀ y ∈ scope.names, y.2 = .local → scope.names.lookup y.1 = some .local) (hx : scope.names.lookup x = some .local)
    (h : wpAny (model prog w) A (eval iter env) (SrcS prog w A h₀ L m env elt x scope cl (fun s₂ => LCg.FinE h₀ L m s₂ Q)) E s)
    (hs : ∀ x, foldedSetIterable iter env x = pure x := by intro _; rfl) :
    wpAny (model prog w) A (eval (.ListComp elt [⟨.Name x px, iter, [], 0⟩] scope pos) env) Q E s := LCg.ListComp_U F₀ hclos hcell hkind hnames hx h hs
/-- an element is made: news grows, the element bears d -/
def ElEnd (h₀ : Heap) (L : Addr) (m : Str → Option Value) (s₁ : Shared) (I : Addr) (oI : Obj) (C : Addr) (oC : Obj) (D : Addr) (ys : List Value) (base news nw : List (Addr × Obj)) (d : PySem.W.Dat) (y : Value) (s₂ : Shared) : Prop :=
  ∃ h' tk fr, s₂ = { s₁ with heap := h', toks := tk } ∧ Fr h₀ L h' m ∧ News h₀ L h' ((I, oI) :: (C, oC) :: (D, LCg.lst ys) :: (fr ++ nw)) ∧ LCg.Off3 I C D (fr ++ nw) ∧ (∀ q ∈ fr, ∀ p ∈ news, p.1 ≠ q.1) ∧ PySem.W.DatIn (fr ++ base) y d
theorem off3_app {I C D : Addr} {fr nw : List (Addr × Obj)} (h : ∀ p ∈ fr, p.1 ≠ I ∧ p.1 ≠ C ∧ p.1 ≠ D) (o : LCg.Off3 I C D nw) : LCg.Off3 I C D (fr ++ nw) :=
  LCg.Off3.of fun p hp => (List.mem_append.mp hp).elim (h p) (o.mem p)
theorem comp_dat {elt : Expr} {x : Str} {scope : Scope} {cl : List (Str × Addr)} {vs : List Value} {xs : List Str} {base news : List (Addr × Obj)} {ax : Addr} {n : Nat} {Fin : List Value → List (Addr × Obj) → Prop} (g : Str → PySem.W.Dat) (hS : StrsAre vs xs) (hm : (ax, W.listOf vs.toArray n) ∈ news)
    (turn : ∀ y t I oI C oC D m₂ ys h tk nw (E' : Value → Shared → Prop), y ∈ xs → LCg.NsObj oC m₂ → m₂ x = some (.str y t) → Fr h₀ L h m → News h₀ L h ((I, oI) :: (C, oC) :: (D, LCg.lst ys) :: nw) → LCg.Off3 I C D nw → ((@Ne Nat I C) ∧ (@Ne Nat I D) ∧ (@Ne Nat C D)) → (∀ p ∈ news, p ∈ nw) →
      wpAny (model prog w) A (eval elt (compEnvC scope cl C env)) (ElEnd h₀ L m { s with heap := h, toks := tk } I oI C oC D ys base news nw (g y)) E' { s with heap := h, toks := tk })
    (fin : ∀ ys ex, (∀ q ∈ ex, ∀ p ∈ news, p.1 ≠ q.1) → PySem.W.DatAll (ex ++ base) ys (xs.map g) → Fin ys (ex ++ news)) :
    LCg.CompRest prog w A h₀ L m env elt x scope cl s (LCg.SrcAt h₀ ax vs.toArray) (fun i v => vs.toArray[i]? = some v) Fin vs.toArray.size 0 [] news := by
  have hlen := StrsAre.len hS
  have key : ∀ (j i : Nat) (ys : List Value) (ex : List (Addr × Obj)), i + j = vs.length → (∀ q ∈ ex, ∀ p ∈ news, p.1 ≠ q.1) → PySem.W.DatAll (ex ++ base) ys ((xs.take i).map g) → LCg.CompRest prog w A h₀ L m env elt x scope cl s (LCg.SrcAt h₀ ax vs.toArray) (fun i v => vs.toArray[i]? = some v) Fin j i ys (ex ++ news) := by
    intro j
    induction j with
    | zero =>
      intro i ys ex hi hex hD
      rw [show xs.take i = xs from List.take_of_length_le (by omega)] at hD
      exact LCg.CompRest.zero (fin ys ex hex hD)
    | succ j ih =>
      intro i ys ex hi hex hD
      refine LCg.CompRest.succ ?_
      intro v I oI C oC D m₂ h tk E' hv hC hx F N off ne
      obtain ⟨t, e⟩ := strs_get hS i (by omega)
      have hv' : vs[i]? = some v := by simpa using hv
      rw [hv'] at e
      obtain rfl := Option.some.inj e
      have hxi : xs[i]? = some (xs.getD i Str.empty) := by
        rw [List.getD_eq_getElem?_getD, List.getElem?_eq_getElem (by omega)]; rfl
      refine wpAny_mono (turn _ t I oI C oC D m₂ ys h tk (ex ++ news) E' (List.mem_of_getElem? hxi) hC hx F N off ne fun p hp => List.mem_append_right _ hp) (fun y s₂ hq => ?_) fun _ _ e => e
      obtain ⟨h', tk', fr, e, F', N', off', hfr, hd⟩ := hq
      rw [← List.append_assoc] at N' off'
      refine ⟨h', tk', (fr ++ ex) ++ news, e, F', N', off', .inr ⟨_, List.mem_append_right _ hm, rfl, _, rfl⟩, ?_⟩
      refine ih (i + 1) _ (fr ++ ex) (by omega) ?_ ?_
      · intro q hq
        rcases List.mem_append.mp hq with hq | hq
        · exact hfr q hq
        · exact hex q hq
      · rw [List.take_add_one, hxi, List.map_append]
        exact PySem.W.DatAll.append (PySem.W.DatAll.mono (fun p hp => (List.mem_append.mp hp).elim (fun h => List.mem_append_left _ (List.mem_append_right _ h)) fun h => List.mem_append_right _ h) hD) (.cons (PySem.W.DatIn.mono (fun p hp => (List.mem_append.mp hp).elim (fun h => List.mem_append_left _ (List.mem_append_left _ h)) fun h => List.mem_append_right _ h) hd) .nil)
  rw [List.size_toArray]
  exact key vs.length 0 [] [] (by omega) (fun _ h => nomatch h) (by simpa using .nil)
end
/-- what a name's entry is -/
def gD (y : Str) : PySem.W.Dat := .list [.str y, if y = Str.ofString "" then .none else .list ((wpl y).map .str)]
section
variable {h₀ : Heap} {L : Addr} {m : Str → Option Value} {s₁ : Shared} {I C D E l : Nat} {oI oC : Obj} {ys : List Value} {base news nw : List (Addr × Obj)} {h' : Heap} {tk k : Nat} {y : Str} {t : Tok} {v : Value} {us : List Value}
theorem lt_off {E : Nat} {nw : List (Addr × Obj)} (a : PySem.W.AllLt E nw) : ∀ p ∈ nw, p.1 ≠ E := fun p hp => Nat.ne_of_lt (PySem.W.kst_ltOf a p hp)
theorem el_one (F : Fr h₀ L h' m) (N : News h₀ L h' ((E, W.listOf #[Value.str y t, v] 0) :: (I, oI) :: (C, oC) :: (D, LCg.lst ys) :: nw)) (l1 : I < E ∧ C < E ∧ D < E ∧ PySem.W.AllLt E nw) (off : LCg.Off3 I C D nw) (sub : ∀ p ∈ news, p ∈ nw)
    (hv : PySem.W.DatIn base v (if y = Str.ofString "" then .none else .list ((wpl y).map .str))) : ElEnd h₀ L m s₁ I oI C oC D ys base news nw (gD y) (.ref E) { s₁ with heap := h', toks := tk } := by
  obtain ⟨a1, a2, a3, a4⟩ := l1
  refine ⟨h', tk, [(E, W.listOf #[Value.str y t, v] 0)], rfl, F, fun p hp => N p ?_, off3_app (List.forall_mem_cons.mpr ⟨⟨(Nat.ne_of_lt a1).symm, (Nat.ne_of_lt a2).symm, (Nat.ne_of_lt a3).symm⟩, List.forall_mem_nil _⟩) off, List.forall_mem_cons.mpr ⟨fun p hp => lt_off a4 p (sub p hp), List.forall_mem_nil _⟩,
    .list (vs := [Value.str y t, v]) (.head _) (.cons (.str _ _) (.cons (PySem.W.DatIn.mono (fun p hp => List.mem_cons_of_mem _ hp) hv) .nil))⟩
  rcases List.mem_cons.mp hp with e | hp
  · exact List.mem_cons_of_mem _ (List.mem_cons.mpr (.inl e))
  rcases List.mem_cons.mp hp with e | hp
  · exact List.mem_cons_of_mem _ (List.mem_cons_of_mem _ (List.mem_cons.mpr (.inl e)))
  rcases List.mem_cons.mp hp with e | hp
  · exact List.mem_cons_of_mem _ (List.mem_cons_of_mem _ (List.mem_cons_of_mem _ (List.mem_cons.mpr (.inl e))))
  rcases List.mem_cons.mp hp with e | hp
  · exact List.mem_cons.mpr (.inl e)
  · exact List.mem_cons_of_mem _ (List.mem_cons_of_mem _ (List.mem_cons_of_mem _ (List.mem_cons_of_mem _ hp)))
theorem el_two (F : Fr h₀ L h' m) (N : News h₀ L h' ((E, W.listOf #[Value.str y t, .ref l] 0) :: (l, W.listOf us.toArray k) :: (I, oI) :: (C, oC) :: (D, LCg.lst ys) :: nw)) (l0 : I < l ∧ C < l ∧ D < l ∧ PySem.W.AllLt l nw) (l1 : l < E ∧ I < E ∧ C < E ∧ D < E ∧ PySem.W.AllLt E nw) (off : LCg.Off3 I C D nw) (sub : ∀ p ∈ news, p ∈ nw)
    {n : Int} (n0 : 0 ≤ n) (n1 : n < 49) (hy : y = wname n) (hu : StrsAre us (placeOf n)) : ElEnd h₀ L m s₁ I oI C oC D ys base news nw (gD y) (.ref E) { s₁ with heap := h', toks := tk } := by
  obtain ⟨b1, b2, b3, b4⟩ := l0
  obtain ⟨a0, a1, a2, a3, a4⟩ := l1
  have hne : ¬ y = Str.ofString "" := by
    obtain ⟨q, rfl⟩ := Int.eq_ofNat_of_zero_le n0
    intro e
    exact wname_ne ⟨q, by omega⟩ (by rw [← e, hy])
  refine ⟨h', tk, [(E, W.listOf #[Value.str y t, .ref l] 0), (l, W.listOf us.toArray k)], rfl, F, fun p hp => N p ?_, off3_app (List.forall_mem_cons.mpr ⟨⟨(Nat.ne_of_lt a1).symm, (Nat.ne_of_lt a2).symm, (Nat.ne_of_lt a3).symm⟩, List.forall_mem_cons.mpr ⟨⟨(Nat.ne_of_lt b1).symm, (Nat.ne_of_lt b2).symm, (Nat.ne_of_lt b3).symm⟩, List.forall_mem_nil _⟩⟩) off, List.forall_mem_cons.mpr ⟨fun p hp => lt_off a4 p (sub p hp), List.forall_mem_cons.mpr ⟨fun p hp => lt_off b4 p (sub p hp), List.forall_mem_nil _⟩⟩, ?_⟩
  · rcases List.mem_cons.mp hp with e | hp
    · exact List.mem_cons_of_mem _ (List.mem_cons_of_mem _ (List.mem_cons.mpr (.inl e)))
    rcases List.mem_cons.mp hp with e | hp
    · exact List.mem_cons_of_mem _ (List.mem_cons_of_mem _ (List.mem_cons_of_mem _ (List.mem_cons.mpr (.inl e))))
    rcases List.mem_cons.mp hp with e | hp
    · exact List.mem_cons_of_mem _ (List.mem_cons_of_mem _ (List.mem_cons_of_mem _ (List.mem_cons_of_mem _ (List.mem_cons.mpr (.inl e)))))
    rcases List.mem_cons.mp hp with e | hp
    · exact List.mem_cons.mpr (.inl e)
    rcases List.mem_cons.mp hp with e | hp
    · exact List.mem_cons_of_mem _ (List.mem_cons.mpr (.inl e))
    · exact List.mem_cons_of_mem _ (List.mem_cons_of_mem _ (List.mem_cons_of_mem _ (List.mem_cons_of_mem _ (List.mem_cons_of_mem _ hp))))
  · unfold gD
    rw [if_neg hne, hy, wpl_eq n0 n1, ← hy]
    exact .list (vs := [Value.str y t, .ref l]) (.head _) (.cons (.str _ _) (.cons (.list (.tail _ (.head _)) (strs_dat hu)) .nil))
end
theorem gD_ok {y : Str} (h : IsName y) : okB 8 (gD y) = true := by
  have hy := name_ok h
  unfold gD
  rcases name_cases h with rfl | ⟨n, n0, n1, rfl⟩
  · rw [if_pos rfl]; simp [okB, hy]
  · have hne : ¬ wname n = Str.ofString "" := by
      obtain ⟨q, rfl⟩ := Int.eq_ofNat_of_zero_le n0
      exact fun e => wname_ne ⟨q, by omega⟩ e.symm
    obtain ⟨_, f2⟩ := place_facts n0 n1
    rw [if_neg hne, wpl_eq n0 n1]
    simp only [okB, List.all_cons, List.all_nil, Bool.and_true, hy, Bool.true_and]
    rw [List.all_eq_true]
    intro d hd
    obtain ⟨x, hx, rfl⟩ := List.mem_map.mp hd
    simpa [okB] using clean_ok (f2 x hx).2
theorem gs_ok {xs : List Str} (h : ∀ y ∈ xs, IsName y) : okB 8 (.list (xs.map gD)) = true := by
  simp only [okB]
  rw [List.all_eq_true]
  intro d hd
  obtain ⟨x, hx, rfl⟩ := List.mem_map.mp hd
  have := gD_ok (h x hx)
  unfold gD at this ⊢
  simp only [okB] at this ⊢
  split at this <;> simp_all [okB]
end
/- V12 -/
section
variable {prog : Program} {w : World} {p : Program} {loose : List Str} {mean : ExcName → Option Value} {mg mb : Str → Option Value}
local macro_rules | `(tactic| k_room) => `(tactic| ktr_room)
local macro_rules | `(tactic| ktr_room) => `(tactic| (simp only [depth_under_make, depth_under_kw, depth_in1, depth_deeper] at *; omega))
local macro_rules | `(tactic| k_units) => `(tactic| ktr_units)
local macro_rules | `(tactic| k_mem) => `(tactic| first | assumption | (refine List.mem_cons_of_mem _ ?_; k_mem))

/-- before the i-th group, fifth loop -/
def J5 (old : List (Addr × Obj)) (T U D1 : Nat) (i : Nat) (m : Str → Option Value) (nx : List (Addr × Obj)) : Prop :=
  ∃ (kT kU : Nat) (tv uv : List Value) (ds : List PySem.W.Dat) (tl : List (Addr × Obj)), nx = (U, W.listOf uv.toArray kU) :: (T, W.listOf tv.toArray kT) :: tl ∧ (∀ p ∈ tl, p.1 ≠ T) ∧ (∀ p ∈ tl, p.1 ≠ U) ∧ (∀ p ∈ old, p ∈ tl) ∧ PySem.W.DatAll tl tv ds ∧ PySem.W.DatAll tl uv ds ∧ (∀ d ∈ ds, okB 8 d = true) ∧ ds.length ≤ 60 + i ∧
    m (Str.ofString "told") = some (.ref T) ∧ m (Str.ofString "due") = some (.ref U) ∧ m (Str.ofString "lists") = some (.ref D1)
theorem after_comp {h₀ h : Heap} {L D : Addr} {ys : List Value} {ex news base : List (Addr × Obj)} {ds : List PySem.W.Dat} (N : News h₀ L h ((D, LCg.lst ys) :: (ex ++ news))) (off : LCg.Off1 D (ex ++ news)) (hex : ∀ q ∈ ex, ∀ p ∈ news, p.1 ≠ q.1) (hD : PySem.W.DatAll (ex ++ base) ys ds) :
    ∃ fr, News h₀ L h (fr ++ news) ∧ (∀ q ∈ fr, ∀ p ∈ news, p.1 ≠ q.1) ∧ PySem.W.DatIn (fr ++ base) (.ref D) (.list ds) := by
  have o1 : ∀ {l : List (Addr × Obj)}, LCg.Off1 D l → ∀ p ∈ l, p.1 ≠ D := by
    intro l
    induction l with
    | nil => intro _ p hp; cases hp
    | cons a l ih =>
      intro h p hp
      rcases List.mem_cons.mp hp with rfl | hp
      · exact h.1
      · exact ih h.2 p hp
  refine ⟨(D, LCg.lst ys) :: ex, N, List.forall_mem_cons.mpr ⟨fun p hp => o1 off p (List.mem_append_right _ hp), hex⟩, ?_⟩
  exact .list (vs := ys) (n := ys.length) (.head _) (PySem.W.DatAll.mono (fun p hp => List.mem_cons_of_mem _ hp) hD)
section
variable {h₀ : Heap} {L : Addr} {s₁ : Shared} {h' : Heap} {tk : Nat} {m' : Str → Option Value} {old own tl tl2 fr1 fr2 big : List (Addr × Obj)} {i nn kT2 kU2 : Nat} {tv uv vs : List Value} {ds : List PySem.W.Dat} {d : PySem.W.Dat} {l T U D1 : Nat} {uo to : Obj} {a b : Value}
theorem J5_next (hl : (l, W.listOf vs.toArray nn) ∈ old) (hoff : OwnOff own (((U, uo) :: (T, to) :: tl).map (·.1))) (dT : ∀ p ∈ tl, p.1 ≠ T) (dU : ∀ p ∈ tl, p.1 ≠ U) (sub : ∀ p ∈ old, p ∈ tl) (tt : PySem.W.DatAll tl tv ds) (uu : PySem.W.DatAll tl uv ds) (ok : ∀ d ∈ ds, okB 8 d = true) (ln : ds.length ≤ 60 + i)
    (s1 : ∀ p ∈ tl, p ∈ tl2) (s2 : ∀ p ∈ own, p ∈ tl2) (g1T : ∀ q ∈ fr1, q.1 ≠ T) (g1U : ∀ q ∈ fr1, q.1 ≠ U) (g1 : ∀ q ∈ fr1, ∀ p ∈ tl2, p.1 ≠ q.1) (g2T : ∀ q ∈ fr2, q.1 ≠ T) (g2U : ∀ q ∈ fr2, q.1 ≠ U) (g2 : ∀ q ∈ fr2, ∀ p ∈ tl2, p.1 ≠ q.1)
    (hd1 : PySem.W.DatIn (fr1 ++ tl) a d) (hd2 : PySem.W.DatIn (fr2 ++ tl) b d) (hok : okB 8 d = true)
    (F : Fr h₀ L h' m') (N : News h₀ L h' big) (m1 : (T, W.listOf (tv.toArray.push a) kT2) ∈ big) (m2 : (U, W.listOf (uv.toArray.push b) kU2) ∈ big) (m3 : ∀ p ∈ fr1, p ∈ big) (m4 : ∀ p ∈ fr2, p ∈ big) (m5 : ∀ p ∈ tl2, p ∈ big)
    (e1 : m' (Str.ofString "told") = some (.ref T)) (e2 : m' (Str.ofString "due") = some (.ref U)) (e3 : m' (Str.ofString "lists") = some (.ref D1)) :
    PySem.W.InvEndG h₀ L (fun m' nx => (l, W.listOf vs.toArray nn) ∈ nx ∧ J5 old T U D1 (i + 1) m' nx) own s₁ { s₁ with heap := h', toks := tk } := by
  rw [List.push_toArray] at m1 m2
  have sb : ∀ p ∈ tl, p ∈ fr2 ++ (fr1 ++ tl) := fun p hp => List.mem_append_right _ (List.mem_append_right _ hp)
  refine PySem.W.InvEndG.intro (nx := (U, W.listOf (uv ++ [b]).toArray kU2) :: (T, W.listOf (tv ++ [a]).toArray kT2) :: (fr2 ++ (fr1 ++ tl))) F N ⟨List.mem_cons_of_mem _ (List.mem_cons_of_mem _ (sb _ (sub _ hl))), kT2, kU2, _, _, ds ++ [d], _, rfl, ?_, ?_, fun p hp => sb p (sub p hp), ?_, ?_, ?_, ?_, e1, e2, e3⟩ ?_ ?_ fun p hp => m5 p (s2 p hp)
  · intro p hp
    rcases List.mem_append.mp hp with hp | hp
    · exact g2T p hp
    rcases List.mem_append.mp hp with hp | hp
    · exact g1T p hp
    · exact dT p hp
  · intro p hp
    rcases List.mem_append.mp hp with hp | hp
    · exact g2U p hp
    rcases List.mem_append.mp hp with hp | hp
    · exact g1U p hp
    · exact dU p hp
  · exact PySem.W.DatAll.append (PySem.W.DatAll.mono sb tt) (.cons (PySem.W.DatIn.mono (fun p hp => List.mem_append_right _ hp) hd1) .nil)
  · refine PySem.W.DatAll.append (PySem.W.DatAll.mono sb uu) (.cons (PySem.W.DatIn.mono (fun p hp => ?_) hd2) .nil)
    rcases List.mem_append.mp hp with hp | hp
    · exact List.mem_append_left _ hp
    · exact sb p hp
  · intro e he
    rcases List.mem_append.mp he with he | he
    · exact ok e he
    · rw [List.mem_singleton.mp he]; exact hok
  · rw [List.length_append, List.length_singleton]; omega
  · intro q hq b' hb
    rcases List.mem_cons.mp hb with e | hb
    · exact hoff q hq b' (List.mem_cons.mpr (.inl e))
    rcases List.mem_cons.mp hb with e | hb
    · exact hoff q hq b' (List.mem_cons_of_mem _ (List.mem_cons.mpr (.inl e)))
    obtain ⟨p, hp, rfl⟩ := List.mem_map.mp hb
    rcases List.mem_append.mp hp with hp | hp
    · exact g2 p hp q (s2 q hq)
    rcases List.mem_append.mp hp with hp | hp
    · exact g1 p hp q (s2 q hq)
    · exact hoff q hq p.1 (List.mem_cons_of_mem _ (List.mem_cons_of_mem _ (List.mem_map.mpr ⟨p, hp, rfl⟩)))
  · intro p hp
    rcases List.mem_cons.mp hp with rfl | hp
    · exact m2
    rcases List.mem_cons.mp hp with rfl | hp
    · exact m1
    rcases List.mem_append.mp hp with hp | hp
    · exact m4 p hp
    rcases List.mem_append.mp hp with hp | hp
    · exact m3 p hp
    · exact m5 p (s1 p hp)
end
section
variable {gs : List (List Str)} {as : List Str} {es : List (Bool × Nat)} {tl : List (Addr × Obj)} {tv uv : List Value} {kv1 kv2 : List (Str × Value)} {ds : List PySem.W.Dat} {n : Nat}
theorem S4.lists (S : S4 gs as es n tl tv uv kv1 kv2 ds) (hn : n = es.length) (es2 : ∀ j, j < gs.length + as.length → ∃ b, (b, j) ∈ es) {k : Nat} (hk : k < gs.length) :
    ∃ a q us, PySem.valueAt kv1 (Str.ofString (toString (((k : Nat) : Int) + 1))) = some (.ref a) ∧ (a, W.listOf us.toArray q) ∈ tl ∧ StrsAre us (gs.getD k []) := by
  obtain ⟨b, hb⟩ := es2 k (by omega)
  subst hn
  exact S.ll b k (by rw [List.take_length]; exact hb) hk
theorem S4.places (S : S4 gs as es n tl tv uv kv1 kv2 ds) (good : GoodG gs) (hn : n = es.length) (es2 : ∀ j, j < gs.length + as.length → ∃ b, (b, j) ∈ es) (as2 : ∀ x ∈ gs.flatten, x ≠ Str.ofString "" → x ∈ as) {y : Str} (hy : y ∈ gs.flatten) :
    PySem.W.DatIn tl ((PySem.valueAt kv2 y).getD .none) (if y = Str.ofString "" then .none else .list ((Mine.wpl y).map .str)) := by
  rcases name_cases (flat_names good hy) with rfl | ⟨m, n0, n1, rfl⟩
  · rw [S.pn, if_pos rfl]
    exact .none
  · have hne : ¬ wname m = Str.ofString "" := by
      obtain ⟨q, rfl⟩ := Int.eq_ofNat_of_zero_le n0
      exact fun e => wname_ne ⟨q, by omega⟩ e.symm
    obtain ⟨j, hj, e⟩ := List.getElem_of_mem (as2 _ hy hne)
    obtain ⟨b, hb⟩ := es2 (gs.length + j) (by omega)
    subst hn
    obtain ⟨a, k, us, e1, m1, u1⟩ := S.pp b (gs.length + j) m (by rw [List.take_length]; exact hb) (by omega) n0 n1 (by rw [Nat.add_sub_cancel_left, List.getElem?_eq_getElem hj, e])
    rw [e1, if_neg hne, wpl_eq n0 n1]
    exact .list m1 (strs_dat u1)
theorem flat_at {gs : List (List Str)} {k : Nat} (hk : k < gs.length) : ∀ y ∈ gs.getD k [], y ∈ gs.flatten := by
  intro y hy
  rw [List.getD_eq_getElem?_getD, List.getElem?_eq_getElem hk] at hy
  exact List.mem_flatten.mpr ⟨_, List.getElem_mem hk, hy⟩
end
end
/- LX -/
section
theorem fresh_LX : True := by
  w_top off
  k_with_none
  exact True.intro
local macro_rules | `(tactic| walk_at "pad 0") => `(tactic| fail)
local macro_rules | `(tactic| walk_at "pad 1") => `(tactic| fail)
local macro_rules | `(tactic| walk_at "pad 2") => `(tactic| fail)
local macro_rules | `(tactic| walk_at "pad 3") => `(tactic| fail)
local macro_rules | `(tactic| walk_at "pad 4") => `(tactic| fail)
local macro_rules | `(tactic| walk_at "pad 5") => `(tactic| fail)
local macro_rules | `(tactic| walk_at "pad 6") => `(tactic| fail)
local macro_rules | `(tactic| walk_at "pad 7") => `(tactic| fail)
local macro_rules | `(tactic| walk_at "pad 8") => `(tactic| fail)
local macro_rules | `(tactic| walk_at "pad 9") => `(tactic| fail)
local macro_rules | `(tactic| walk_at "pad 10") => `(tactic| fail)
local macro_rules | `(tactic| walk_at "pad 11") => `(tactic| fail)
local macro_rules | `(tactic| walk_at "pad 12") => `(tactic| fail)
local macro_rules | `(tactic| walk_at "pad 13") => `(tactic| fail)
local macro_rules | `(tactic| walk_at "pad 14") => `(tactic| fail)
local macro_rules | `(tactic| walk_at "pad 15") => `(tactic| fail)
local macro_rules | `(tactic| walk_at "pad 16") => `(tactic| fail)
local macro_rules | `(tactic| walk_at "pad 17") => `(tactic| fail)
local macro_rules | `(tactic| walk_at "pad 18") => `(tactic| fail)
local macro_rules | `(tactic| walk_at "pad 19") => `(tactic| fail)
local macro_rules | `(tactic| walk_at "pad 20") => `(tactic| fail)
local macro_rules | `(tactic| walk_at "pad 21") => `(tactic| fail)
local macro_rules | `(tactic| walk_at "pad 22") => `(tactic| fail)
local macro_rules | `(tactic| walk_at "pad 23") => `(tactic| fail)
local macro_rules | `(tactic| walk_at "pad 24") => `(tactic| fail)
local macro_rules | `(tactic| walk_at "pad 25") => `(tactic| fail)
local macro_rules | `(tactic| walk_at "pad 26") => `(tactic| fail)
local macro_rules | `(tactic| walk_at "pad 27") => `(tactic| fail)
local macro_rules | `(tactic| walk_at "pad 28") => `(tactic| fail)
local macro_rules | `(tactic| walk_at "pad 29") => `(tactic| fail)
local macro_rules | `(tactic| walk_at "pad 30") => `(tactic| fail)
local macro_rules | `(tactic| walk_at "pad 31") => `(tactic| fail)
local macro_rules | `(tactic| walk_at "pad 32") => `(tactic| fail)
local macro_rules | `(tactic| walk_at "pad 33") => `(tactic| fail)
local macro_rules | `(tactic| walk_at "pad 34") => `(tactic| fail)
local macro_rules | `(tactic| walk_at "pad 35") => `(tactic| fail)
local macro_rules | `(tactic| walk_at "pad 36") => `(tactic| fail)
local macro_rules | `(tactic| walk_at "pad 37") => `(tactic| fail)
local macro_rules | `(tactic| walk_at "pad 38") => `(tactic| fail)
local macro_rules | `(tactic| walk_at "pad 39") => `(tactic| fail)
variable {prog : Program} {w : World} {p : Program} {loose : List Str} {mean : ExcName → Option Value} {mg mb : Str → Option Value}
local macro_rules | `(tactic| k_room) => `(tactic| ktr_room)
local macro_rules | `(tactic| ktr_room) => `(tactic| (simp only [depth_under_make, depth_under_kw, depth_in1, depth_deeper] at *; omega))
local macro_rules | `(tactic| k_units) => `(tactic| ktr_units)

local macro_rules | `(tactic| k_mem) => `(tactic| ((repeat (first | with_reducible exact List.mem_cons_self | with_reducible assumption | refine List.mem_cons_of_mem _ ?_)); done))
local macro_rules | `(tactic| walk_at "getAttr ref") => `(tactic| (k_here; (with_reducible show wpAny _ _ (getAttr (Value.ref _) (Str.ofString "render") _) _ _ _); k_dflt (refine' hk_bound ?k1 ?k2 ?k3 ?k4 ?k5 ?k7 ?k8 ?k9 ?k10 ?k11 ?k12 ?_; (case k4 => k_inst); (case k2 => k_asm); (case k5 => first | exact hooked_rte | exact hooked_wpl); (case k1 => k_asm); (case k7 => k_is); (case k3 => k_asm); (case k8 => k_is); (case k9 => k_is); (case k10 => k_is); (case k11 => decide +kernel); (case k12 => exact MsgDict.no (by assumption) _ (by decide +kernel) (by decide +kernel) (by decide +kernel)); k_whole; intro q' h' F' N' l1; (try k_lt l1))))
local macro_rules | `(tactic| walk_at "getMethod ref") => `(tactic| (k_here; (with_reducible show wpAny _ _ (getMethod (Value.ref _) (Str.ofString "render") _) _ _ _); k_dflt (refine' hk_method ?k1 ?k2 ?k3 ?k4 ?_; (case k3 => k_inst); (case k1 => k_asm); (case k2 => k_asm); (case k4 => first | exact hooked_rte | exact hooked_wpl); k_whole)))
local macro_rules | `(tactic| walk_at "subscriptTail") => `(tactic| (k_here; (with_reducible show wpAny _ _ (subscriptTail _ (PySem.Expr.Slice _ _ none _) (Value.ref _) (Value.ref _)) _ _ _); k_dflt (first
  | (refine' sl_from ?F ?N ?l ?x ?_ ?s ?t ?z; (case F => k_asm); (case N => k_asm); (case l => k_mem); (case x => first | decide | omega); (case s => with_unfolding_all rfl); (case t => kmk_pure); (case z => first | omega | assumption))
  | (refine' sl_upto ?F ?N ?l ?x ?_ ?s ?t ?z; (case F => k_asm); (case N => k_asm); (case l => k_mem); (case x => first | decide | omega); (case s => with_unfolding_all rfl); (case t => kmk_pure); (case z => first | omega | assumption))); intro D' h' F' N' l1))
local macro_rules | `(tactic| walk_at "call builtin:len") => `(tactic| (k_here; (with_reducible show wpAny _ _ (call (Value.builtin "len") [Value.ref _]) _ _ _); k_dflt (refine' led_len ?N ?l ?z ?_; (case N => k_asm); (case l => k_mem); (case z => first | omega | assumption)); intro t' tk'))
local macro_rules | `(tactic| walk_at "subscriptTail") => `(tactic| (k_here; (with_reducible show wpAny _ _ (subscriptTail _ _ (Value.ref _) (Value.int _ _)) _ _ _); k_dflt (refine' led_item_str ?N ?l ?S ?h0 ?h1 ?z ?_ ?s; (case N => k_asm); (case l => k_mem); (case S => assumption); (case h0 => omega); (case h1 => omega); (case z => omega); (case s => with_unfolding_all rfl)); intro t'))
local macro_rules | `(tactic| walk_at "binaryOp Add str str") => `(tactic| (k_here; (with_reducible show wpAny _ _ (binaryOp Operator.Add (Value.str _ _) (Value.str _ _)) _ _ _); k_dflt (refine' add_short ?z ?_; (case z => (simp only [Str.length_append, hexText_len, len_GP, len_comma, len_dollar]; omega))); intro t' tk'))
local macro_rules | `(tactic| walk_at "ite") => `(tactic| (k_closed; k_dflt (first | refine ite_pos (by decide +kernel) ?_ | refine ite_neg (by decide +kernel) ?_)))
local macro_rules | `(tactic| walk_at "getMethod ref") => `(tactic| (k_here; (with_reducible show wpAny _ _ (getMethod (Value.ref _) (Str.ofString "append") _) _ _ _); k_dflt (refine' PySem.W.listMethod_K ?N ?m PySem.F.slot_list_append PySem.F.type_list_append ?_; (case N => k_asm); (case m => k_mem))))
local macro_rules | `(tactic| walk_at "call builtin:list.append") => `(tactic| (k_here; (with_reducible show wpAny _ _ (call (Value.builtin _) [Value.ref _, _]) _ _ _); k_dflt (refine' append_K ?k1 ?k2 ?k3 ?_ ?z; (case k1 => k_asm); (case k2 => k_asm); (case k3 => k_upd); (case z => (rw [sizeLine_eq]; simp only [List.size_toArray, Array.size_push, List.length_append, List.length_cons, List.length_nil, List.length_take, List.length_drop]; omega)); k_whole); intro h' F' N'))

local macro_rules | `(tactic| walk_at "call ref") => `(tactic| ((with_reducible show wpAny _ _ (call (Value.ref 294) [_, Value.int _ _, Value.int _ _]) _ _ _); k_dflt (refine call_of ?_; refine' each_c ?p0 ?p1 ?p2 ?p3 ?p4 ?p5 _ _ _ _ _ _ _ _ _ _ _ _ _ _ _ _ _ _ ?k1 ?k2 ?k3 ?k4 ?k5 ?k6 ?k7 ?k8 ⟨?im, ?_⟩; (case k1 => k_asm); (case k2 => k_asm); (case k3 => k_asm); (case k4 => k_asm); (case k5 => k_asm); (case k6 => first | rfl | assumption); (case k7 => ktr_room); (case k8 => ktr_units); (case im => k_asm); (case p0 => assumption); (case p1 => omega); (case p2 => decide); (case p3 => decide); (case p4 => decide); (case p5 => decide); intro h' tk' l' k' vs' F' N' hv'; obtain ⟨ks', hi', hn'⟩ := hv'; have z' := IntsAre.length hi')))

local macro_rules | `(tactic| walk_at "call ref") => `(tactic| ((with_reducible show wpAny _ _ (call (Value.ref 329) [_, Value.int _ _]) _ _ _); k_dflt (refine call_of ?_; refine' groups_c ?p0 ?p1 _ _ _ _ _ _ _ _ _ _ _ _ _ _ _ _ _ _ ?k1 ?k2 ?k3 ?k4 ?k5 ?k6 ?k7 ?k8 ⟨?im, ?_⟩; (case k1 => k_asm); (case k2 => k_asm); (case k3 => k_asm); (case k4 => k_asm); (case k5 => k_asm); (case k6 => first | rfl | assumption); (case k7 => ktr_room); (case k8 => ktr_units); (case im => k_mem); (case p0 => assumption); (case p1 => omega); intro h' tk' G' news' kG' ws' gs' F' N' sub' hG' dat' good')))

local macro_rules | `(tactic| walk_at "eval IfExp") => `(tactic| (k_here; (fail_if_success (with_reducible show wpAny _ _ _ (CutInt _ _ _ _ _) _ _)); (with_reducible show wpAny _ _ (eval (PySem.Expr.IfExp _ _ _ _) _) _ _ _); k_dflt (refine' cut_int ?F ?N ?h1 ?_; (case F => k_asm); (case N => k_asm); (case h1 => (k_steps; all_goals (refine ⟨_, _, _, _, rfl, rfl, ?_, ?_⟩ <;> k_asm)))); intro n' t' h' tk' F' N'))
local macro_rules | `(tactic| k_all) => `(tactic| first | with_reducible assumption | exact List.forall_mem_nil _ | (refine' List.forall_mem_cons.mpr ⟨?a, ?b⟩; (case a => k_ne); (case b => k_all)))
local macro_rules | `(tactic| walk_at "binaryOp Add ref ref") => `(tactic| (k_here; k_dflt (refine' sl_add ?F ?N ?a ?b ?z ?_; (case F => k_asm); (case N => k_asm); (case a => k_mem); (case b => k_mem); (case z => first | omega | (simp only [List.length_append, List.length_cons, List.length_nil]; omega))); intro D' h' F' N' l1; (try k_lt l1)))
local macro_rules | `(tactic| walk_at "call builtin:str.join") => `(tactic| (k_here; k_dflt (refine' join_r ?N ?l ?S ?a1 ?a2 ?b1 ?b2 ?c ?d ?y ?yb ?_; (case N => k_asm); (case l => k_mem); (case S => with_reducible assumption); (case a1 => omega); (case a2 => omega); (case b1 => omega); (case b2 => omega); (case c => with_reducible assumption); (case d => with_reducible assumption); (case y => omega); (case yb => with_reducible assumption)); intro t' tk' hjl'))
local macro_rules | `(tactic| walk_at "exec For Tuple Call cons nil") => `(tactic| (k_here; (rename Fr _ _ _ _ => lF'); (with_unfolding_all refine' PySem.W.For_turns lF' ?_); k_whole))
local macro_rules | `(tactic| walk_at "exec For Tuple Call") => `(tactic| (k_here; (rename Fr _ _ _ _ => lF'); (with_unfolding_all refine' PySem.W.For_turns lF' ?_); k_whole))
local macro_rules | `(tactic| walk_at "exec For Name Name cons nil") => `(tactic| (k_here; (rename Fr _ _ _ _ => lF'); (with_unfolding_all refine' For_invVF lF' ?k1 ?k2 ?_; (case k1 => exact rfl); (case k2 => exact rfl); k_whole)))
theorem len_place {us : List Value} {n : Int} (S : StrsAre us (placeOf n)) : us.length = 4 := StrsAre.len S
local macro_rules | `(tactic| walk_at "call ref") => `(tactic| ((with_reducible show wpAny _ _ (call (Value.ref 308) [Value.int _ _]) _ _ _); k_dflt (refine call_of ?_; refine' place_c ?p0 ?p1 _ _ _ _ _ _ _ _ _ _ _ _ _ _ _ _ _ _ ?k1 ?k2 ?k3 ?k4 ?k5 ?k6 ?k7 ?k8 ?_; (case k1 => k_asm); (case k2 => k_asm); (case k3 => k_asm); (case k4 => k_asm); (case k5 => k_asm); (case k6 => first | rfl | assumption); (case k7 => ktr_room); (case k8 => ktr_units); (case p0 => assumption); (case p1 => assumption); intro h' tk' l' k' vs' F' N' l1 S'; have z' := len_place S'; (try k_lt l1))))

local macro_rules | `(tactic| walk_at "compareOp In str ref") => `(tactic| (k_here; k_dflt (refine' in_list ?N ?ma ?S ?hx ?hy ?hu ?_; (case N => k_asm); (case ma => k_mem); (case S => with_reducible assumption); (case hx => with_reducible assumption); (case hy => with_reducible assumption); (case hu => ktr_units)); intro cc' hcc'))
local macro_rules | `(tactic| walk_at "call builtin:str.join") => `(tactic| (k_here; k_dflt (refine' join_w ?N ?l ?S ?n0 ?n1 ?x ?_; (case N => k_asm); (case l => k_mem); (case S => with_reducible assumption); (case n0 => with_reducible assumption); (case n1 => with_reducible assumption); (case x => with_reducible assumption)); intro t' tk' hjl'))
local macro_rules | `(tactic| walk_at "call ref") => `(tactic| ((with_reducible show wpAny _ _ (call (Value.ref 301) [_]) _ _ _); k_dflt (refine call_of ?_; refine' hex_c ?p0 ?p1 _ _ _ _ _ _ _ _ _ _ _ _ _ _ _ _ _ _ ?k1 ?k2 ?k3 ?k4 ?k5 ?k6 ?k7 ?k8 ?_; (case k1 => k_asm); (case k2 => k_asm); (case k3 => k_asm); (case k4 => k_asm); (case k5 => k_asm); (case k6 => first | rfl | assumption); (case k7 => ktr_room); (case k8 => ktr_units); (case p0 => with_reducible assumption); (case p1 => with_reducible assumption); intro h' tk' v' F' N' hv'; obtain ⟨t', e'⟩ := hv'; subst e')))

local macro_rules | `(tactic| walk_at "subscriptTail") => `(tactic| (k_here; (with_reducible show wpAny _ _ (subscriptTail _ _ (Value.ref _) (Value.int _ _)) _ _ _); k_dflt (refine' led_item_some ?N ?l ?S ?h0 ?h1 ?z ?_ ?s; (case N => k_asm); (case l => k_mem); (case S => with_reducible assumption); (case h0 => omega); (case h1 => omega); (case z => omega); (case s => with_unfolding_all rfl)); intro n' t'))
local macro_rules | `(tactic| walk_at "subscriptTail Name Slice ref ref") => `(tactic| (k_here; (with_reducible show wpAny _ _ (subscriptTail _ (PySem.Expr.Slice _ _ none _) (Value.ref _) (Value.ref _)) _ _ _); k_dflt (first
  | (refine' sl_from ?F ?N ?l ?x ?_ ?s ?t ?z; (case F => k_asm); (case N => k_asm); (case l => k_mem); (case x => exact Int.fmod_nonneg_of_pos _ (by omega)); (case s => with_unfolding_all rfl); (case t => kmk_pure); (case z => omega))
  | (refine' sl_upto ?F ?N ?l ?x ?_ ?s ?t ?z; (case F => k_asm); (case N => k_asm); (case l => k_mem); (case x => exact Int.fmod_nonneg_of_pos _ (by omega)); (case s => with_unfolding_all rfl); (case t => kmk_pure); (case z => omega))); intro D' h' F' N' l1; (try k_lt l1)))
local macro_rules | `(tactic| walk_at "binaryOp Add ref ref") => `(tactic| (k_here; k_dflt (refine' sl_add ?F ?N ?a ?b ?z ?_; (case F => k_asm); (case N => k_asm); (case a => k_mem); (case b => k_mem); (case z => (simp only [List.length_append, List.length_cons, List.length_nil, List.length_take, List.length_drop]; omega))); intro D' h' F' N' l1; (try k_lt l1)))
local macro_rules | `(tactic| walk_at "call builtin:list.append") => `(tactic| (k_here; (with_reducible show wpAny _ _ (call (Value.builtin _) [Value.ref _, _]) _ _ _); k_dflt (refine' append_K ?k1 ?k2 ?k3 ?_ ?z; (case k1 => k_asm); (case k2 => k_asm); (case k3 => k_upd); (case z => (rw [sizeLine_eq]; simp only [List.size_toArray, Array.size_push, List.length_append, List.length_cons, List.length_nil, List.length_take, List.length_drop]; omega)); k_whole); intro h' F' N'))
local macro_rules | `(tactic| walk_at "exec For Tuple Name cons nil") => `(tactic| (k_here; (rename Fr _ _ _ _ => lF'); (with_unfolding_all refine' PySem.W.For_turns lF' ?_); k_whole))
local macro_rules | `(tactic| walk_at "exec For Tuple Name") => `(tactic| (k_here; (rename Fr _ _ _ _ => lF'); (with_unfolding_all refine' PySem.W.For_turns lF' ?_); k_whole))
local macro_rules | `(tactic| walk_at "call ref") => `(tactic| ((with_reducible show wpAny _ _ (call (Value.ref 124) [Value.str (lineOf _ (bodyOf RTEk _)) _, Value.ref _]) _ _ _); k_dflt (refine call_of ?_; refine' parse_rte ?p0 _ _ _ _ _ _ _ _ _ _ _ _ _ _ _ _ _ _ ?k1 ?k2 ?k3 ?k4 ?k5 ?k6 ?k7 ?k8 ⟨?im, ?lo, ?kd, ?_⟩; (case k1 => k_asm); (case k2 => k_asm); (case k3 => k_asm); (case k4 => k_asm); (case k5 => k_asm); (case k6 => first | rfl | assumption); (case k7 => ktr_room); (case k8 => ktr_units); (case im => k_mem); (case lo => k_asm); (case kd => k_asm); (case p0 => with_reducible assumption); intro h' tk' x' dx' es' n' l' vs' k' F' N' l1 l2 l3 S' M'; have im' := isMsg_of (x := x') (dx := dx') (n := n') (k := k') (C := 269) S' M'; (try k_lt l1); (try k_lt l2); (try k_lt l3))))

local macro_rules | `(tactic| walk_at "getAttr ref") => `(tactic| (k_here; k_dflt (refine' field_rte ?kn ?k1 ?k2 ?k3 ?k4 ?k5 ?k6 ?k7 ?k8 ?im ?ki ?kb ?k4b ?ka ?kc ?n1 ?n2 ?n3 ?_; (case kn => first | with_reducible exact keysR_0 | with_reducible exact keysR_1 | with_reducible exact keysR_2 | with_reducible exact keysR_3); (case k1 => k_asm); (case k2 => k_asm); (case k3 => k_asm); (case k4 => k_asm); (case k5 => k_asm); (case k6 => first | rfl | assumption); (case k7 => ktr_room); (case k8 => ktr_units); (case im => exact IsMsg.mono (by with_reducible assumption) (by kcf_all)); (case ki => decide); (case kb => with_reducible assumption); (case k4b => with_reducible assumption); (case ka => k_is); (case kc => decide +kernel); (case n1 => decide +kernel); (case n2 => decide +kernel); (case n3 => decide +kernel)); intro h' tk' t' F' N'))
local macro_rules | `(tactic| walk_at "getAttr ref") => `(tactic| (k_here; k_dflt (refine' wpts_at ?kn ?k1 ?k2 ?k3 ?k4 ?k5 ?k6 ?k7 ?k8 ?im ?kb ?_; (case kn => with_reducible rfl); (case k1 => k_asm); (case k2 => k_asm); (case k3 => k_asm); (case k4 => k_asm); (case k5 => k_asm); (case k6 => first | rfl | assumption); (case k7 => ktr_room); (case k8 => ktr_units); (case im => exact IsMsg.mono (by with_reducible assumption) (by kcf_all)); (case kb => with_reducible assumption)); intro h' tk' l' k' vs' F' N' l1 S'; (try k_lt l1)))
local macro_rules | `(tactic| walk_at "call ref") => `(tactic| (k_here; (with_reducible show wpAny _ _ (call (Value.ref _) [Value.bool _, Value.bool true, Value.bool false]) _ _ _); k_dflt (refine' meth_of (f := .ref 154) ?n1 ?n2 ?_; (case n1 => k_asm); (case n2 => k_mem); refine' render_c ?p0 ?p1 ?p2 ?p3 ?p4 _ _ _ _ _ _ _ _ _ _ _ _ _ _ _ _ _ _ ?k1 ?k2 ?k3 ?k4 ?k5 ?k6 ?k7 ?k8 ⟨?im, ?_⟩; (case k1 => k_asm); (case k2 => k_asm); (case k3 => k_asm); (case k4 => k_asm); (case k5 => k_asm); (case k6 => first | rfl | assumption); (case k7 => ktr_room); (case k8 => ktr_units); (case im => exact IsMsg.mono (by with_reducible assumption) (by kcf_all)); (case p0 => first | exact Or.inl rfl | exact Or.inr rfl); (case p1 => decide); (case p2 => with_reducible assumption); (case p3 => with_reducible assumption); (case p4 => with_reducible assumption); intro h' tk' v' F' N' hv'; obtain ⟨t', e'⟩ := hv'; subst e')))

local macro_rules | `(tactic| walk_at "call ref") => `(tactic| (k_here; (with_reducible show wpAny _ _ (call (Value.ref _) [Value.bool false, Value.bool false, Value.bool false]) _ _ _); k_dflt (refine' meth_of (f := .ref 154) ?n1 ?n2 ?_; (case n1 => k_asm); (case n2 => k_mem); refine' bare_c ?p0 ?p1 ?p2 ?p3 _ _ _ _ _ _ _ _ _ _ _ _ _ _ _ _ _ _ ?k1 ?k2 ?k3 ?k4 ?k5 ?k6 ?k7 ?k8 ⟨?im, ?_⟩; (case k1 => k_asm); (case k2 => k_asm); (case k3 => k_asm); (case k4 => k_asm); (case k5 => k_asm); (case k6 => first | rfl | assumption); (case k7 => ktr_room); (case k8 => ktr_units); (case im => exact IsMsg.mono (by with_reducible assumption) (by kcf_all)); (case p0 => first | exact Or.inl rfl | exact Or.inr rfl); (case p1 => decide); (case p2 => with_reducible assumption); (case p3 => with_reducible assumption); intro h' tk' v' F' N' hv'; obtain ⟨t', e'⟩ := hv'; subst e')))

local macro_rules | `(tactic| walk_at "setItem ref str") => `(tactic| (k_here; k_dflt (refine' PySem.W.kda_set (knd := PySem.strKind _ _) ?F ?N ?U ?d (strKind_is _ _ _ _) ?z ?_; (case F => k_asm); (case N => k_asm); (case U => k_updF); (case d => with_reducible assumption); (case z => rw [sizeLine_eq]; omega)); intro h' o' F' N' hd'; (try dsimp only at N')))
local macro_rules | `(tactic| walk_at "call builtin:len") => `(tactic| (k_here; (with_reducible show wpAny _ _ (call (Value.builtin "len") [Value.ref _]) _ _ _); k_dflt (refine' led_len ?N ?l ?z ?_; (case N => k_asm); (case l => k_mem); (case z => omega)); intro t' tk'))
local macro_rules | `(tactic| walk_at "call builtin:isinstance") => `(tactic| (k_here; k_dflt (first
  | (refine' isi_rte ?F ?X ?N ?im ?_; (case N => k_asm); (case F => k_asm); (case X => k_asm); (case im => exact IsMsg.mono (by with_reducible assumption) (by kcf_all)))
  | (refine' isi_wpl ?F ?X ?N ?im ?_; (case N => k_asm); (case F => k_asm); (case X => k_asm); (case im => exact IsMsg.mono (by with_reducible assumption) (by kcf_all)))
  | (refine' isi_not ?F ?X ?N ?im ?_; (case N => k_asm); (case F => k_asm); (case X => k_asm); (case im => exact IsMsg.mono (by with_reducible assumption) (by kcf_all)))); k_whole))
local macro_rules | `(tactic| walk_at "getMethod ref") => `(tactic| (k_here; (with_reducible show wpAny _ _ (getMethod (Value.ref _) (Str.ofString "render") _) _ _ _); k_dflt (refine' meth_render ?F ?X ?N ?im ?hC ?_; (case N => k_asm); (case F => k_asm); (case X => k_asm); (case im => exact IsMsg.mono (by with_reducible assumption) (by kcf_all)); (case hC => first | exact Or.inl rfl | exact Or.inr rfl)); intro q' h' F' N' l1; (try k_lt l1)))
local macro_rules | `(tactic| walk_at "And") => `(tactic| ((with_reducible show MethP _ _ _ _ _ ∧ _); k_dflt (refine' ⟨meth_p ?F ?X ?N ?hm, ?_⟩; (case F => k_asm); (case X => k_asm); (case N => k_asm); (case hm => with_reducible exact List.mem_cons_self)); (try dsimp only [List.nil_append, List.cons_append])))
local macro_rules | `(tactic| walk_at "callWith ref") => `(tactic| (k_here; k_dflt (refine' callWith_M ?X ?N ?q ?hf ?_ ?e ?p; (case X => k_asm); (case N => k_asm); (case q => with_reducible exact List.mem_cons_self); (case hf => k_is); (case e => rfl); (case p => rfl))))
local macro_rules | `(tactic| walk_at "getAttr ref") => `(tactic| (k_here; k_dflt (refine' field_wpl ?kn ?k1 ?k2 ?k3 ?k4 ?k5 ?k6 ?k7 ?k8 ?im ?ki ?kb ?k4b ?ka ?kc ?n1 ?n2 ?n3 ?_; (case kn => first | with_reducible exact keysW_0 | with_reducible exact keysW_1 | with_reducible exact keysW_2 | with_reducible exact keysW_3 | with_reducible exact keysW_4); (case k1 => k_asm); (case k2 => k_asm); (case k3 => k_asm); (case k4 => k_asm); (case k5 => k_asm); (case k6 => first | rfl | assumption); (case k7 => ktr_room); (case k8 => ktr_units); (case im => exact IsMsg.mono (by with_reducible assumption) (by kcf_all)); (case ki => decide); (case kb => with_reducible assumption); (case k4b => with_reducible assumption); (case ka => k_is); (case kc => decide +kernel); (case n1 => decide +kernel); (case n2 => decide +kernel); (case n3 => decide +kernel)); intro h' tk' t' F' N'))
local macro_rules | `(tactic| walk_at "call ref") => `(tactic| ((with_reducible show wpAny _ _ (call (Value.ref 124) [Value.str (lineOf _ (bodyOf WPLk _)) _, Value.ref _]) _ _ _); k_dflt (refine call_of ?_; refine' parse_wpl ?p0 _ _ _ _ _ _ _ _ _ _ _ _ _ _ _ _ _ _ ?k1 ?k2 ?k3 ?k4 ?k5 ?k6 ?k7 ?k8 ⟨?im, ?lo, ?kd, ?_⟩; (case k1 => k_asm); (case k2 => k_asm); (case k3 => k_asm); (case k4 => k_asm); (case k5 => k_asm); (case k6 => first | rfl | assumption); (case k7 => ktr_room); (case k8 => ktr_units); (case im => k_mem); (case lo => k_asm); (case kd => k_asm); (case p0 => with_reducible assumption); intro h' tk' x' dx' es' n' l' vs' k' F' N' l1 l2 l3 S' M'; have im' := isMsg_of (x := x') (dx := dx') (n := n') (k := k') (C := 287) S' M'; (try k_lt l1); (try k_lt l2); (try k_lt l3))))

local macro_rules | `(tactic| walk_at "eval ListComp") => `(tactic| (k_here; k_dflt (refine comp_strs (F₀ := by k_asm) (by with_unfolding_all rfl) (by decide) (by rfl) (by decide) (by rfl) ?_)))
local macro_rules | `(tactic| walk_at "getMethod ref") => `(tactic| (k_here; (with_reducible show wpAny _ _ (getMethod (Value.ref _) (Str.ofString "get") _) _ _ _); k_dflt (refine' PySem.W.kdg_method (knd := PySem.strKind _ _) ?N ?m ?d ?_; (case N => k_asm); (case m => k_mem); (case d => with_reducible assumption))))
local macro_rules | `(tactic| walk_at "call builtin:dict.get") => `(tactic| (k_here; k_dflt (first
  | (refine' PySem.W.kdg_get2 (knd := PySem.strKind _ _) ?N ?m ?d ?l (strKind_is _ _ _ _) (some _) ?v ?_; (case N => k_asm); (case m => k_mem); (case d => with_reducible assumption); (case l => with_reducible assumption); (case v => with_reducible assumption))
  | (refine' PySem.W.kdg_get1 (knd := PySem.strKind _ _) ?N ?m ?d ?l (strKind_is _ _ _ _) _ rfl ?_; (case N => k_asm); (case m => k_mem); (case d => with_reducible assumption); (case l => with_reducible assumption))); (try dsimp only [Option.getD_some])))
local macro_rules | `(tactic| walk_at "call ref") => `(tactic| ((with_reducible show wpAny _ _ (call (Value.ref 322) [Value.str (wname _) _]) _ _ _); k_dflt (refine call_of ?_; refine' due_c ?p0 ?p1 _ _ _ _ _ _ _ _ _ _ _ _ _ _ _ _ _ _ ?k1 ?k2 ?k3 ?k4 ?k5 ?k6 ?k7 ?k8 ?_; (case k1 => k_asm); (case k2 => k_asm); (case k3 => k_asm); (case k4 => k_asm); (case k5 => k_asm); (case k6 => first | rfl | assumption); (case k7 => ktr_room); (case k8 => ktr_units); (case p0 => with_reducible assumption); (case p1 => with_reducible assumption); intro h' tk' l' k' vs' F' N' l1 S'; (try k_lt l1))))

local macro_rules | `(tactic| walk_at "call ref") => `(tactic| ((with_reducible show wpAny _ _ (call (Value.ref 322) [Value.str (Str.ofString "") _]) _ _ _); k_dflt (refine call_of ?_; refine' due_none_c  _ _ _ _ _ _ _ _ _ _ _ _ _ _ _ _ _ _ ?k1 ?k2 ?k3 ?k4 ?k5 ?k6 ?k7 ?k8 ?_; (case k1 => k_asm); (case k2 => k_asm); (case k3 => k_asm); (case k4 => k_asm); (case k5 => k_asm); (case k6 => first | rfl | assumption); (case k7 => ktr_room); (case k8 => ktr_units);  intro h' tk' v' F' N' hv'; subst hv')))

local macro_rules | `(tactic| walk_at "compareOp Eq ref ref") => `(tactic| (k_here; k_dflt (refine' eq_dat ?N ?ma ?Da ?mb ?Db ?ha ?hb ?hu ?_; (case N => k_asm); (case ma => k_mem); (case mb => k_mem); (case Da => with_reducible assumption); (case Db => with_reducible assumption); (case ha => with_reducible assumption); (case hb => with_reducible assumption); (case hu => ktr_units)); intro cc' hcc'; obtain rfl := hcc' rfl))
set_option maxHeartbeats 40000000 in
theorem law_holds : PySem.Challenge.rw_ez0284_01.Holds := Mine.hd (by
  k_go0
  k_steps
  rename_i h01 tk01 ln kln vn kn hin hnn zn h02 tk02 h03 tk03 ld kd vd kds hid hnd zd h04 tk04 mo tmo h05 tk05 h06 h07 tk07 G nw kG wG gs subG hG datG good h08 tk08 kxE h09 ttt k09 aT h10 tk10 Na h11 lN h12 tk12 Sn h13 lS h14 F1 N1
  have hti : (titOf mo).length ≤ 4 ∧ Clean (titOf mo) := tit_facts (mo.fdiv 4)
  have hst : (staOf mo).length ≤ 1 ∧ Clean (staOf mo) := sta_facts (mo.fdiv 2)
  have hGl : (ld, W.listOf vd.toArray kd) ∈ nw := subG _ (.head _)
  k_dflt refine' enum_iter (vs := wG) (nn := kG) (J1 nw G ld (staOf mo) (titOf mo) gs) ?r1 ?r2 ?r3 ?r4 ?hl ?F ?N ?j ?turn ?done
  case r1 => rfl
  case r2 => rfl
  case r3 => rfl
  case r4 => rfl
  case F => exact F1
  case N => exact N1
  case hl => exact List.mem_cons_of_mem _ (List.mem_cons_of_mem _ hG)
  case j => k_dflt (refine' J1_zero lN lS ?jA ?jB ?jC; (case jB => rfl); (case jC => rfl); (case jA => exact ⟨rfl, rfl, ⟨_, rfl⟩, ⟨_, rfl⟩⟩))
  case turn =>
    intro i t v m₁ news₁ h tk own hv hoff hl₁ hJ F₁ N₁
    obtain ⟨S, kS, Na2, kN, sb, nb, tl, rfl, d1, sub, hNa, SN, SB, lk, e1, e2⟩ := hJ
    obtain ⟨g, kg, us, rfl, hg, SU, hi⟩ := group_at datG hv
    obtain ⟨ta, ea⟩ := lk.st
    obtain ⟨tb, eb⟩ := lk.ti
    replace F₁ := fr_put (fr_put (fr_put (fr_put (fr_put F₁ (a := Str.ofString "groups") lk.gr) (a := Str.ofString "start") ea) (a := Str.ofString "title") eb) (a := Str.ofString "names") e1) (a := Str.ofString "sent") e2
    obtain ⟨tl2, s1, s2, s3⟩ : ∃ tl2, (∀ p ∈ tl, p ∈ tl2) ∧ (∀ p ∈ own, p ∈ tl2) ∧ (∀ p ∈ tl2, p ∈ tl ∨ p ∈ own) := ⟨tl ++ own, fun p h => List.mem_append_left _ h, fun p h => List.mem_append_right _ h, fun p h => List.mem_append.mp h⟩
    have o1 : ∀ p ∈ own, p.1 ≠ S := fun p hp => hoff p hp S (by simp)
    have q1 : ∀ p ∈ tl2, p.1 ≠ S := fun p hp => (s3 p hp).elim (d1 p) (o1 p)
    have N₂ : News _ _ h ((S, W.listOf sb.toArray kS) :: tl2) := fun p hp => N₁ p (by
      rcases List.mem_cons.mp hp with e | hp
      · exact List.mem_append_left _ (List.mem_cons.mpr (.inl e))
      · rcases s3 p hp with h | h
        · exact List.mem_append_left _ (List.mem_cons_of_mem _ h)
        · exact List.mem_append_right _ h)
    clear N₁
    have x1 := s1 _ hNa
    have x2 := s1 _ (sub _ hG)
    have x3 := s1 _ (sub _ hg)
    have z1 := StrsAre.len SN
    have z2 := StrsAre.len SB
    have z3 := StrsAre.len SU
    have z4 := datG.length
    have z5 := good.ln
    have z6 := group_len good i
    have z7 := names_len good i
    have z8 := group_short good i
    have z9 := hti.1
    have z10 := hst.1
    rw [List.length_map] at z4
    rw [List.length_map, List.length_range] at z2
    k_steps
    refine' J1_next hG hoff d1 sub SN SB SU hi z4 s1 s2 ?nl ?nF ?nN ?nk ?ne ?nf
    case nF => k_asm
    case nN => k_asm
    case nl => assumption
    case nk => exact ⟨rfl, lk.dr, ⟨_, rfl⟩, ⟨_, rfl⟩⟩
    case ne => rfl
    case nf => rfl
  case done =>
    intro m₁ news₁ h tk hJ F₁ N₁
    obtain ⟨S, kS, Na2, kN, sb, nb, tl, rfl, d1, sub, hNa, SN, SB, lk, e1, e2⟩ := hJ
    obtain ⟨ta, ea⟩ := lk.st
    obtain ⟨tb, eb⟩ := lk.ti
    replace F₁ := fr_put (fr_put F₁ (a := Str.ofString "names") e1) (a := Str.ofString "sent") e2
    k_with "pyIter ref" => fail
    k_steps
    rename_i tk20 Ap h20 F20 N20 lA h21 F2 N2
    have hgl : wG.length = gs.length := by rw [datG.length, List.length_map]
    have SN2 : StrsAre nb gs.flatten := by rw [← List.take_length (l := gs), ← hgl]; exact SN
    have SB2 : StrsAre sb ((List.range gs.length).map (rbody gs (staOf mo) (titOf mo)) ++ ([] : List Str).map wbody) := by rw [List.map_nil, List.append_nil, ← hgl]; exact SB
    k_dflt refine' PySem.W.kdl_iter (vs := nb) (nn := kN) (J2 ((Na2, W.listOf nb.toArray kN) :: nw) G ld (staOf mo) (titOf mo) gs) ?hh ?hl ?F ?N ?j ?turn ?done
    case hh => rfl
    case F => exact F2
    case N => exact N2
    case hl => exact List.mem_cons_of_mem _ (List.mem_cons_of_mem _ hNa)
    case j => exact ⟨S, kS, Ap, 0, sb, [], [], tl, rfl, d1, fun p hp => Nat.ne_of_lt (PySem.W.kst_ltOf lA.2 p hp), lA.1, List.forall_mem_cons.mpr ⟨hNa, sub⟩, .nil, (fun x h => nomatch h), (fun x h => nomatch h), Nat.zero_le _, SB2, ⟨lk.gr, lk.dr, lk.st, lk.ti⟩, rfl, rfl⟩
    case turn =>
      intro i v m₁ news₁ h tk own hv hoff hl₁ hJ F₁ N₁
      obtain ⟨S, kS, Ap, kA, sb, ab, as, tl, rfl, d1, d2, d3, sub, SA, as1, as2, as3, SB, lk, e1, e2⟩ := hJ
      have hi : i < nb.length := (List.getElem?_eq_some_iff.mp hv).1
      have z1 := StrsAre.len SN2
      have z2 := StrsAre.len SA
      have z3 := StrsAre.len SB
      have z5 := good.ln
      simp only [List.length_append, List.length_map, List.length_range] at z3
      have z4 := names_len good gs.length
      rw [List.take_length] at z4
      obtain ⟨tx, ex⟩ := strs_get SN2 i (by omega)
      rw [hv] at ex
      obtain rfl := Option.some.inj ex
      replace F₁ := fr_put (fr_put F₁ (a := Str.ofString "apart") e1) (a := Str.ofString "sent") e2
      obtain ⟨tl2, s1, s2, s3⟩ : ∃ tl2, (∀ p ∈ tl, p ∈ tl2) ∧ (∀ p ∈ own, p ∈ tl2) ∧ (∀ p ∈ tl2, p ∈ tl ∨ p ∈ own) := ⟨tl ++ own, fun p h => List.mem_append_left _ h, fun p h => List.mem_append_right _ h, fun p h => List.mem_append.mp h⟩
      have q1 : ∀ p ∈ tl2, p.1 ≠ S := fun p hp => (s3 p hp).elim (d1 p) (fun hp => hoff p hp S (by simp))
      have q2 : ∀ p ∈ tl2, p.1 ≠ Ap := fun p hp => (s3 p hp).elim (d2 p) (fun hp => hoff p hp Ap (by simp))
      have N₂ : News _ _ h ((Ap, W.listOf ab.toArray kA) :: (S, W.listOf sb.toArray kS) :: tl2) := fun p hp => N₁ p (by
        rcases List.mem_cons.mp hp with e | hp
        · exact List.mem_append_left _ (List.mem_cons.mpr (.inl e))
        rcases List.mem_cons.mp hp with e | hp
        · exact List.mem_append_left _ (List.mem_cons_of_mem _ (List.mem_cons.mpr (.inl e)))
        · rcases s3 p hp with h | h
          · exact List.mem_append_left _ (List.mem_cons_of_mem _ (List.mem_cons_of_mem _ h))
          · exact List.mem_append_right _ h)
      clear N₁
      have nm := name_at good i
      have asN : ∀ y ∈ as, IsName y := fun y hy => flat_names good (as1 y hy).1
      generalize hxx : gs.flatten.getD i Str.empty = x at F₁ nm
      rcases name_cases nm with rfl | ⟨n, n0, n1, rfl⟩
      · k_steps
        refine' J2_skip ?nl hoff d1 d2 d3 sub SA as1 as2 as3 SB ?ni hxx (fun h => absurd rfl h) s1 s2 ?nF ?nN ?na ?nb ?nc ?nk ?ne ?nf
        case nF => k_asm
        case nN => k_asm
        case nl => exact sub _ (.head _)
        case ni => omega
        case na => k_mem
        case nb => k_mem
        case nc => kcf_all
        case nk => exact ⟨lk.gr, lk.dr, lk.st, lk.ti⟩
        case ne => rfl
        case nf => rfl
      · obtain ⟨w1, w2, w3, w4⟩ := wname_facts n0 n1
        k_steps
        · refine' J2_skip ?nl hoff d1 d2 d3 sub SA as1 as2 as3 SB ?ni hxx ?ns s1 s2 ?nF ?nN ?na ?nb ?nc ?nk ?ne ?nf
          case ns => intro _; rename (_ = true ↔ _) => hc; exact hc.mp (by assumption)
          case nF => k_asm
          case nN => k_asm
          case nl => exact sub _ (.head _)
          case ni => omega
          case na => k_mem
          case nb => k_mem
          case nc => kcf_all
          case nk => exact ⟨lk.gr, lk.dr, lk.st, lk.ti⟩
          case ne => rfl
          case nf => rfl
        · refine' J2_next ?nl hoff d1 d2 d3 sub SA as1 as2 as3 SB ?ni hxx ?nx s1 s2 ?nF ?nN ?na ?nb ?nc ?nk ?ne ?nf
          case nF => k_asm
          case nN => k_asm
          case nl => exact sub _ (.head _)
          case ni => omega
          case nx => intro e; rw [e] at w3; exact absurd w3 (by decide +kernel)
          case na => k_mem
          case nb => rw [wpl_eq n0 n1]; k_mem
          case nc => kcf_all
          case nk => exact ⟨lk.gr, lk.dr, lk.st, lk.ti⟩
          case ne => rfl
          case nf => rfl
    case done =>
      intro m₁ news₁ h tk hJ F₁ N₁
      obtain ⟨S, kS, Ap, kA, sb, ab, as, tl, rfl, d1, d2, d3, sub, SA, as1, as2, as3, SB, lk, e1, e2⟩ := hJ
      obtain ⟨ta, ea⟩ := lk.st
      obtain ⟨tb, eb⟩ := lk.ti
      have z1 := StrsAre.len SN2
      rw [show gs.flatten.take nb.length = gs.flatten by rw [z1, List.take_length]] at as2
      replace F₁ := fr_put F₁ (a := Str.ofString "sent") e2
      clear d1 d2 d3
      k_with "pyIter ref" => fail
      k_steps
      rename_i O0 h30 F30 N30 lO h31 F3 N3
      have SB3 : StrsAre sb (bodies gs (staOf mo) (titOf mo) as) := SB
      k_dflt refine' enum_iter (vs := sb) (nn := kS) (J3 ((S, W.listOf sb.toArray kS) :: nw) G ld (staOf mo) (titOf mo) (bodies gs (staOf mo) (titOf mo) as)) ?r1 ?r2 ?r3 ?r4 ?hl ?F ?N ?j ?turn ?done
      case r1 => rfl
      case r2 => rfl
      case r3 => rfl
      case r4 => rfl
      case F => exact F3
      case N => exact N3
      case hl => exact List.mem_cons_of_mem _ (List.mem_cons_of_mem _ (.head _))
      case j => exact J3_zero (List.forall_mem_cons.mpr ⟨List.mem_cons_of_mem _ (.head _), fun p hp => List.mem_cons_of_mem _ (List.mem_cons_of_mem _ (sub _ (List.mem_cons_of_mem _ hp)))⟩) ⟨lk.gr, lk.dr, lk.st, lk.ti⟩ rfl
      case turn =>
        clear sub lk e1 e2 ea eb F30 N30 F3 N3
        intro i t v m₁ news₁ h tk own hv hoff hl₁ hJ F₁ N₁
        obtain ⟨O, kO, ov, es, sub, hO, DO, es1, es2, es3, lk, e1⟩ := hJ
        have hi : i < sb.length := (List.getElem?_eq_some_iff.mp hv).1
        have z1 := StrsAre.len SB3
        have z2 := DO.length
        have hlen : (bodies gs (staOf mo) (titOf mo) as).length = gs.length + as.length := by simp [bodies]
        have z3 := names_len good gs.length
        rw [List.take_length] at z3
        have z4 := good.ln
        rw [List.length_map] at z2
        obtain ⟨tx, ex⟩ := strs_get SB3 i (by omega)
        rw [hv] at ex
        obtain rfl := Option.some.inj ex
        obtain ⟨b1, b2⟩ := body_short good hst hti as1 (i := i) (by omega)
        have b3 : ((bodies gs (staOf mo) (titOf mo) as).getD i Str.empty).length < 1000 := by omega
        replace F₁ := fr_put (fr_put F₁ (a := Str.ofString "drawn") lk.dr) (a := Str.ofString "order") e1
        obtain ⟨tl2, s1, s2, s3⟩ : ∃ tl2, (∀ p ∈ news₁, p ∈ tl2) ∧ (∀ p ∈ own, p ∈ tl2) ∧ (∀ p ∈ tl2, p ∈ news₁ ∨ p ∈ own) := ⟨news₁ ++ own, fun p h => List.mem_append_left _ h, fun p h => List.mem_append_right _ h, fun p h => List.mem_append.mp h⟩
        have N₂ : News _ _ h tl2 := fun p hp => N₁ p ((s3 p hp).elim (fun h => List.mem_append_left _ h) (fun h => List.mem_append_right _ h))
        clear N₁
        have x1 := s1 _ hO
        have x2 := s1 _ (sub _ (List.mem_cons_of_mem _ hGl))
        generalize hxx : (bodies gs (staOf mo) (titOf mo) as).getD i Str.empty = x at F₁ b1 b2 b3
        have z6 : vd.length ≤ 48 := by have := IntsAre.length hid; omega
        k_steps
        · refine' J3_more (.head _) hoff sub DO es1 es2 es3 ?ni hxx s1 s2 ?nF ?nN ?na ?nb ?nd ?nc ?nq ?nr ?ns ?nk ?ne
          case nF => k_asm
          case nN => k_asm
          case nd => k_mem
          case ns => first | k_all | kst_allNe | kd_allNe
          case ni => omega
          case na => k_mem
          case nb => k_mem
          case nc => kcf_all
          case nq => first | k_all | kst_allNe | kd_allNe
          case nr => first | k_all | kst_allNe | kd_allNe
          case nk => exact ⟨lk.gr, rfl, lk.st, lk.ti⟩
          case ne => rfl
        · refine' J3_next (.head _) hoff sub DO es1 es2 es3 ?ni hxx s1 s2 ?nF ?nN ?na ?nb ?nc ?nq ?nr ?nk ?ne
          case nF => k_asm
          case nN => k_asm
          case ni => omega
          case na => k_mem
          case nb => k_mem
          case nc => kcf_all
          case nq => first | k_all | kst_allNe | kd_allNe
          case nr => first | k_all | kst_allNe | kd_allNe
          case nk => exact ⟨lk.gr, rfl, lk.st, lk.ti⟩
          case ne => rfl
        · refine' J3_next (.head _) hoff sub DO es1 es2 es3 ?ni hxx s1 s2 ?nF ?nN ?na ?nb ?nc ?nq ?nr ?nk ?ne
          case nF => k_asm
          case nN => k_asm
          case ni => omega
          case na => k_mem
          case nb => k_mem
          case nc => kcf_all
          case nq => first | k_all | kst_allNe | kd_allNe
          case nr => first | k_all | kst_allNe | kd_allNe
          case nk => exact ⟨lk.gr, rfl, lk.st, lk.ti⟩
          case ne => rfl
      case done =>
        clear sub lk e1 e2 ea eb F30 N30 F3 N3
        intro m₁ news₁ h tk hJ F₁ N₁
        obtain ⟨O, kO, ov, es, sub, hO, DO, es1, es2, es3, lk, e1⟩ := hJ
        obtain ⟨ta, ea⟩ := lk.st
        obtain ⟨tb, eb⟩ := lk.ti
        have z1 := StrsAre.len SB3
        have z2 := DO.length
        rw [List.length_map] at z2
        have hlen : (bodies gs (staOf mo) (titOf mo) as).length = gs.length + as.length := by simp [bodies]
        have z3 := names_len good gs.length
        rw [List.take_length] at z3
        have z4 := good.ln
        rename (PySem.Obj.data _ = _) => hw0
        have hcell := subG _ (.tail _ (.tail _ (.head _)))
        have sub' : ∀ p ∈ nw, p ∈ news₁ := fun p hp => sub _ (List.mem_cons_of_mem _ hp)
        obtain ⟨tl, N₂, cOff, keep⟩ := split_cell N₁ (sub' _ hcell) hw0
        have hO' := keep _ hO ⟨_, _, rfl⟩
        have DO' := (data_seq keep).2 DO
        have hG' := keep _ (sub' _ hG) ⟨_, _, rfl⟩
        have datG' := (data_seq keep).2 (PySem.W.DatAll.mono sub' datG)
        clear N₁ hO DO sub sub'
        replace F₁ := fr_put F₁ (a := Str.ofString "order") e1
        k_with "pyIter ref" => fail
        k_steps
        rename_i T0 g1 g2 g3 lT g4 k1 U0 g5 lU g6 g7 g8 D1 g9 o1 lo1 hs1 fs1 hi1 fi1 lD1 g10 D2 g11 o2 lo2 hs2 fs2 hi2 fi2 lD2 g12 oC F4 N4 dC
        clear fs1 hi1 fi1 fs2 hi2 fi2
        k_dflt refine' rows_iter (vs := ov) (nn := kO) (J4 (prog := PySem.Challenge.rw_ez0284_01.row.prog) (?oo :: tl) G ld (staOf mo) (titOf mo) gs as es T0 U0 D1 D2) ?hh ?href ?hl ?F ?N ?j ?turn ?done
        case hh => rfl
        case F => exact F4
        case N => exact N4
        case j => k_dflt (refine' J4_zero ?dT ?dU ?d1 ?d2 hs1 hs2 ?jk ?j1 ?j2 ?j3; (case jk => exact ⟨lk.gr, lk.dr, lk.st, lk.ti⟩); (case j1 => rfl); (case j2 => rfl); (case j3 => rfl); all_goals first | k_all | kst_allNe | kd_allNe)
        case hl => k_mem
        case href => exact refs_at DO'
        case turn =>
          clear lk e1 ea eb g2 g3 g7 g8 F4 N4 hs1 hs2
          intro i v m₁ news₁ h tk own hv hoff hl₁ hJ F₁ N₁
          obtain ⟨kT, kU, tv, uv, p1, p2, kv1, kv2, ds, tl', rfl, dT, dU, d1, d2, sub, i1, i2, S, lk, e1, e2, e3⟩ := hJ
          obtain ⟨a, ka, b, q, t1, t2, rfl, ha, he⟩ := item_at DO' hv
          have hq : q < _ := es1 _ (List.mem_of_getElem? he)
          obtain ⟨ta, ea⟩ := lk.st
          obtain ⟨tb, eb⟩ := lk.ti
          replace F₁ := fr_put (fr_put (fr_put (fr_put (fr_put (fr_put F₁ (a := Str.ofString "groups") lk.gr) (a := Str.ofString "start") ea) (a := Str.ofString "title") eb) (a := Str.ofString "told") e1) (a := Str.ofString "due") e2) (a := Str.ofString "lists") e3
          obtain ⟨tl2, s1, s2, s3⟩ : ∃ tl2, (∀ p ∈ tl', p ∈ tl2) ∧ (∀ p ∈ own, p ∈ tl2) ∧ (∀ p ∈ tl2, p ∈ tl' ∨ p ∈ own) := ⟨tl' ++ own, fun p h => List.mem_append_left _ h, fun p h => List.mem_append_right _ h, fun p h => List.mem_append.mp h⟩
          have qT : ∀ p ∈ tl2, p.1 ≠ T0 := fun p hp => (s3 p hp).elim (dT p) (fun hp => hoff p hp T0 (by simp))
          have qU : ∀ p ∈ tl2, p.1 ≠ U0 := fun p hp => (s3 p hp).elim (dU p) (fun hp => hoff p hp U0 (by simp))
          have q1 : ∀ p ∈ tl2, p.1 ≠ D1 := fun p hp => (s3 p hp).elim (d1 p) (fun hp => hoff p hp D1 (by simp))
          have q2 : ∀ p ∈ tl2, p.1 ≠ D2 := fun p hp => (s3 p hp).elim (d2 p) (fun hp => hoff p hp D2 (by simp))
          have N₂ : News _ _ h ((D2, p2) :: (D1, p1) :: (U0, W.listOf uv.toArray kU) :: (T0, W.listOf tv.toArray kT) :: tl2) := fun p hp => N₁ p (by
            rcases List.mem_cons.mp hp with e | hp
            · exact List.mem_append_left _ (List.mem_cons.mpr (.inl e))
            rcases List.mem_cons.mp hp with e | hp
            · exact List.mem_append_left _ (List.mem_cons_of_mem _ (List.mem_cons.mpr (.inl e)))
            rcases List.mem_cons.mp hp with e | hp
            · exact List.mem_append_left _ (List.mem_cons_of_mem _ (List.mem_cons_of_mem _ (List.mem_cons.mpr (.inl e))))
            rcases List.mem_cons.mp hp with e | hp
            · exact List.mem_append_left _ (List.mem_cons_of_mem _ (List.mem_cons_of_mem _ (List.mem_cons_of_mem _ (List.mem_cons.mpr (.inl e)))))
            · rcases s3 p hp with h | h
              · exact List.mem_append_left _ (List.mem_cons_of_mem _ (List.mem_cons_of_mem _ (List.mem_cons_of_mem _ (List.mem_cons_of_mem _ h))))
              · exact List.mem_append_right _ h)
          clear N₁
          have x1 := s1 _ (sub _ (List.mem_cons_of_mem _ ha))
          have x2 := s1 _ (sub _ (.head _))
          have x3 := s1 _ (sub _ (List.mem_cons_of_mem _ hG'))
          have hi : i < ov.length := (List.getElem?_eq_some_iff.mp hv).1
          have y1 := S.tt.length
          have y2 := S.uu.length
          have y3 := S.ln
          have y4 := S.n1
          have y5 := S.n2
          have y6 := datG.length
          rw [List.length_map] at y6
          have y7 : es.length ≤ 26 := by omega
          rcases body_at (sta := staOf mo) (tit := titOf mo) good as1 hq with ⟨hlt, eq⟩ | ⟨hge, n, n0, n1, han, eq⟩
          · rw [eq] at x1
            have ok := rfields_ok good hst hti hlt
            obtain ⟨f0, f1, f2, f3, f4, f5⟩ := rfields_at gs (staOf mo) (titOf mo) q
            generalize rfields gs (staOf mo) (titOf mo) q = fs at x1 ok f0 f1 f2 f3 f4 f5
            have w1 : fs.length ≤ 100 := by have := ok.ln; omega
            have w2 : (fs.map (·.length)).sum ≤ 1000 := by have := ok.sm; omega
            have w3 := rbody_codes ok
            k_steps
            refine' J4_rte (b := b) (wG := wG) ?hl hoff dT dU d1 d2 sub i2 S good he hlt s1 s2 hst.2 hti.2 ok f0 f1 f2 f3 f4 ?wG ?hu ?jF ?jN ?m1 ?m2 ?m3 ?m4 ?m5 ?i1 ?n0 ?n1 ?n3 ?n2 ?n4 ?z0 ?z1 ?z2 ?z3 ?z4 ?lk ?e1 ?e2 ?e3
            case jF => k_asm
            case jN => k_asm
            case hl => exact List.mem_cons_of_mem _ hO'
            case wG => exact y6
            case hu => with_reducible assumption
            case i1 => with_reducible assumption
            case m1 => k_mem
            case m2 => k_mem
            case m3 => k_mem
            case m4 => k_mem
            case m5 => kcf_all
            case n0 => k_mem
            case n1 => k_mem
            case n3 => k_mem
            case n2 => k_mem
            case n4 => k_mem
            case lk => exact ⟨rfl, lk.dr, ⟨_, rfl⟩, ⟨_, rfl⟩⟩
            case e1 => rfl
            case e2 => rfl
            case e3 => rfl
            all_goals exact ⟨by k_ne, by k_ne, by k_ne, by k_ne, by first | kst_allNe | k_all | kd_allNe⟩
          · rw [eq] at x1
            have ok := wfields_ok n0 n1
            obtain ⟨f0, f1, f2, f3, f4, f5⟩ := wfields_at n0 n1
            generalize wfields (wname n) = fs at x1 ok f0 f1 f2 f3 f4 f5
            have w1 : fs.length ≤ 100 := by have := ok.ln; omega
            have w2 : (fs.map (·.length)).sum ≤ 1000 := by have := ok.sm; omega
            have w3 := wbody_codes ok
            have w4 : 5 ≤ fs.length := by omega
            k_steps
            refine' J4_wpl (b := b) ?whl hoff dT dU d1 d2 sub i1 S he n0 n1 hge han s1 s2 ok f0 f1 f2 f3 f4 ?wjF ?wjN ?wm1 ?wm2 ?wm3 ?wm4 ?wm5 ?wi2 ?wr0 ?wr2 ?wr4 ?wz0 ?wz2 ?wz4 ?wlk ?we1 ?we2 ?we3
            case wjF => k_asm
            case wjN => k_asm
            case whl => exact List.mem_cons_of_mem _ hO'
            case wi2 => with_reducible assumption
            case wm1 => k_mem
            case wm2 => k_mem
            case wm3 => k_mem
            case wm4 => k_mem
            case wm5 => kcf_all
            case wr0 => k_mem
            case wr2 => k_mem
            case wr4 => k_mem
            case wlk => exact ⟨rfl, lk.dr, ⟨_, rfl⟩, ⟨_, rfl⟩⟩
            case we1 => rfl
            case we2 => rfl
            case we3 => rfl
            all_goals exact ⟨by k_ne, by k_ne, by k_ne, by k_ne, by first | kst_allNe | k_all | kd_allNe⟩
        case done =>
          clear lk e1 ea eb g2 g3 g7 g8 F4 N4 hs1 hs2
          intro m₁ news₁ h tk hJ F₁ N₁
          obtain ⟨kT, kU, tv, uv, p1, p2, kv1, kv2, ds, tl', rfl, dT, dU, d1, d2, sub, i1, i2, S, lk, e1, e2, e3⟩ := hJ
          replace F₁ := fr_put (fr_put (fr_put (fr_put F₁ (a := Str.ofString "groups") lk.gr) (a := Str.ofString "told") e1) (a := Str.ofString "due") e2) (a := Str.ofString "lists") e3
          have es3' : ∀ j, j < gs.length + as.length → ∃ b, (b, j) ∈ es := fun j hj => es2 j (by omega)
          have LL := fun k hk => S.lists z2 es3' (k := k) hk
          have PP := fun y hy => S.places good z2 es3' as2 (y := y) hy
          have y3 := S.ln
          k_steps
          rename_i F5
          have oT : ∀ p ∈ (D2, p2) :: (D1, p1) :: tl', p.1 ≠ T0 := List.forall_mem_cons.mpr ⟨by k_ne, List.forall_mem_cons.mpr ⟨by k_ne, dT⟩⟩
          have oU : ∀ p ∈ (D2, p2) :: (D1, p1) :: tl', p.1 ≠ U0 := List.forall_mem_cons.mpr ⟨by k_ne, List.forall_mem_cons.mpr ⟨by k_ne, dU⟩⟩
          have up : ∀ p ∈ tl', p ∈ (D2, p2) :: (D1, p1) :: tl' := fun p hp => List.mem_cons_of_mem _ (List.mem_cons_of_mem _ hp)
          have N5 : News _ _ h ((U0, W.listOf uv.toArray kU) :: (T0, W.listOf tv.toArray kT) :: (D2, p2) :: (D1, p1) :: tl') := fun p hp => N₁ p (by
            rcases List.mem_cons.mp hp with e | hp
            · exact List.mem_cons_of_mem _ (List.mem_cons_of_mem _ (List.mem_cons.mpr (.inl e)))
            rcases List.mem_cons.mp hp with e | hp
            · exact List.mem_cons_of_mem _ (List.mem_cons_of_mem _ (List.mem_cons_of_mem _ (List.mem_cons.mpr (.inl e))))
            rcases List.mem_cons.mp hp with e | hp
            · exact List.mem_cons.mpr (.inl e)
            rcases List.mem_cons.mp hp with e | hp
            · exact List.mem_cons_of_mem _ (List.mem_cons.mpr (.inl e))
            · exact List.mem_cons_of_mem _ (List.mem_cons_of_mem _ (List.mem_cons_of_mem _ (List.mem_cons_of_mem _ hp))))
          clear N₁
          k_dflt refine' enum_iter (vs := wG) (nn := kG) (J5 ((D2, p2) :: (D1, p1) :: tl') T0 U0 D1) ?r1 ?r2 ?r3 ?r4 ?hl ?F ?N ?j ?turn ?done
          case r1 => rfl
          case r2 => rfl
          case r3 => rfl
          case r4 => rfl
          case F => exact F5
          case N => exact N5
          case hl => exact List.mem_cons_of_mem _ (List.mem_cons_of_mem _ (up _ (sub _ (List.mem_cons_of_mem _ hG'))))
          case j => exact ⟨kT, kU, tv, uv, ds, _, rfl, oT, oU, fun p h => h, PySem.W.DatAll.mono up S.tt, PySem.W.DatAll.mono up S.uu, S.ok, by omega, rfl, rfl, rfl⟩
          case turn =>
            clear F5 N5 lk e1 e2 e3 g12 oT oU
            intro i t v m₂ news₂ h tk own hv hoff hl₁ hJ F₁ N₁
            obtain ⟨kT5, kU5, tv5, uv5, ds5, tl5, rfl, dT5, dU5, sub5, tt5, uu5, ok5, ln5, e1, e2, e3⟩ := hJ
            obtain ⟨g, kg, us, rfl, hg, SU, hi⟩ := group_at datG' hv
            obtain ⟨a, q, us2, hv1, ha, SU2⟩ := LL i hi
            replace F₁ := fr_put (fr_put (fr_put F₁ (a := Str.ofString "told") e1) (a := Str.ofString "due") e2) (a := Str.ofString "lists") e3
            obtain ⟨tl2, s1, s2, s3⟩ : ∃ tl2, (∀ p ∈ tl5, p ∈ tl2) ∧ (∀ p ∈ own, p ∈ tl2) ∧ (∀ p ∈ tl2, p ∈ tl5 ∨ p ∈ own) := ⟨tl5 ++ own, fun p h => List.mem_append_left _ h, fun p h => List.mem_append_right _ h, fun p h => List.mem_append.mp h⟩
            have qT : ∀ p ∈ tl2, p.1 ≠ T0 := fun p hp => (s3 p hp).elim (dT5 p) (fun hp => hoff p hp T0 (by simp))
            have qU : ∀ p ∈ tl2, p.1 ≠ U0 := fun p hp => (s3 p hp).elim (dU5 p) (fun hp => hoff p hp U0 (by simp))
            have N₂ : News _ _ h ((U0, W.listOf uv5.toArray kU5) :: (T0, W.listOf tv5.toArray kT5) :: tl2) := fun p hp => N₁ p (by
              rcases List.mem_cons.mp hp with e | hp
              · exact List.mem_append_left _ (List.mem_cons.mpr (.inl e))
              rcases List.mem_cons.mp hp with e | hp
              · exact List.mem_append_left _ (List.mem_cons_of_mem _ (List.mem_cons.mpr (.inl e)))
              · rcases s3 p hp with h | h
                · exact List.mem_append_left _ (List.mem_cons_of_mem _ (List.mem_cons_of_mem _ h))
                · exact List.mem_append_right _ h)
            clear N₁
            have up5 : ∀ p ∈ tl', p ∈ tl5 := fun p hp => sub5 p (up p hp)
            have x1 := s1 _ (sub5 _ (List.mem_cons_of_mem _ (List.mem_cons.mpr (.inl rfl))))
            have x2 := s1 _ (sub5 _ (.head _))
            have x3 := s1 _ (up5 _ (sub _ (.head _)))
            have x4 := s1 _ (up5 _ ha)
            have x5 := s1 _ (up5 _ (sub _ (List.mem_cons_of_mem _ hg)))
            have v1 := tt5.length
            have v2 := uu5.length
            have v3 := StrsAre.len SU
            have v4 := StrsAre.len SU2
            have v5 := group_len good i
            have v6 := datG.length
            rw [List.length_map] at v6
            k_steps
            unfold SrcS
            refine' LCg.CompSrc.ledger rfl ?sF ?sN ?sm ?sz ?sr
            case sF => k_asm
            case sN => k_asm
            case sm => k_mem
            case sz => rw [sizeLine_eq, List.size_toArray]; omega
            case sr =>
              intro g9
              refine' comp_dat (base := tl5) (n := q) gD SU2 ?hm ?tu ?fi
              case hm => k_mem
              case tu =>
                intro y t' I oI C9 oC9 D m3 ys h9 tk9 nw E' hy hC hx F9 N9 off9 ne9 sub9
                have y1 := sub9 _ (by k_mem : (D2, p2) ∈ _)
                have y2 := sub9 _ (List.mem_cons_of_mem _ (List.mem_cons_of_mem _ (List.mem_cons_of_mem _ x3)))
                have y3 := PySem.W.DatIn.mono up5 (PP y (flat_at hi y hy))
                k_steps
                refine' el_one ?jF ?jN ?l1 off9 sub9 ?hv
                case jF => k_asm
                case jN => k_asm
                case l1 => with_reducible assumption
                case hv => exact y3
              case fi =>
                intro ys ex hex hD D h9 tk9 F9 N9 o9
                obtain ⟨fr1, Nf, fo1, hd1⟩ := after_comp N9 o9 hex hD
                have g1T : ∀ q ∈ fr1, q.1 ≠ T0 := fun q hq => (fo1 q hq (T0, W.listOf tv5.toArray kT5) (by k_mem)).symm
                have g1U : ∀ q ∈ fr1, q.1 ≠ U0 := fun q hq => (fo1 q hq (U0, W.listOf uv5.toArray kU5) (by k_mem)).symm
                have g1 : ∀ q ∈ fr1, ∀ p ∈ tl2, p.1 ≠ q.1 := fun q hq p hp => fo1 q hq p (List.mem_cons_of_mem _ (List.mem_cons_of_mem _ (List.mem_cons_of_mem _ hp)))
                obtain ⟨tl3, r1, r2, r3⟩ : ∃ tl3, (∀ p ∈ fr1, p ∈ tl3) ∧ (∀ p ∈ tl2, p ∈ tl3) ∧ (∀ p ∈ tl3, p ∈ fr1 ∨ p ∈ tl2) := ⟨fr1 ++ tl2, fun p h => List.mem_append_left _ h, fun p h => List.mem_append_right _ h, fun p h => List.mem_append.mp h⟩
                have N3 : News _ _ h9 ((U0, W.listOf uv5.toArray kU5) :: (T0, W.listOf tv5.toArray kT5) :: tl3) := fun p hp => Nf p (by
                  rcases List.mem_cons.mp hp with e | hp
                  · exact List.mem_append_right _ (List.mem_cons_of_mem _ (List.mem_cons.mpr (.inl e)))
                  rcases List.mem_cons.mp hp with e | hp
                  · exact List.mem_append_right _ (List.mem_cons_of_mem _ (List.mem_cons_of_mem _ (List.mem_cons.mpr (.inl e))))
                  · rcases r3 p hp with h | h
                    · exact List.mem_append_left _ h
                    · exact List.mem_append_right _ (List.mem_cons_of_mem _ (List.mem_cons_of_mem _ (List.mem_cons_of_mem _ h))))
                have qT3 : ∀ p ∈ tl3, p.1 ≠ T0 := fun p hp => (r3 p hp).elim (g1T p) (qT p)
                have qU3 : ∀ p ∈ tl3, p.1 ≠ U0 := fun p hp => (r3 p hp).elim (g1U p) (qU p)
                have x6 := r2 _ x5
                clear N9 Nf o9 fo1 qT qU x1 x2 x4
                k_steps
                unfold SrcS
                refine' LCg.CompSrc.ledger rfl ?sF ?sN ?sm ?sz ?sr
                case sF => k_asm
                case sN => k_asm
                case sm => k_mem
                case sz => rw [sizeLine_eq, List.size_toArray]; omega
                case sr =>
                  intro g8
                  refine' comp_dat (base := tl5) (n := kg) gD SU ?hm ?tu ?fi
                  case hm => k_mem
                  case tu =>
                    intro y t' I oI C9 oC9 D m3 ys h9 tk9 nw E' hy hC hx F9 N9 off9 ne9 sub9
                    rcases name_cases (flat_names good (flat_at hi y hy)) with rfl | ⟨n, n0, n1, rfl⟩
                    · k_steps
                      refine' el_one ?jF ?jN ?l1 off9 sub9 ?hv
                      case jF => k_asm
                      case jN => k_asm
                      case l1 => with_reducible assumption
                      case hv => rw [if_pos rfl]; exact .none
                    · k_steps
                      refine' el_two ?jF ?jN ?l0 ?l1 off9 sub9 n0 n1 rfl ?hu
                      case jF => k_asm
                      case jN => k_asm
                      case l0 => with_reducible assumption
                      case l1 => with_reducible assumption
                      case hu => with_reducible assumption
                  case fi =>
                    intro ys2 ex2 hex2 hD2 D9 h9 tk9 F9 N9 o9
                    obtain ⟨fr2, Nf, fo2, hd2⟩ := after_comp N9 o9 hex2 hD2
                    have g2T : ∀ q ∈ fr2, q.1 ≠ T0 := fun q hq => (fo2 q hq (T0, _) (by k_mem)).symm
                    have g2U : ∀ q ∈ fr2, q.1 ≠ U0 := fun q hq => (fo2 q hq (U0, _) (by k_mem)).symm
                    have g2' : ∀ q ∈ fr2, ∀ p ∈ tl3, p.1 ≠ q.1 := fun q hq p hp => fo2 q hq p (List.mem_cons_of_mem _ (List.mem_cons_of_mem _ hp))
                    obtain ⟨tl4, u1, u2, u3⟩ : ∃ tl4, (∀ p ∈ fr2, p ∈ tl4) ∧ (∀ p ∈ tl3, p ∈ tl4) ∧ (∀ p ∈ tl4, p ∈ fr2 ∨ p ∈ tl3) := ⟨fr2 ++ tl3, fun p h => List.mem_append_left _ h, fun p h => List.mem_append_right _ h, fun p h => List.mem_append.mp h⟩
                    have N4 : News _ _ h9 ((U0, W.listOf uv5.toArray kU5) :: (T0, W.listOf (tv5.toArray.push (Value.ref D)) (kT5 + 1)) :: tl4) := fun p hp => Nf p (by
                      rcases List.mem_cons.mp hp with e | hp
                      · exact List.mem_append_right _ (List.mem_cons.mpr (.inl e))
                      rcases List.mem_cons.mp hp with e | hp
                      · exact List.mem_append_right _ (List.mem_cons_of_mem _ (List.mem_cons.mpr (.inl e)))
                      · rcases u3 p hp with h | h
                        · exact List.mem_append_left _ h
                        · exact List.mem_append_right _ (List.mem_cons_of_mem _ (List.mem_cons_of_mem _ h)))
                    have qT4 : ∀ p ∈ tl4, p.1 ≠ T0 := fun p hp => (u3 p hp).elim (g2T p) (qT3 p)
                    have qU4 : ∀ p ∈ tl4, p.1 ≠ U0 := fun p hp => (u3 p hp).elim (g2U p) (qU3 p)
                    clear N9 Nf o9 fo2 qT3 qU3
                    k_steps
                    refine' J5_next ?hl hoff dT5 dU5 sub5 tt5 uu5 ok5 ln5 s1 s2 g1T g1U g1 g2T g2U ?g2 hd1 hd2 ?ok ?jF ?jN ?m1 ?m2 ?m3 ?m4 ?m5 ?e1 ?e2 ?e3
                    case jF => k_asm
                    case jN => k_asm
                    case hl => exact up _ (sub _ (List.mem_cons_of_mem _ hG'))
                    case g2 => exact fun q hq p hp => g2' q hq p (r2 p hp)
                    case ok => exact gs_ok fun y hy => flat_names good (flat_at hi y hy)
                    case m1 => k_mem
                    case m2 => k_mem
                    case m3 => exact fun p hp => List.mem_cons_of_mem _ (List.mem_cons_of_mem _ (u2 p (r1 p hp)))
                    case m4 => exact fun p hp => List.mem_cons_of_mem _ (List.mem_cons_of_mem _ (u1 p hp))
                    case m5 => exact fun p hp => List.mem_cons_of_mem _ (List.mem_cons_of_mem _ (u2 p (r2 p hp)))
                    case e1 => rfl
                    case e2 => rfl
                    case e3 => rfl
          case done =>
            clear F5 N5 lk e1 e2 e3 oT oU
            intro m₂ news₂ h tk hJ F₁ N₁
            obtain ⟨kT5, kU5, tv5, uv5, ds5, tl5, rfl, dT5, dU5, sub5, tt5, uu5, ok5, ln5, e1, e2, e3⟩ := hJ
            replace F₁ := fr_put (fr_put F₁ (a := Str.ofString "told") e1) (a := Str.ofString "due") e2
            have tt6 := PySem.W.DatAll.mono (fun p hp => List.mem_cons_of_mem (U0, W.listOf uv5.toArray kU5) (List.mem_cons_of_mem (T0, W.listOf tv5.toArray kT5) hp)) tt5
            have uu6 := PySem.W.DatAll.mono (fun p hp => List.mem_cons_of_mem (U0, W.listOf uv5.toArray kU5) (List.mem_cons_of_mem (T0, W.listOf tv5.toArray kT5) hp)) uu5
            k_steps)
end
end Mine
theorem PySem.Challenge.cw_ez0284_01_holds : PySem.Challenge.rw_ez0284_01.Holds :=
  Mine.law_holds
