import PyProof.Rows.All
import Wide.All
import OpenK.AllK
import Wide.FinOn
import Lean
import PySem.Challenge.RW_bb0048_01
open PySem PySem.W PyProof.Rows
set_option Elab.async false
set_option linter.all false
namespace Mine
section
set_option maxRecDepth 100000
set_option maxHeartbeats 0
/- the kit's head lays aside the tables of codes of three defs; do_indent's generator expression asks for a fourth (268) -/
local macro_rules | `(tactic| o_head (kmHook $K $as $e $_)) => `(tactic| o_head (kmHook $K $as $e [244, 225, 233, 268] : Hook))
open_top hd1 for PySem.Challenge.rw_bb0048_01
end
/-- the head has set the walk's switch: back to where a def is walked -/
theorem walk_off : True := by
  w_top off
  trivial
end Mine
section
open PySem PySem.W PyProof.Rows.LCg PySem.Spec PySem.Calls PyProof.Rows
set_option maxRecDepth 100000
set_option maxHeartbeats 0
namespace Mine
section
/-- what a call of the def at f says: behind it R holds of the ledger and of what it hands back -/
def Says (w : World) (f : Addr) (D U : Nat) (vs : List Value) (news : List (Addr × Obj)) (R : List (Addr × Obj) → Value → Prop) : Prop :=
  ∀ (p : Program) (loose : List Str) (mean : ExcName → Option Value) (mg mb : Str → Option Value)
    (dp un : Nat) (gd : Option (List Code)) (cn : Str) (cs : Scope) (a : Addr) (ccd : Value) (cl : List (Str × Addr)) (outer : List Env) (A₀ : Around) (base h₀ : Heap) (L : Addr) (m : Str → Option Value) (s : Shared) (Q E : Value → Shared → Prop),
    Below A₀ base outer h₀ → Fr h₀ L s.heap m → (hd1.heap_39 w.params).In h₀ → News h₀ L s.heap news → Top p loose mean mg mb h₀ → cs.kind = .function → dp + D < recursionLimit → un + U < cLine →
    (∀ v news' h' tk', R news' v → Fr h₀ L h' m → News h₀ L h' news' → Q v { s with heap := h', toks := tk' }) →
    wpAny (model PySem.Challenge.rw_bb0048_01.row.prog w) (ktrTop dp un gd cn cs L a ccd cl outer) (call (.ref f) vs) Q E s

section
variable {prog : Program} {w : World} {A : Around} {E : Value → Shared → Prop} {s : Shared} {h₀ : Heap} {L D : Addr} {m : Str → Option Value} {news news' : List (Addr × Obj)}
theorem pop_first {y : Value} {q : List Value} {n : Nat} {u : Tok} {Q : Value → Shared → Prop} (F : Fr h₀ L s.heap m) (N : News h₀ L s.heap news) (U : Upd D (listOf (y :: q).toArray n) (listOf q.toArray (n + 1)) news news')
    (hz : q.length < 1000) (h : ∀ h', Fr h₀ L h' m → News h₀ L h' news' → Q y { s with heap := h' }) : wpAny (model prog w) A (call (.builtin "list.pop") [.ref D, .int 0 u]) Q E s :=
  kl_popAt (its := (y :: q).toArray) (p := []) (q := q) (y := y) F N (by decide) (k := 0) (by simp [seqIndex?]; try omega) rfl (by simpa using U) (by simp [sizeLine_eq]; omega) h
end
theorem subNil {news : List (Addr × Obj)} : ∀ p ∈ ([] : List (Addr × Obj)), p ∈ news := fun _ h => nomatch h
theorem subCons {q : Addr × Obj} {l news : List (Addr × Obj)} (h : q ∈ news) (r : ∀ p ∈ l, p ∈ news) : ∀ p ∈ q :: l, p ∈ news := List.forall_mem_cons.mpr ⟨h, r⟩
theorem subTail {q : Addr × Obj} {l news : List (Addr × Obj)} (r : ∀ p ∈ l, p ∈ news) : ∀ p ∈ l, p ∈ q :: news := fun p hp => .tail _ (r p hp)
theorem subSelf {l : List (Addr × Obj)} : ∀ p ∈ l, p ∈ l := fun _ h => h
theorem fdiv_range {q k : Int} (h0 : 0 ≤ q) (h1 : q < 10 ^ 15) (hk : 0 < k) : 0 ≤ q.fdiv k ∧ q.fdiv k < 10 ^ 15 := by
  rw [Int.fdiv_eq_ediv_of_nonneg _ (by omega)]
  have := Int.ediv_le_self k h0
  exact ⟨Int.ediv_nonneg h0 (by omega), by omega⟩
section
variable {prog : Program} {w : World} {A : Around} {E : Value → Shared → Prop} {s : Shared} {h₀ : Heap} {L : Addr} {m : Str → Option Value} {news : List (Addr × Obj)}
theorem memList {a : Addr} {its : Array Value} {n : Nat} (N : News h₀ L s.heap news) (ha : (a, listOf its n) ∈ news) : s.heap.IsList a its := ⟨_, (N _ ha).1, rfl, n, rfl⟩
theorem add_L {a b : Addr} {vs ws : List Value} {n k : Nat} {Q : Value → Shared → Prop} (F : Fr h₀ L s.heap m) (N : News h₀ L s.heap news) (ha : (a, listOf vs.toArray n) ∈ news) (hb : (b, listOf ws.toArray k) ∈ news)
    (hsz : vs.length + ws.length ≤ 1000) (h : ∀ l' h', Fr h₀ L h' m → News h₀ L h' ((l', listOf (vs ++ ws).toArray 0) :: news) → (∀ p ∈ news, p.1 < l') → Q (.ref l') { s with heap := h' }) :
    wpAny (model prog w) A (binaryOp .Add (.ref a) (.ref b)) Q E s :=
  add_arrays F N (memList N ha) (memList N hb) (fun h' F' N' => h _ h' F' N' fun p hp => Heap.lt_size (N p hp).1) (by simp [sizeLine_eq]; omega)
end
theorem mapNorm1 {x y : Str} (hxy : y ≠ x) (u b b' v : Option Value) (m₀ : Str → Option Value) :
    (fun z => if z = y then b' else if z = x then v else if z = x then u else if z = y then b else m₀ z) = fun z => if z = x then v else if z = y then b' else m₀ z := by
  funext z
  by_cases h2 : z = y
  · subst h2; simp [hxy]
  · by_cases h1 : z = x <;> simp [h1, h2]
    subst h1; simp [h2]
theorem mapSelf (f : Str → Option Value) (x : Str) : f = fun z => if z = x then f x else f z := by
  funext z
  by_cases h : z = x <;> simp [h]
theorem datAt {news : List (Addr × Obj)} : ∀ {vs : List Value} {ds : List Dat}, DatAll news vs ds → ∀ {i : Nat} {v : Value}, vs[i]? = some v → ∃ d, ds[i]? = some d ∧ DatIn news v d
  | _, _, .nil, i, v, h => by simp at h
  | _, _, .cons (d := d) hd r, 0, v, h => by
    simp only [List.getElem?_cons_zero, Option.some.injEq] at h
    subst h
    exact ⟨d, rfl, hd⟩
  | _, _, .cons hd r, i + 1, v, h => by
    simp only [List.getElem?_cons_succ] at h ⊢
    exact datAt r h
theorem allLt_app {d : Addr} : ∀ {l r : List (Addr × Obj)}, AllLt d (l ++ r) ↔ AllLt d l ∧ AllLt d r
  | [], r => by simp [AllLt]
  | p :: l, r => by simp only [List.cons_append, AllLt, allLt_app (l := l), and_assoc]
theorem allLt_ne {d : Addr} {l : List (Addr × Obj)} (h : AllLt d l) : ∀ p ∈ l, p.1 ≠ d := fun p hp => Nat.ne_of_lt (ktn_ltOf h p hp)
theorem ownOff_cons {own : List (Addr × Obj)} {d : Addr} {o : Obj} {l : List (Addr × Obj)} (h : AllLt d own) (r : OwnOff own (l.map (·.1))) : OwnOff own (((d, o) :: l).map (·.1)) := fun p hp b hb => by
  rcases List.mem_cons.mp hb with rfl | hb
  · exact allLt_ne h p hp
  · exact r p hp b hb
theorem ownOff_tail {own : List (Addr × Obj)} {q : Addr × Obj} {l : List (Addr × Obj)} (r : OwnOff own ((q :: l).map (·.1))) : OwnOff own (l.map (·.1)) := fun p hp b hb => r p hp b (.tail _ hb)
theorem ownOff_keep {own : List (Addr × Obj)} {d : Addr} {o o' : Obj} {l l' : List (Addr × Obj)} (r : OwnOff own (((d, o) :: l).map (·.1))) (r' : OwnOff own (l.map (·.1)) → OwnOff own (l'.map (·.1))) : OwnOff own (((d, o') :: l').map (·.1)) := fun p hp b hb => by
  rcases List.mem_cons.mp hb with rfl | hb
  · exact r p hp _ (.head _)
  · exact r' (ownOff_tail r) p hp b hb
theorem subApp {l r : List (Addr × Obj)} : ∀ p ∈ r, p ∈ l ++ r := fun _ hp => List.mem_append.mpr (.inr hp)
theorem subAppL {l r : List (Addr × Obj)} : ∀ p ∈ l, p ∈ l ++ r := fun _ hp => List.mem_append.mpr (.inl hp)
theorem filterTake {α : Type} (p : α → Bool) {l : List α} {j : Nat} {a : α} (h : l[j]? = some a) : (l.take (j + 1)).filter p = (l.take j).filter p ++ (if p a = true then [a] else []) := by
  rw [List.take_add_one, h]
  simp only [Option.toList, List.filter_append, List.filter_cons, List.filter_nil]
end
section
local macro_rules | `(tactic| k_all) => `(tactic| with_reducible assumption)
local macro_rules | `(tactic| units_room) => `(tactic| (have hcL9 := cLine_is; (try simp only [units_under_make, units_in1, units_deeper, Around.mark_units, units_caller] at *); (try dsimp only [ktrTop] at *); omega))
local macro_rules | `(tactic| k_sub) => `(tactic| first | with_reducible exact subSelf | with_reducible exact subNil | (with_reducible (refine subCons ?a9 ?b9; (case a9 => k_mem); k_sub)) | with_reducible exact subApp | with_reducible exact subAppL | with_reducible assumption | (with_reducible refine subTail ?_; k_sub))
local macro_rules | `(tactic| walk_at "call builtin:list.pop") => `(tactic| (k_here; k_dflt (refine' pop_first ?F ?N ?U ?z ?_; (case F => k_asm); (case N => k_asm); (case U => k_upd); (case z => omega)); intro h' F' N'; (try dsimp only [List.nil_append, List.cons_append] at N')))
local macro_rules | `(tactic| walk_at "binaryOp Add ref ref") => `(tactic| (k_here; k_dflt (refine' add_L ?F ?N ?a ?b ?z ?_; (case F => k_asm); (case N => k_asm); (case a => k_mem); (case b => k_mem); (case z => (try simp only [List.length_append, List.length_cons, List.length_nil, List.length_replicate]); omega)); intro l' h' F' N' l1; (try k_lt l1); (try simp only [allLt_app] at l1)))
local macro_rules | `(tactic| k_mem) => `(tactic| first | with_reducible exact List.mem_cons_self | (with_reducible refine List.mem_cons_of_mem _ ?_; k_mem) | (with_reducible refine List.mem_append.mpr (Or.inl ?_); k_mem) | (with_reducible refine List.mem_append.mpr (Or.inr ?_); k_mem) | with_reducible assumption)
local macro_rules | `(tactic| walk_at "own_off") => `(tactic| first | with_reducible assumption | (refine ownOff_cons (by tbn_find) ?_; walk_at "own_off") | exact ownOff_tail (by with_reducible assumption))
local macro_rules | `(tactic| walk_at "pick") => `(tactic| first | exact Pick.head | (apply Pick.tail; walk_at "pick"))
local macro_rules | `(tactic| walk_at "room") => `(tactic| ((try simp only [depth_under_make, depth_under_kw, depth_in1, depth_deeper, depth_caller, units_in1, units_deeper, Around.mark_units, units_caller] at *); (try dsimp only [ktrTop] at *); omega))
local macro_rules | `(tactic| walk_at "enter") => `(tactic| k_dflt (first
  | (refine' code_def ?k1 ?k2 ?k3 ?k4 ?k5 ?kA ?kF ?kK ?k6 ?k7 ?k8 ?k9 ?kB ?_ ?c2 ?c3 ?c4 ?c5; (case kA => exact rfl); (case kF => exact rfl); (case kK => first | assumption | exact rfl); (case k1 => k_asm); (case k2 => k_asm); (case k3 => k_asm); (case k4 => k_asm); (case k5 => k_asm); (case k6 => k_is); (case k7 => k_is); (case k8 => first | walk_at "room" | ktr_room); (case k9 => first | exact BindsTo.of_eq rfl | exact binds_K (by k_in) rfl (by k_is) rfl rfl rfl); (case c5 => decide); (case kB => exact locs rfl); (case c2 => exact rfl); (case c3 => exact rfl); (case c4 => exact rfl); k_whole; intro g' L' h' FG' F' N' B' X' T'; (try dsimp only); (try k_lift B'); (try k_fold))
  | (refine' code_defC ?k1 ?k2 ?k3 ?k4 ?k5 ?kA ?kF ?kK ?k6 ?k7 ?k8 ?k9 ?kB ?kD ?_ ?c2 ?c3 ?c4; (case kA => exact rfl); (case kF => exact rfl); (case kK => first | assumption | exact rfl); (case k1 => k_asm); (case k2 => k_asm); (case k3 => k_asm); (case k4 => k_asm); (case k5 => k_asm); (case k6 => k_is); (case k7 => k_is); (case k8 => first | walk_at "room" | ktr_room); (case k9 => first | exact BindsTo.of_eq rfl | exact binds_K (by k_in) rfl (by k_is) rfl rfl rfl); (case kB => exact rfl); (case kD => decide +kernel); (case c2 => exact rfl); (case c3 => exact rfl); (case c4 => exact rfl); k_whole; intro g' L' h' tk' cells' FG' F' N' Y' B' X' T' l1; (have l2 := fun p hp => Nat.lt_succ_of_lt (l1 p hp)); (have l3 := fun p hp => Nat.lt_succ_of_lt (l2 p hp)); (have l4 := fun p hp => Nat.lt_succ_of_lt (l3 p hp)); (try k_lt l1); (try k_lt l2); (try k_lt l3); (try k_lt l4); k_cells Y'; (try simp only [List.cons_append, List.nil_append] at N'); (try dsimp only); (try k_lift B'); (try k_fold))))
local macro_rules | `(tactic| walk_at "callWith ref") => `(tactic| (k_here; (with_reducible show wpAny _ _ (callWith _ (Value.ref _) _ (backTo _ (starEach (_ :: _) _)) []) _ _ _); k_dflt (refine' callWith_K ?k1 ?k2 ?_; (case k1 => k_asm); (case k2 => k_is); k_whole)))
section
theorem take_K (w : World) (D S : Addr) (q : Int) (t : Tok) (n1 n2 : Nat) (vs : List Value) (ns : List Int) (rest : List (Addr × Obj)) (hi : IntsAre vs ns)
  (hDS : @Ne Nat D S) (hDr : ∀ p ∈ rest, p.1 ≠ D) (hSr : ∀ p ∈ rest, p.1 ≠ S)
  (k : Int) (tk : Tok) (hk0 : 0 < k) (hk1 : k < 100) (hq0 : 0 ≤ q) (hq1 : q < 10 ^ 15) (hns : ns.length ≤ 10) (hnb : ∀ n ∈ ns, 0 ≤ n ∧ n < 10 ^ 15) :
  Says w 309 5 300 [.ref D, .int k tk] ((D, listOf #[.int q t, .ref S] n1) :: (S, listOf vs.toArray n2) :: rest) (fun news' v =>
    ∃ (r q' : Int) (t1 t2 : Tok) (n1' n2' : Nat) (vs' : List Value) (ns' : List Int), news' = (D, listOf #[.int q' t1, .ref S] n1') :: (S, listOf vs'.toArray n2') :: rest ∧ v = .int r t2 ∧ IntsAre vs' ns' ∧ 0 ≤ r ∧ r < k ∧ 0 ≤ q' ∧ q' < 10 ^ 15 ∧ ns'.length ≤ 10 ∧ (∀ n ∈ ns', 0 ≤ n ∧ n < 10 ^ 15)) := by
  intro p loose mean mg mb dp un gd cn cs a ccd cl outer A₀ base h₀ L m s Q E B F X N T hk hd hu hret
  revert X; k_fill; intro X
  cases hi with
  | nil =>
    refine wpAny_call ?_
    k_dflt cell_enter
    k_steps
    all_goals (try (exfalso; simp at *; done))
    all_goals (refine hret _ ((D, listOf #[.int _ _, .ref S] _) :: (S, listOf (List.toArray _) _) :: rest) _ _ ?_ (by assumption) (cb_drop (by assumption) (by k_sub)))
    all_goals (exact ⟨_, _, _, _, _, _, _, _, rfl, rfl, .nil, fmod_lo _ hk0, fmod_hi _ hk0, (fdiv_range hq0 hq1 hk0).1, (fdiv_range hq0 hq1 hk0).2, by simp, by simp⟩)
  | cons i0 t0 hi' =>
    have hb0 := hnb _ (List.mem_cons_self ..)
    have hbr := fun (n : Int) hn => hnb n (List.mem_cons_of_mem _ hn)
    have hlr := hns
    have hvl := hi'.length
    rw [List.length_cons] at hlr
    refine wpAny_call ?_
    k_dflt cell_enter
    k_steps
    all_goals (try (exfalso; simp at *; done))
    all_goals (refine hret _ ((D, listOf #[.int _ _, .ref S] _) :: (S, listOf (List.toArray _) _) :: rest) _ _ ?_ (by assumption) (cb_drop (by assumption) (by k_sub)))
    · exact ⟨_, _, _, _, _, _, _, _, rfl, rfl, hi', fmod_lo _ hk0, fmod_hi _ hk0, (fdiv_range hb0.1 hb0.2 hk0).1, (fdiv_range hb0.1 hb0.2 hk0).2, by omega, hbr⟩
    · exact ⟨_, _, _, _, _, _, _, _, rfl, rfl, .cons _ _ hi', fmod_lo _ hk0, fmod_hi _ hk0, (fdiv_range hq0 hq1 hk0).1, (fdiv_range hq0 hq1 hk0).2, hns, hnb⟩
end
section
def lowD : Dat → Dat
  | .str x => .str (Txt.lower x)
  | d => d
def kindD (b : Bool) (d : Dat) : Dat := if b then d else lowD d
def leD : Dat → Dat → Bool
  | .str x, .str y => !decide (y.cps.toList < x.cps.toList)
  | .int a, .int b => decide (a ≤ b)
  | _, _ => false
def eqD : Dat → Dat → Bool
  | .str x, .str y => x == y
  | .int a, .int b => a == b
  | _, _ => false
/-- a text (true) or an int (false) -/
inductive KB : Bool → Dat → Prop
  | str (x : Str) : KB true (.str x)
  | int (i : Int) : KB false (.int i)
/-- a text is short -/
def LenD (d : Dat) : Prop := ∀ x, d = .str x → x.length ≤ 100
theorem KB.kind {k : Bool} {d : Dat} (h : KB k d) (b : Bool) : KB k (kindD b d) := by
  cases h <;> cases b <;> first | exact .str _ | exact .int _
theorem kind_K (w : World) (news : List (Addr × Obj)) (v : Value) (d : Dat) (b k : Bool) (hv : DatIn [] v d) (hk' : KB k d) (hl : b = false → LenD d) :
    Says w 328 5 300 [v, .bool b] news (fun news' v' => news' = news ∧ DatIn [] v' (kindD b d)) := by
  intro p loose mean mg mb dp un gd cn cs a ccd cl outer A₀ base h₀ L m s Q E B F X N T hk hd hu hret
  revert X; k_fill; intro X
  cases b with
  | true =>
    cases hk' with
    | str x =>
      cases hv
      refine wpAny_call ?_
      walk_at "enter"
      k_steps
      exact hret _ _ _ _ ⟨rfl, .str _ _⟩ (by with_reducible assumption) (by with_reducible assumption)
    | int i =>
      cases hv
      refine wpAny_call ?_
      walk_at "enter"
      k_steps
      exact hret _ _ _ _ ⟨rfl, .int _ _⟩ (by with_reducible assumption) (by with_reducible assumption)
  | false =>
    cases hk' with
    | str x =>
      have hx := hl rfl x rfl
      clear hl
      cases hv
      refine wpAny_call ?_
      walk_at "enter"
      k_steps
      exact hret _ _ _ _ ⟨rfl, .str _ _⟩ (by with_reducible assumption) (by with_reducible assumption)
    | int i =>
      cases hv
      refine wpAny_call ?_
      walk_at "enter"
      k_steps
      exact hret _ _ _ _ ⟨rfl, .int _ _⟩ (by with_reducible assumption) (by with_reducible assumption)
theorem kind_use {w : World} {news : List (Addr × Obj)} {v : Value} {d : Dat} {b k : Bool}
    {p : Program} {loose : List Str} {mean : ExcName → Option Value} {mg mb : Str → Option Value}
    {dp un : Nat} {gd : Option (List Code)} {cn : Str} {cs : Scope} {a : Addr} {ccd : Value} {cl : List (Str × Addr)} {outer : List Env} {A₀ : Around} {base h₀ : Heap} {L : Addr} {m : Str → Option Value} {s : Shared} {Q E : Value → Shared → Prop}
    (B : Below A₀ base outer h₀) (F : Fr h₀ L s.heap m) (X : (hd1.heap_39 w.params).In h₀) (N : News h₀ L s.heap news) (T : Top p loose mean mg mb h₀) (hk : cs.kind = .function) (hd : dp + 5 < recursionLimit) (hu : un + 300 < cLine)
    (hv : DatIn [] v d) (hk' : KB k d) (hl : b = false → LenD d)
    (ret : ∀ v' h' tk', DatIn [] v' (kindD b d) → KB k (kindD b d) → Fr h₀ L h' m → News h₀ L h' news → Q v' { s with heap := h', toks := tk' }) :
    wpAny (model PySem.Challenge.rw_bb0048_01.row.prog w) (ktrTop dp un gd cn cs L a ccd cl outer) (call (.ref 328) [v, .bool b]) Q E s := by
  refine kind_K w news v d b k hv hk' hl p loose mean mg mb dp un gd cn cs a ccd cl outer A₀ base h₀ L m s Q E B F X N T hk hd hu ?_
  rintro v' news' h' tk' ⟨rfl, hv'⟩ F' N'
  exact ret v' h' tk' hv' (hk'.kind b) F' N'
section
variable {prog : Program} {w : World} {A : Around} {E : Value → Shared → Prop} {s : Shared}
theorem le_D {v1 v2 : Value} {d1 d2 : Dat} {k : Bool} {Q : Value → Shared → Prop} (h1 : DatIn [] v1 d1) (h2 : DatIn [] v2 d2) (k1 : KB k d1) (k2 : KB k d2) (h : Q (.bool (leD d1 d2)) s) : wpAny (model prog w) A (compareOp .LtE v1 v2) Q E s := by
  cases k1 <;> cases k2 <;> cases h1 <;> cases h2
  · exact P.le_str h
  · exact PyProof.Rows.le_int h
theorem eq_D {v1 v2 : Value} {d1 d2 : Dat} {k : Bool} {Q : Value → Shared → Prop} (h1 : DatIn [] v1 d1) (h2 : DatIn [] v2 d2) (k1 : KB k d1) (k2 : KB k d2) (h : Q (.bool (eqD d1 d2)) s) : wpAny (model prog w) A (compareOp .Eq v1 v2) Q E s := by
  cases k1 <;> cases k2 <;> cases h1 <;> cases h2
  · exact PyProof.Rows.eq_str h
  · exact PyProof.Rows.eq_int h
end
end
section
theorem flatten_take_le : ∀ (ds : List (List Dat)) (i : Nat), ((ds.take i).flatten).length ≤ ds.flatten.length
  | [], i => by simp
  | d :: r, 0 => by simp
  | d :: r, i + 1 => by
    have := flatten_take_le r i
    simp only [List.take_succ_cons, List.flatten_cons, List.length_append]
    omega
theorem joined_K (w : World) (rest : List (Addr × Obj)) (R : Addr) (rvs : List Value) (n : Nat) (ds : List (List Dat)) (hR : DatAll rest rvs (ds.map .list)) (hRr : ∀ p ∈ rest, p.1 ≠ R) (hlen : ds.flatten.length ≤ 400) :
    Says w 335 5 300 [.ref R] ((R, listOf rvs.toArray n) :: rest) (fun news' v' => ∃ J vs k, v' = .ref J ∧ news' = (J, listOf vs.toArray k) :: (R, listOf rvs.toArray n) :: rest ∧ @LT.lt Nat _ R J ∧ AllLt J rest ∧ DatAll rest vs ds.flatten) := by
  intro p loose mean mg mb dp un gd cn cs a ccd cl outer A₀ base h₀ L m s Q E B F X N T hk hd hu hret
  revert X; k_fill; intro X
  refine wpAny_call ?_
  k_dflt cell_enter
  k_steps
  with_reducible rename Fr _ _ _ _ => F'
  with_reducible rename News _ _ _ _ => N'
  with_reducible rename (_ ∧ AllLt _ _) => l1
  with_unfolding_all refine For_invVF F' (by rfl) (by rfl) ?_
  k_steps
  refine kdl_iter (fun i m₁ nx => ∃ u f vs k, m₁ = (fun z => if z = Str.ofString "row" then u else if z = Str.ofString "found" then some (Value.ref f) else List.lookup z [(Str.ofString "rows", Value.ref R)]) ∧ nx = (f, listOf vs.toArray k) :: (R, listOf rvs.toArray n) :: rest ∧ (@LT.lt Nat _ R f ∧ AllLt f rest) ∧ DatAll rest vs (ds.take i).flatten) rfl (by k_mem) F' N' ⟨_, _, [], 0, mapSelf _ _, rfl, l1, .nil⟩ ?_ ?_
  · rintro i v m₁ nx h tk' own hv hoff hRn ⟨u, f, vs, k, rfl, rfl, hlt, hvs⟩ F₁ N₁
    dsimp only [envOf] at F₁ N₁
    simp only [List.cons_append, List.nil_append, List.append_assoc] at N₁
    obtain ⟨d, hd1, hdv⟩ := datAt hR hv
    rw [List.getElem?_map] at hd1
    cases hdi : ds[i]? with
    | none => rw [hdi] at hd1; cases hd1
    | some es =>
      rw [hdi] at hd1
      cases hd1
      cases hdv with
      | list hm hws =>
        have hl1 := hvs.length
        have hl2 := hws.length
        have hl3 := flatten_take_le ds (i + 1)
        have htk : (ds.take (i + 1)).flatten = (ds.take i).flatten ++ es := by
          rw [List.take_add_one, hdi]; simp
        rw [htk, List.length_append] at hl3
        k_steps
        refine' InvEndG.intro (nx := (_, listOf (List.toArray (_ ++ _)) _) :: (R, listOf rvs.toArray n) :: rest) (by assumption) (by assumption) ?j ?a ?n ?o
        case n => k_sub
        case o => k_sub
        case a => walk_at "own_off"
        case j => exact ⟨by k_mem, _, _, _, _, mapNorm1 (by decide) _ _ _ _ _, rfl, ⟨by omega, by tbn_find⟩, by rw [htk]; exact hvs.append hws⟩
  · rintro m₁ nx h tk' ⟨u, f, vs, k, rfl, rfl, hlt, hvs⟩ F₁ N₁
    k_steps
    have hrl := hR.length
    rw [List.length_map] at hrl
    rw [hrl, List.take_length] at hvs
    exact hret _ _ _ _ ⟨f, vs, k, rfl, rfl, hlt.1, hlt.2, hvs⟩ (by assumption) (by assumption)
end
section
/-- where a turn of a comprehension ends: the iterator, its block and the list stand, K holds of the rest of the ledger -/
def TurnJ (h₀ : Heap) (L : Addr) (m : Str → Option Value) (s₁ : Shared) (I : Addr) (oI : Obj) (C : Addr) (oC : Obj) (D : Addr) (ys : List Value) (K : List (Addr × Obj) → Prop) (s₂ : Shared) : Prop :=
  ∃ h' tk news', s₂ = { s₁ with heap := h', toks := tk } ∧ Fr h₀ L h' m ∧ News h₀ L h' ((I, oI) :: (C, oC) :: (D, lst ys) :: news') ∧ Off3 I C D news' ∧ K news'
theorem TurnJ.intro {h₀ : Heap} {L : Addr} {m : Str → Option Value} {s₁ : Shared} {I : Addr} {oI : Obj} {C : Addr} {oC : Obj} {D : Addr} {ys : List Value} {K : List (Addr × Obj) → Prop} {h' : Heap} {tk : Nat} {all : List (Addr × Obj)}
    (news' : List (Addr × Obj)) (F : Fr h₀ L h' m) (N : News h₀ L h' all) (sub : ∀ p ∈ (I, oI) :: (C, oC) :: (D, lst ys) :: news', p ∈ all) (off : Off3 I C D news') (k : K news') :
    TurnJ h₀ L m s₁ I oI C oC D ys K { s₁ with heap := h', toks := tk } := ⟨h', tk, news', rfl, F, fun p hp => N p (sub p hp), off, k⟩
abbrev ifsTree (ifs : List Expr) (env : Env) : Sem Bool := forIn ifs true fun c r => if r = true then do let ok ← isTrue c env (eval c env); pure (ForInStep.yield ok) else pure (ForInStep.yield r)
section
variable {prog : Program} {w : World} {A : Around} {E : Value → Shared → Prop} {s : Shared} {h₀ : Heap} {L : Addr} {m : Str → Option Value} {env : Env}
def TurnsJ (prog : Program) (w : World) (A : Around) (h₀ : Heap) (L : Addr) (m : Str → Option Value) (env : Env) (elt : Expr) (ifs : List Expr) (x : Str) (scope : Scope) (cl : List (Str × Addr)) (s₂ : Shared) (n : Nat) (P : Nat → Value → Prop) (J : Nat → List Value → List (Addr × Obj) → Prop) : Prop :=
  ∀ i v I oI C oC D m₂ h tk ys news' (E' : Value → Shared → Prop), i < n → ys.length ≤ i → P i v → J i ys news' → NsObj oC m₂ → m₂ x = some v → Fr h₀ L h m → News h₀ L h ((I, oI) :: (C, oC) :: (D, lst ys) :: news') → Off3 I C D news' → ((@Ne Nat I C) ∧ (@Ne Nat I D) ∧ (@Ne Nat C D)) →
    wpAny (model prog w) A (ifsTree ifs (compEnvC scope cl C env)) (fun ok s₃ => if ok = true then wpAny (model prog w) A (eval elt (compEnvC scope cl C env)) (fun y s₄ => TurnJ h₀ L m s₂ I oI C oC D ys (J (i + 1) (ys ++ [y])) s₄) E' s₃
      else TurnJ h₀ L m s₂ I oI C oC D ys (J (i + 1) ys) s₃) E' { s₂ with heap := h, toks := tk }
theorem block_J {elt iter : Expr} {x : Str} {px : Pos} {ifs : List Expr} {scope : Scope} {cl : List (Str × Addr)} {pos : Pos} {s₂ : Shared} {I : Addr} {fp : List Addr} {n : Nat} {P : Nat → Value → Prop} {St : Nat → Heap → Prop} {J : Nat → List Value → List (Addr × Obj) → Prop}
    {news : List (Addr × Obj)} {RR : Value → Addr → Result → Shared → Prop}
    (W : Walks prog w A I fp [I] n P St) (hsz : n ≤ sizeLine) (hIo : ∀ i h, St i h → ∃ o, h.get? I = some o)
    (hSt : ∀ i j ys h h' o nw, St i h → h.get? I = some o → h'.get? I = some o → (∀ b o, h₀.get? b = some o → h'.get? b = some o) → News h₀ L h' nw → J j ys nw → St i h')
    (hcell : ∀ y ∈ scope.names, y.2 ≠ .cell) (hkind : scope.kind = .function) (hx : scope.names.lookup x = some .local) (hst : St 0 s₂.heap) (hfp : ∀ b ∈ fp, b < s₂.heap.objs.size)
    (F : Fr h₀ L s₂.heap m) (N : News h₀ L s₂.heap news) (hIL : L ≠ I) (hI₀ : h₀.get? I = none) (off : ∀ p ∈ news, p.1 ≠ I) (hJ : J 0 [] news)
    (turn : TurnsJ prog w A h₀ L m env elt ifs x scope cl s₂ n P J)
    (hRR : ∀ D C h tk m' ys news', Fr h₀ L h m → News h₀ L h ((D, lst ys) :: news') → Off1 D news' → h.Ns C m' → h₀.get? C = none → h₀.get? D = none → C ≠ L → D ≠ L → C ≠ D → (∀ p ∈ news', p.1 ≠ C) → J n ys news' → RR (.ref D) C (.ok .next) { s₂ with heap := h, toks := tk }) :
    wpAny (model prog w) A (newList []) (fun acc s₃ => wpAny (model prog w) A (newFunctionEnv scope env.globals cl [] env.qual none .none (some env)) (fun cenv s₄ =>
      codeAny (model prog w) A (.compStart (.ListComp elt [⟨.Name x px, iter, ifs, 0⟩] scope pos) 0 (.ref I) acc { cenv with scope := relabel scope env }) (RR acc cenv.locals) s₄) E s₃) E s₂ := by
  refine wpAny_newObj_type (wpAny_newFunctionEnv hcell (by intro y hy; simp at hy) (fun h₁ hns₁ hsb₁ => ?_) hkind)
  dsimp only at hns₁ hsb₁ ⊢
  generalize hD : s₂.heap.objs.size = D at hns₁ hsb₁ ⊢
  generalize hH : s₂.heap.push { cls := .type "list", dict := none, data := .seq ([] : List Value).toArray } = H at hns₁ hsb₁ ⊢
  generalize hC : H.objs.size = C at hns₁ hsb₁ ⊢
  have hCD : @Eq Nat C (D + 1) := by rw [← hC, ← hH, Heap.size_push, hD]
  have lowD : ∀ {b o}, s₂.heap.get? b = some o → @LT.lt Nat _ b D := fun e => hD ▸ Heap.lt_size e
  have old : ∀ b o, s₂.heap.get? b = some o → h₁.get? b = some o := fun b o e =>
    hsb₁.extBut b o (Nat.ne_of_lt (ltN (by have := lowD e; omega))) (Heap.get?_push_of_some _ (by rw [← hH]; exact Heap.get?_push_of_some _ e))
  have hacc : h₁.get? D = some (lst []) := hsb₁.extBut _ _ (Nat.ne_of_lt (ltN (by omega))) (Heap.get?_push_of_some _ (by rw [← hH, ← hD]; exact Heap.get?_push_size _ rfl))
  have fresh₀ : ∀ a, D ≤ a → h₀.get? a = none := fun a ha => by
    cases e : h₀.get? a with
    | none => rfl
    | some o => exact absurd (lowD (F.keep a o e)) (Nat.not_lt.mpr ha)
  have hD₀ := fresh₀ D (Nat.le_refl _)
  have hC₀ := fresh₀ C (by rw [hCD]; exact Nat.le_succ _)
  have hLlt : @LT.lt Nat _ L D := hD ▸ F.ns.lt
  have hDL : D ≠ L := Nat.ne_of_gt hLlt
  have hCL : C ≠ L := Nat.ne_of_gt (ltN (by omega))
  have hfp' : ∀ b ∈ fp, @LT.lt Nat _ b D := fun b hb => hD ▸ hfp b hb
  have hDf : D ∉ fp := fun h => Nat.lt_irrefl _ (hfp' _ h)
  have hCf : C ∉ fp := fun h => by have := hfp' _ h; omega
  have hIlt : @LT.lt Nat _ I D := hfp' I (W.sub I (List.mem_singleton.mpr rfl))
  have hIC : I ≠ C := Nat.ne_of_lt (ltN (by omega))
  have hID : I ≠ D := Nat.ne_of_lt hIlt
  have hDC : D ≠ C := Nat.ne_of_lt (ltN (by omega))
  have off₀ : Off3 I C D news := Off3.of fun p hp => ⟨off p hp, Nat.ne_of_lt (ltN (by have := lowD (N p hp).1; omega)), Nat.ne_of_lt (lowD (N p hp).1)⟩
  have loop : ∀ s₃ : Shared, s₃ = { s₂ with heap := h₁, toks := s₂.toks + ([] : List (Str × Value)).length } →
      codeAny (model prog w) A (.compLoop (.ListComp elt [⟨.Name x px, iter, ifs, 0⟩] scope pos) 0 (.ref I) (.ref D) (compEnvC scope cl C env)) (RR (.ref D) C) s₃ := by
    rintro s₃ rfl
    refine codeAny_compLoop_tests
      (fun k s' => ∃ h' tk i ys m' news', s' = { s₂ with heap := h', toks := tk } ∧ i ≤ n ∧ k = n + 1 - i ∧ ys.length ≤ i ∧ St i h' ∧ Fr h₀ L h' m ∧ h'.Ns C m' ∧ News h₀ L h' ((D, lst ys) :: news') ∧ Off3 I C D news' ∧ J i ys news') ?_ (n + 1)
      ⟨h₁, _, 0, [], _, news, rfl, Nat.zero_le _, rfl, Nat.le_refl _, W.frame _ _ _ hst fun b _ o e => old b o e, F.keeps old, hns₁, fun p hp => ?_, off₀, hJ⟩
    · rintro k s' ⟨h', tk, i, ys, m', news', rfl, hi, rfl, hyl, hst', F', hn', N', off', hJ'⟩
      have off3 := off'.mem
      by_cases hlt : i < n
      · refine W.item i _ _ _ hlt hst' fun v h₂ tk₂ hPv hst₂ hk₂ => ?_
        refine wpAny_assign_Name (wpAny_storeName_local (lookup_relabel_local hx) (hn'.at' fun o e => hk₂ _ o (by simpa using Ne.symm hIC) e) (fun h₃ hn₃ hs₃ => ?_) (by simp [compEnvC, relabel, hkind]))
        have hst₃ : St (i + 1) h₃ := W.frame _ _ _ hst₂ fun b hb o e => hs₃.extBut b o (fun q => hCf (by have q' : b = C := q; rw [← q']; exact hb)) e
        obtain ⟨oI, heI⟩ := hIo _ _ hst₃
        obtain ⟨oC, heC, hoC⟩ := ns_obj hn₃
        have F₃ : Fr h₀ L h₃ m := (fr_but F' hk₂ hIL hI₀).change hs₃ hCL hC₀
        have N₂ : News h₀ L h₂ ((D, lst ys) :: news') := news_but N' hk₂ fun p hp => by
          rcases List.mem_cons.mp hp with rfl | hp
          · exact Ne.symm hID
          · exact (off3 p hp).1
        have N₃ : News h₀ L h₃ ((I, oI) :: (C, oC) :: (D, lst ys) :: news') := fun p hp => by
          rcases List.mem_cons.mp hp with rfl | hp
          · exact ⟨heI, Ne.symm hIL, hI₀⟩
          · rcases List.mem_cons.mp hp with rfl | hp
            · exact ⟨heC, hCL, hC₀⟩
            · have z := N₂ p hp
              refine ⟨hs₃.extBut _ _ ?_ z.1, z.2⟩
              rcases List.mem_cons.mp hp with rfl | hp
              · exact hDC
              · exact (off3 p hp).2.1
        have fin : ∀ ys' h₄ tk₄ news₄, (∀ h₅, h₅.get? D = some (lst ys') → Heap.SameBut D h₄ h₅ → ys'.length ≤ i + 1 → Fr h₀ L h₄ m → News h₀ L h₄ ((I, oI) :: (C, oC) :: (D, lst ys) :: news₄) → Off3 I C D news₄ → J (i + 1) ys' news₄ →
            ∃ k', k' < n + 1 - i ∧ ∃ h' tk j ys m' news', ({ s₂ with heap := h₅, toks := tk₄ } : Shared) = { s₂ with heap := h', toks := tk } ∧ j ≤ n ∧ k' = n + 1 - j ∧ ys.length ≤ j ∧ St j h' ∧ Fr h₀ L h' m ∧ h'.Ns C m' ∧ News h₀ L h' ((D, lst ys) :: news') ∧ Off3 I C D news' ∧ J j ys news') := by
          intro ys' h₄ tk₄ news₄ h₅ hD₅ hs₅ hl F₄ N₄ off₄ hJ₄
          have zI := (N₄ (I, oI) List.mem_cons_self).1
          have zC := (N₄ (C, oC) (List.mem_cons_of_mem _ List.mem_cons_self)).1
          have N₄' : News h₀ L h₄ news₄ := fun p hp => N₄ p (List.mem_cons_of_mem _ (List.mem_cons_of_mem _ (List.mem_cons_of_mem _ hp)))
          have hst₄ : St (i + 1) h₄ := hSt _ _ _ _ _ _ _ hst₃ heI zI F₄.keep N₄' hJ₄
          have off4 := off₄.mem
          refine ⟨n + 1 - (i + 1), by omega, h₅, tk₄, i + 1, ys', _, news₄, rfl, hlt, rfl, hl, W.frame _ _ _ hst₄ fun b hb o e => hs₅.extBut b o (fun q => hDf (q ▸ hb)) e, F₄.change hs₅ hDL hD₀, (hoC.ns zC).sameBut hs₅ (Ne.symm hDC), fun p hp => ?_, off₄, hJ₄⟩
          rcases List.mem_cons.mp hp with rfl | hp
          · exact ⟨hD₅, hDL, hD₀⟩
          · exact ⟨hs₅.extBut _ _ (off4 p hp).2.2 (N₄' p hp).1, (N₄' p hp).2⟩
        refine wpAny_mono (turn i v I oI C oC D _ h₃ _ ys news' _ hlt hyl hPv hJ' hoC (by simp) F₃ N₃ off' ⟨hIC, hID, Ne.symm hDC⟩) (fun ok s₄ h₄ => ?_) fun _ _ e => e
        cases ok with
        | true =>
          simp only [if_true] at h₄ ⊢
          refine wpAny_mono h₄ (fun y s₅ h₅ => ?_) fun _ _ e => e
          obtain ⟨h₄, tk₄, news₄, rfl, F₄, N₄, off₄, hJ₄⟩ := h₅
          have zD := (N₄ (D, lst ys) (List.mem_cons_of_mem _ (List.mem_cons_of_mem _ List.mem_cons_self))).1
          refine append_at (hsz := by show ys.toArray.size ≤ sizeLine; rw [List.size_toArray]; omega) zD fun h₅ hs₅ hD₅ => ?_
          exact fin (ys ++ [y]) h₄ tk₄ news₄ h₅ (hD₅.trans (congrArg some (lst_snoc ys y))) hs₅ (by rw [List.length_append, List.length_singleton]; omega) F₄ N₄ off₄ hJ₄
        | false =>
          simp only [Bool.false_eq_true, if_false] at h₄ ⊢
          obtain ⟨h₄, tk₄, news₄, rfl, F₄, N₄, off₄, hJ₄⟩ := h₄
          have zD := (N₄ (D, lst ys) (List.mem_cons_of_mem _ (List.mem_cons_of_mem _ List.mem_cons_self))).1
          exact fin ys h₄ tk₄ news₄ h₄ zD (.refl ..) (by omega) F₄ N₄ off₄ hJ₄
      · obtain rfl : i = n := Nat.le_antisymm hi (Nat.not_lt.mp hlt)
        refine W.done _ _ _ hst' fun h₂ tk₂ hk₂ => ?_
        exact hRR _ _ h₂ tk₂ _ ys news' (fr_but F' hk₂ hIL hI₀) (news_but N' hk₂ fun p hp => by
          rcases List.mem_cons.mp hp with rfl | hp
          · exact Ne.symm hID
          · exact (off3 p hp).1) off'.one (hn'.at' fun o e => hk₂ _ o (by simpa using Ne.symm hIC) e) hC₀ hD₀ hCL hDL (Ne.symm hDC) (fun p hp => (off3 p hp).2.1) hJ'
    · rcases List.mem_cons.mp hp with rfl | hp
      · exact ⟨hacc, hDL, hD₀⟩
      · exact ⟨old _ _ (N p hp).1, (N p hp).2⟩
  exact codeAny_compStart_list (loop _ rfl) (W.self 0 _ _ _ (W.frame _ _ _ hst fun b _ o e => old b o e) (loop _ rfl))
end
theorem off1_ne {D : Addr} : ∀ {l : List (Addr × Obj)}, Off1 D l → ∀ p ∈ l, p.1 ≠ D
  | [], _, _, h => nomatch h
  | _ :: _, h, p, hp => by
    rcases List.mem_cons.mp hp with rfl | hp
    · exact h.1
    · exact off1_ne h.2 p hp
end
section
section
variable {prog : Program} {w : World} {A : Around} {E : Value → Shared → Prop} {s : Shared} {h₀ : Heap} {L : Addr} {m : Str → Option Value} {env : Env}
/-- what a comprehension's source must show: its walk, and the turns by J -/
def SrcJ (prog : Program) (w : World) (A : Around) (h₀ : Heap) (L : Addr) (m : Str → Option Value) (env : Env) (elt : Expr) (ifs : List Expr) (x : Str) (scope : Scope) (cl : List (Str × Addr)) (mF : Addr → Str → Option Value) (Q : Value → Shared → Prop) (xv : Value) (s₁ : Shared) : Prop :=
  ∃ (n : Nat) (P : Nat → Value → Prop) (St : Nat → Heap → Prop) (fp : List Addr) (news : List (Addr × Obj)) (J : Nat → List Value → List (Addr × Obj) → Prop),
    Fr h₀ L s₁.heap m ∧ News h₀ L s₁.heap news ∧ n ≤ sizeLine ∧ J 0 [] news ∧ (∀ b ∈ fp, @LT.lt Nat _ b (s₁.heap.objs.size + 1)) ∧ (∀ i h, St i h → ∃ o, h.get? s₁.heap.objs.size = some o) ∧
    (∀ (Q' : Value → Shared → Prop), (∀ o, Walks prog w A s₁.heap.objs.size fp [s₁.heap.objs.size] n P St → St 0 (s₁.heap.push o) → Q' (.ref s₁.heap.objs.size) { s₁ with heap := s₁.heap.push o }) → ∀ E', wpAny (model prog w) A (pyIter xv) Q' E' s₁) ∧
    (∀ i j ys h h' o nw, St i h → h.get? s₁.heap.objs.size = some o → h'.get? s₁.heap.objs.size = some o → (∀ b o, h₀.get? b = some o → h'.get? b = some o) → News h₀ L h' nw → J j ys nw → St i h') ∧
    (∀ g, TurnsJ prog w A h₀ L m env elt ifs x scope cl { s₁ with heap := g } n P J) ∧
    (∀ D ys news' h tk, Fr h₀ L h (mF D) → News h₀ L h ((D, lst ys) :: news') → Off1 D news' → J n ys news' → Q (.ref D) { s₁ with heap := h, toks := tk })
theorem listComp_J {elt iter : Expr} {x : Str} {px : Pos} {ifs : List Expr} {scope : Scope} {cl : List (Str × Addr)} {pos : Pos} {Q : Value → Shared → Prop} (_F : Fr h₀ L s.heap m)
    (hclos : closureFor scope env = pure cl) (hcell : ∀ y ∈ scope.names, y.2 ≠ .cell) (hkind : scope.kind = .function)
    (hnames : ∀ y ∈ scope.names, y.2 = .local → scope.names.lookup y.1 = some .local) (hx : scope.names.lookup x = some .local)
    (h : wpAny (model prog w) A (eval iter env) (SrcJ prog w A h₀ L m env elt ifs x scope cl (fun _ => m) Q) E s)
    (hs : ∀ x, foldedSetIterable iter env x = pure x := by intro _; rfl) :
    wpAny (model prog w) A (eval (.ListComp elt [⟨.Name x px, iter, ifs, 0⟩] scope pos) env) Q E s := by
  rw [eval_ListComp]
  refine wpAny_comprehension_free (use := none) rfl hs hclos hkind hnames (wpAny_mono h (fun xv s₁ h₁ => ?_) fun _ _ e => e)
  obtain ⟨n, P, St, fp, news, J, F, N, hsz, hJ, hfp, hIo, hit, hSt, turn, fin⟩ := h₁
  refine hit _ (fun o W st => ?_) _
  have up : ∀ b o', s₁.heap.get? b = some o' → (s₁.heap.push o).get? b = some o' := fun b o' e => Heap.get?_push_of_some _ e
  refine block_J W hsz hIo hSt hcell hkind hx st (fun b hb => ?_) (F.keeps up) (N.grown up) (Nat.ne_of_lt F.ns.lt) (next_is_new F) (fun p hp => Nat.ne_of_lt (Heap.lt_size (N p hp).1)) hJ (turn _) ?_
  · show b < (s₁.heap.push _).objs.size
    rw [Heap.size_push]
    exact hfp b hb
  · intro D C h tk m' ys news' F' N' o1 hn hC₀ hD₀ hCL hDL hCD offC hJ'
    refine ⟨m', hn, fun h'' hs'' => fin D ys news' h'' tk (F'.change hs'' hCL hC₀) (fun p hp => ?_) o1 hJ'⟩
    refine ⟨hs''.extBut _ _ ?_ (N' p hp).1, (N' p hp).2⟩
    rcases List.mem_cons.mp hp with rfl | hp
    · exact Ne.symm hCD
    · exact offC p hp
theorem assignComp_J {elt iter : Expr} {x y : Str} {px py : Pos} {ifs : List Expr} {scope : Scope} {cl : List (Str × Addr)} {pos spos : Pos} {Q : Flow → Shared → Prop} (_F : Fr h₀ L s.heap m) (hLe : env.locals = L)
    (hsw : swapsWith (.ListComp elt [⟨.Name x px, iter, ifs, 0⟩] scope pos) (some (.Name y py)) spos.line env = pure true)
    (hclos : closureFor scope env = pure cl) (hcell : ∀ y ∈ scope.names, y.2 ≠ .cell) (hkind : scope.kind = .function)
    (hnames : ∀ y ∈ scope.names, y.2 = .local → scope.names.lookup y.1 = some .local) (hx : scope.names.lookup x = some .local)
    (hy : env.kindOf y = some .local) (hp : (env.scope.kind == .class || (env.scope.kind == .module && env.locals != env.globals)) = false)
    (h : wpAny (model prog w) A (eval iter env) (SrcJ prog w A h₀ L m env elt ifs x scope cl (fun D z => if z = y then some (.ref D) else m z) (fun _ s' => Q .next s')) E s)
    (hs : ∀ x, foldedSetIterable iter env x = pure x := by intro _; rfl) :
    wpAny (model prog w) A (exec (.Assign [.Name y py] (.ListComp elt [⟨.Name x px, iter, ifs, 0⟩] scope pos) spos) env) Q E s := by
  subst hLe
  rw [exec_Assign_Name_used _ _ _ _ hsw]
  refine wpAny_bind (wpAny_standAt (wpAny_bind ?_))
  show wpAny _ A (do let _ ← comprehension (.ListComp elt [⟨.Name x px, iter, ifs, 0⟩] scope pos) scope env _ (newList []) false (eval iter env) (some (assign (.Name y py) env))) _ _ s
  refine wpAny_bind (wpAny_mono (wpAny_comprehension_free (use := some (assign (.Name y py) env)) (Q := fun _ s' => Q .next s') rfl hs hclos hkind hnames
    (wpAny_mono h (fun xv s₁ h₁ => ?_) fun _ _ e => e)) (fun _ s' hq => wpAny_pure (wpAny_pure hq)) fun _ _ e => e)
  obtain ⟨n, P, St, fp, news, J, F, N, hsz, hJ, hfp, hIo, hit, hSt, turn, fin⟩ := h₁
  refine hit _ (fun o W st => ?_) _
  have up : ∀ b o', s₁.heap.get? b = some o' → (s₁.heap.push o).get? b = some o' := fun b o' e => Heap.get?_push_of_some _ e
  refine block_J W hsz hIo hSt hcell hkind hx st (fun b hb => ?_) (F.keeps up) (N.grown up) (Nat.ne_of_lt F.ns.lt) (next_is_new F) (fun p hp => Nat.ne_of_lt (Heap.lt_size (N p hp).1)) hJ (turn _) ?_
  · show b < (s₁.heap.push _).objs.size
    rw [Heap.size_push]
    exact hfp b hb
  · intro D C h tk m' ys news' F' N' o1 hn hC₀ hD₀ hCL hDL hCD offC hJ'
    show wpAny _ A (assign (.Name y py) env (.ref D)) _ _ _
    refine wpAny_assign_Name (wpAny_storeName_local hy F'.ns (fun h₂ hn₂ hs₂ => ?_) hp)
    refine ⟨m', hn.sameBut hs₂ hCL, fun h'' hs'' => fin D ys news' h'' _ ((F'.set hn₂ hs₂).change hs'' hCL hC₀) (fun p hp => ?_) o1 hJ'⟩
    refine ⟨hs''.extBut _ _ ?_ (hs₂.extBut _ _ (N' p hp).2.1 (N' p hp).1), (N' p hp).2⟩
    rcases List.mem_cons.mp hp with rfl | hp
    · exact Ne.symm hCD
    · exact offC p hp
theorem SrcJ.list {elt : Expr} {x : Str} {ifs : List Expr} {scope : Scope} {cl : List (Str × Addr)} {mF : Addr → Str → Option Value} {Q : Value → Shared → Prop} {ax : Addr} {vs : List Value} {k : Nat} {news : List (Addr × Obj)} (J : Nat → List Value → List (Addr × Obj) → Prop)
    (hh : A.handled = none) (F : Fr h₀ L s.heap m) (N : News h₀ L s.heap news) (hm : (ax, listOf vs.toArray k) ∈ news) (hsz : vs.length ≤ 1000) (hJm : ∀ j ys nw, J j ys nw → (ax, listOf vs.toArray k) ∈ nw) (hJ : J 0 [] news)
    (turn : ∀ g, TurnsJ prog w A h₀ L m env elt ifs x scope cl { s with heap := g } vs.length (fun i v => vs[i]? = some v) J)
    (fin : ∀ D ys news' h tk, Fr h₀ L h (mF D) → News h₀ L h ((D, lst ys) :: news') → Off1 D news' → J vs.length ys news' → Q (.ref D) { s with heap := h, toks := tk }) :
    SrcJ prog w A h₀ L m env elt ifs x scope cl mF Q (.ref ax) s := by
  have hl := memList N hm
  have hlt : ax < s.heap.objs.size := Heap.lt_size (N _ hm).1
  have hvs : vs.toArray.size = vs.length := by simp
  refine ⟨vs.length, fun i v => vs[i]? = some v, fun i h => h.IsListIter s.heap.objs.size ax i ∧ h.IsList ax vs.toArray, [s.heap.objs.size, ax], news, J, F, N, by rw [sizeLine_eq]; omega, hJ, ?_, ?_, ?_, ?_, turn, fin⟩
  · intro b hb
    rcases List.mem_cons.mp hb with rfl | hb
    · exact Nat.lt_succ_self _
    · rw [List.mem_singleton.mp hb]; exact Nat.lt_succ_of_lt hlt
  · intro i h st
    obtain ⟨o, e, _⟩ := st.1
    exact ⟨o, e⟩
  · intro Q' hQ' E'
    refine wpAny_pyIter_list hl (hQ' _ ?_ ⟨⟨_, Heap.get?_push_size _ rfl, rfl, rfl⟩, hl.push _⟩)
    have W := Walks.list (prog := prog) (w := w) hh s.heap.objs.size ax (Nat.ne_of_lt hlt) vs.toArray
    rw [hvs] at W
    exact { sub := W.sub, frame := W.frame, done := W.done, self := W.self, item := fun i s Q E hi st hQ => W.item i s Q E hi st fun v h' tk hP => hQ v h' tk (by simpa using hP) }
  · intro i j ys h h' o nw st e e' hk N' hJ'
    exact ⟨by obtain ⟨o', q, r⟩ := st.1; rw [e] at q; cases q; exact ⟨o, e', r⟩, ⟨_, (N' _ (hJm _ _ _ hJ')).1, rfl, k, rfl⟩⟩
theorem SrcJ.range {elt : Expr} {x : Str} {ifs : List Expr} {scope : Scope} {cl : List (Str × Addr)} {mF : Addr → Str → Option Value} {Q : Value → Shared → Prop} {r : Addr} {a b c : Int} {t u v : Tok} {n : Nat} {news : List (Addr × Obj)} (J : Nat → List Value → List (Addr × Obj) → Prop)
    (hh : A.handled = none) (F : Fr h₀ L s.heap m) (N : News h₀ L s.heap news) (hr : IsRange s.heap r a b c t u v) (hsm : Builtin.Range.small a b c = true) (hn : Builtin.Range.rangeSize a b c = ((n : Nat) : Int)) (hsz : n ≤ 1000) (hJ : J 0 [] news)
    (turn : ∀ g, TurnsJ prog w A h₀ L m env elt ifs x scope cl { s with heap := g } n (fun i v => ∃ t, v = .int (a + i * c) t) J)
    (fin : ∀ D ys news' h tk, Fr h₀ L h (mF D) → News h₀ L h ((D, lst ys) :: news') → Off1 D news' → J n ys news' → Q (.ref D) { s with heap := h, toks := tk }) :
    SrcJ prog w A h₀ L m env elt ifs x scope cl mF Q (.ref r) s := by
  refine ⟨n, _, _, _, news, J, F, N, by rw [sizeLine_eq]; omega, hJ, ?_, ?_, fun Q' hQ' E' => wpAny_pyIter_range hr hsm (hQ' _ (Walks.range hh s.heap.objs.size a c n) ?_), ?_, turn, fin⟩
  · intro b hb
    rw [List.mem_singleton.mp hb]; exact Nat.lt_succ_self _
  · intro i h st
    exact ⟨_, st⟩
  · show IsRangeIter _ _ _ _ _
    rw [hn]
    simpa using Heap.get?_push_size _ rfl
  · intro i j ys h h' o nw st e e' hk N' hJ'
    have st' : h.get? s.heap.objs.size = some _ := st
    show h'.get? s.heap.objs.size = some _
    rw [e', ← e]; exact st'
end
end
section
/-- q is an entry of the ledger l, r is what else stands there -/
inductive Pick (q : Addr × Obj) : List (Addr × Obj) → List (Addr × Obj) → Prop
  | head {l} : Pick q (q :: l) l
  | tail {p l r} : Pick q l r → Pick q (p :: l) (p :: r)
theorem Pick.sub {q : Addr × Obj} {l r : List (Addr × Obj)} (h : Pick q l r) : ∀ p ∈ q :: r, p ∈ l := by
  induction h with
  | head => exact fun _ h => h
  | tail _ ih =>
    intro p hp
    rcases List.mem_cons.mp hp with rfl | hp
    · exact .tail _ (ih _ (.head _))
    · rcases List.mem_cons.mp hp with rfl | hp
      · exact .head _
      · exact .tail _ (ih _ (.tail _ hp))
def DrawOk (q : Int) (vs : List Value) : Prop := 0 ≤ q ∧ q < 10 ^ 15 ∧ ∃ ns, IntsAre vs ns ∧ ns.length ≤ 10 ∧ ∀ n ∈ ns, 0 ≤ n ∧ n < 10 ^ 15
abbrev drawsO (q : Int) (t : Tok) (S : Addr) (n : Nat) : Obj := listOf #[.int q t, .ref S] n
theorem take_use {w : World} {D S : Addr} {q : Int} {t tk : Tok} {n1 n2 : Nat} {vs : List Value} {news news1 rest : List (Addr × Obj)} {k : Int}
    {p : Program} {loose : List Str} {mean : ExcName → Option Value} {mg mb : Str → Option Value}
    {dp un : Nat} {gd : Option (List Code)} {cn : Str} {cs : Scope} {a : Addr} {ccd : Value} {cl : List (Str × Addr)} {outer : List Env} {A₀ : Around} {base h₀ : Heap} {L : Addr} {m : Str → Option Value} {s : Shared} {Q E : Value → Shared → Prop}
    (B : Below A₀ base outer h₀) (F : Fr h₀ L s.heap m) (X : (hd1.heap_39 w.params).In h₀) (N : News h₀ L s.heap news) (T : Top p loose mean mg mb h₀) (hk : cs.kind = .function)
    (p1 : Pick (D, drawsO q t S n1) news news1) (p2 : Pick (S, listOf vs.toArray n2) news1 rest) (hDS : @Ne Nat D S) (hDr : ∀ p ∈ rest, p.1 ≠ D) (hSr : ∀ p ∈ rest, p.1 ≠ S)
    (hd : dp + 5 < recursionLimit) (hu : un + 300 < cLine) (hk0 : 0 < k) (hk1 : k < 100) (ok : DrawOk q vs)
    (ret : ∀ (r q' : Int) (t1 t2 : Tok) (n1' n2' : Nat) (vs' : List Value) (h' : Heap) (tk' : Nat), DrawOk q' vs' → 0 ≤ r → r < k → Fr h₀ L h' m → News h₀ L h' ((D, drawsO q' t1 S n1') :: (S, listOf vs'.toArray n2') :: rest) → Q (.int r t2) { s with heap := h', toks := tk' }) :
    wpAny (model PySem.Challenge.rw_bb0048_01.row.prog w) (ktrTop dp un gd cn cs L a ccd cl outer) (call (.ref 309) [.ref D, .int k tk]) Q E s := by
  obtain ⟨hq0, hq1, ns, hi, hns, hnb⟩ := ok
  refine take_K w D S q t n1 n2 vs ns rest hi hDS hDr hSr k tk hk0 hk1 hq0 hq1 hns hnb p loose mean mg mb dp un gd cn cs a ccd cl outer A₀ base h₀ L m s Q E B F X (cb_drop N fun z hz => ?_) T hk hd hu ?_
  · rcases List.mem_cons.mp hz with rfl | hz
    · exact p1.sub _ (.head _)
    · exact p1.sub _ (.tail _ (p2.sub _ hz))
  · rintro v news' h' tk' ⟨r, q', t1, t2, n1', n2', vs', ns', rfl, rfl, hi', hr0, hr1, hq0', hq1', hl', hb'⟩ F' N'
    exact ret r q' t1 t2 n1' n2' vs' h' tk' ⟨hq0', hq1', ns', hi', hl', hb'⟩ hr0 hr1 F' N'
end
section
section
variable {prog : Program} {w : World} {A : Around} {E : Value → Shared → Prop} {s : Shared} {h₀ : Heap} {L : Addr} {m : Str → Option Value} {news : List (Addr × Obj)}
theorem item_L {value slice : Expr} {l : Addr} {vs : List Value} {n : Nat} {k : Int} {u : Tok} {Q : Value → Shared → Prop} (N : News h₀ L s.heap news) (hm : (l, listOf vs.toArray n) ∈ news) (h0 : 0 ≤ k) (h1 : k < vs.length) (hz : vs.length ≤ 1000)
    (h : ∀ v, vs[k.toNat]? = some v → Q v s) (hs : subscripted slice false (.ref l) (.int k u) = operate [.ref l, .int k u] (getItem (.ref l) (.int k u)) := by with_unfolding_all rfl) :
    wpAny (model prog w) A (subscriptTail value slice (.ref l) (.int k u)) Q E s :=
  have hL := memList N hm
  have hk : k.toNat < vs.length := by omega
  tail_any hL.typeIs slot_list_getitem.lookup (wpAny_getItem_list hL h0 (by omega) (by simpa using List.getElem?_eq_getElem hk) (h _ (List.getElem?_eq_getElem hk))) hs
end
theorem range1_facts {r : Int} (h0 : 0 ≤ r) (h1 : r < 1000) : ∃ n : Nat, (n : Int) = r ∧ Builtin.Range.rangeSize 0 r 1 = ((n : Nat) : Int) ∧ Builtin.Range.small 0 r 1 = true := by
  obtain ⟨n, rfl⟩ := Int.eq_ofNat_of_zero_le h0
  exact ⟨n, rfl, by rw [rangeSize_nat]; simp, small_one (by omega) (by omega) (by omega) (by omega)⟩
section
variable {prog : Program} {w : World} {A : Around} {E : Value → Shared → Prop} {s : Shared} {h₀ : Heap} {L : Addr} {m : Str → Option Value} {news : List (Addr × Obj)}
theorem len_L {l : Addr} {vs : List Value} {n : Nat} {Q : Value → Shared → Prop} (N : News h₀ L s.heap news) (hm : (l, listOf vs.toArray n) ∈ news) (hz : vs.length ≤ 1000)
    (h : Q (.int vs.length (s.toks + 1)) { s with toks := s.toks + 1 + 1 }) : wpAny (model prog w) A (call (.builtin "len") [.ref l]) Q E s :=
  len_list (memList N hm) (by simp; omega) (by simpa using h)
end
theorem pick_upto (vs : List Value) {y : Int} (h : 0 ≤ y) : kms_pick vs none (some y) = vs.take y.toNat := by
  have : ¬ y < 0 := by omega
  simp only [kms_pick, kms_lo, kms_hi, this, if_false, List.drop_zero, Nat.sub_zero]
  exact kmk_take_min vs y.toNat
theorem pick_from (vs : List Value) {x : Int} (h : 0 ≤ x) : kms_pick vs (some x) none = vs.drop x.toNat := by
  have : ¬ x < 0 := by omega
  simp only [kms_pick, kms_lo, kms_hi, this, if_false, kmk_drop_min]
  apply List.take_of_length_le
  rw [List.length_drop]
  omega
theorem pick_run (vs : List Value) {x y : Int} (h : 0 ≤ x) (h2 : 0 ≤ y) : kms_pick vs (some x) (some y) = (vs.drop x.toNat).take (y.toNat - x.toNat) := by
  have h3 : ¬ x < 0 := by omega
  have h4 : ¬ y < 0 := by omega
  simp only [kms_pick, kms_lo, kms_hi, h3, h4, if_false, kmk_drop_min]
  apply List.ext_getElem?
  intro i
  simp only [List.getElem?_take, List.getElem?_drop]
  by_cases hi : i < min y.toNat vs.length - min x.toNat vs.length
  · rw [if_pos hi, if_pos (by omega)]
  · rw [if_neg hi]
    by_cases hj : i < y.toNat - x.toNat
    · rw [if_pos hj, List.getElem?_eq_none (by omega)]
    · rw [if_neg hj]
theorem datTake {news : List (Addr × Obj)} : ∀ {vs : List Value} {ds : List Dat}, DatAll news vs ds → ∀ k : Nat, DatAll news (vs.take k) (ds.take k)
  | _, _, _, 0 => by simp only [List.take_zero]; exact .nil
  | _, _, .nil, _ + 1 => .nil
  | _, _, .cons h r, k + 1 => .cons h (datTake r k)
theorem datDrop {news : List (Addr × Obj)} : ∀ {vs : List Value} {ds : List Dat}, DatAll news vs ds → ∀ k : Nat, DatAll news (vs.drop k) (ds.drop k)
  | _, _, h, 0 => h
  | _, _, .nil, _ + 1 => .nil
  | _, _, .cons _ r, k + 1 => datDrop r k
theorem pick_le (vs : List Value) (lo hi : Option Int) : (kms_pick vs lo hi).length ≤ vs.length := by
  unfold kms_pick
  rw [List.length_take, List.length_drop]
  omega
section
variable {prog : Program} {w : World} {A : Around} {E : Value → Shared → Prop} {s : Shared} {h₀ : Heap} {L : Addr} {m : Str → Option Value} {news : List (Addr × Obj)}
theorem slice_L {value slice : Expr} {l : Addr} {vs : List Value} {n : Nat} {vl vu : Value} {lo hi : Option Int} {Q : Value → Shared → Prop} (F : Fr h₀ L s.heap m) (N : News h₀ L s.heap news) (hm : (l, listOf vs.toArray n) ∈ news) (pl : IsPart vl lo) (pu : IsPart vu hi)
    (h : ∀ D h' zs, zs = kms_pick vs lo hi → zs.length ≤ vs.length → Fr h₀ L h' m → News h₀ L h' ((D, listOf zs.toArray 0) :: news) → (∀ p ∈ news, p.1 < D) → Q (.ref D) { s with heap := h' })
    (hs : subscripted slice false (.ref l) (.ref s.heap.objs.size) = operate [.ref s.heap.objs.size, .ref l] (getItem (.ref l) (.ref s.heap.objs.size))) (ht : ∀ r, letTemporaryGo value (.ref l) r = pure ()) (hz : vs.length ≤ 1000) :
    wpAny (model prog w) A (subscriptTail value slice (.ref l) (.ref s.heap.objs.size)) Q E { s with heap := s.heap.push { cls := .type "slice", data := .fields #[vl, vu, .none] } } :=
  kms_slice_lit F N (memList N hm) pl pu rfl (fun D h' F' N' l1 => h D h' _ rfl (pick_le vs lo hi) F' N' l1) hs ht (by simp [sizeLine_eq]; omega)
end
section
variable {prog : Program} {w : World} {A : Around} {E : Value → Shared → Prop} {s : Shared} {h₀ : Heap} {L : Addr} {m : Str → Option Value} {news news' : List (Addr × Obj)}
theorem append_L {D : Addr} {vs : List Value} {n : Nat} {v : Value} {Q : Value → Shared → Prop} (F : Fr h₀ L s.heap m) (N : News h₀ L s.heap news) (U : Upd D (listOf vs.toArray n) (listOf (vs ++ [v]).toArray (n + 1)) news news') (hz : vs.length ≤ 1000)
    (h : ∀ h', Fr h₀ L h' m → News h₀ L h' news' → Q .none { s with heap := h' }) : wpAny (model prog w) A (call (.builtin "list.append") [.ref D, v]) Q E s := by
  obtain ⟨pre, post, rfl, rfl, a, b⟩ := U.split
  have z := N (D, listOf vs.toArray n) (List.mem_append.mpr (.inr (.head _)))
  refine append_at (hsz := by simp [sizeLine_eq]; omega) z.1 fun h' hs hD => h h' (F.change hs z.2.1 z.2.2) (news_set N a b hs ?_)
  rw [hD]
  simp
theorem eq_LL {a b : Addr} {xs ys : List Value} {ka kb : Nat} {n₁ n₂ : List (Addr × Obj)} {ds es : List Dat} {i : Decidable (ds = es)} {Q : Value → Shared → Prop} (N : News h₀ L s.heap news) (ma : (a, listOf xs.toArray ka) ∈ news) (mb : (b, listOf ys.toArray kb) ∈ news)
    (Da : DatAll n₁ xs ds) (sa : ∀ p ∈ n₁, p ∈ news) (Db : DatAll n₂ ys es) (sb : ∀ p ∈ n₂, p ∈ news) (ha : ∀ d ∈ ds, kqdOk 8 d = true) (hb : ∀ d ∈ es, kqdOk 8 d = true) (hu : A.units + 64 < cLine)
    (h : Q (.bool (@decide (ds = es) i)) s) : wpAny (model prog w) A (compareOp .Eq (.ref a) (.ref b)) Q E s :=
  kqd_eq N ma rfl rfl Da sa mb rfl rfl Db sb ha hb hu ((fun j => by cases Subsingleton.elim i j; exact h : ∀ j : Decidable (ds = es), Q (.bool (@decide (ds = es) j)) s) _)
theorem ne_LL {a b : Addr} {xs ys : List Value} {ka kb : Nat} {n₁ n₂ : List (Addr × Obj)} {ds es : List Dat} {i : Decidable (ds = es)} {Q : Value → Shared → Prop} (N : News h₀ L s.heap news) (ma : (a, listOf xs.toArray ka) ∈ news) (mb : (b, listOf ys.toArray kb) ∈ news)
    (Da : DatAll n₁ xs ds) (sa : ∀ p ∈ n₁, p ∈ news) (Db : DatAll n₂ ys es) (sb : ∀ p ∈ n₂, p ∈ news) (ha : ∀ d ∈ ds, kqdOk 8 d = true) (hb : ∀ d ∈ es, kqdOk 8 d = true) (hu : A.units + 64 < cLine)
    (h : Q (.bool (!@decide (ds = es) i)) s) : wpAny (model prog w) A (compareOp .NotEq (.ref a) (.ref b)) Q E s :=
  kqd_ne N ma rfl rfl Da sa mb rfl rfl Db sb ha hb hu ((fun j => by cases Subsingleton.elim i j; exact h : ∀ j : Decidable (ds = es), Q (.bool (!@decide (ds = es) j)) s) _)
theorem eq_nil {a b : Addr} {xs : List Value} {ka kb : Nat} {ds : List Dat} {Q : Value → Shared → Prop} (N : News h₀ L s.heap news) (ma : (a, listOf xs.toArray ka) ∈ news) (mb : (b, listOf (List.toArray []) kb) ∈ news)
    (Da : DatAll [] xs ds) (ha : ∀ d ∈ ds, kqdOk 8 d = true) (hu : A.units + 64 < cLine)
    (h : Q (.bool ds.isEmpty) s) : wpAny (model prog w) A (compareOp .Eq (.ref a) (.ref b)) Q E s :=
  eq_LL (i := Classical.propDecidable _) N ma mb Da subNil .nil subNil ha (by simp) hu (by
    have e : @decide (ds = []) (Classical.propDecidable _) = ds.isEmpty := by cases ds <;> simp
    rw [e]; exact h)
theorem ne_nil {a b : Addr} {xs : List Value} {ka kb : Nat} {n₁ : List (Addr × Obj)} {ds : List Dat} {Q : Value → Shared → Prop} (N : News h₀ L s.heap news) (ma : (a, listOf xs.toArray ka) ∈ news) (mb : (b, listOf (List.toArray []) kb) ∈ news)
    (Da : DatAll n₁ xs ds) (sa : ∀ p ∈ n₁, p ∈ news) (ha : ∀ d ∈ ds, kqdOk 8 d = true) (hu : A.units + 64 < cLine)
    (h : Q (.bool (!ds.isEmpty)) s) : wpAny (model prog w) A (compareOp .NotEq (.ref a) (.ref b)) Q E s :=
  ne_LL (i := Classical.propDecidable _) N ma mb Da sa .nil subNil ha (by simp) hu (by
    have e : @decide (ds = []) (Classical.propDecidable _) = ds.isEmpty := by cases ds <;> simp
    rw [e]; exact h)
end
end
section
/-- where a turn of a for loop ends -/
def TurnF (h₀ : Heap) (L : Addr) (s₁ : Shared) (I : Addr) (oI : Obj) (K : (Str → Option Value) → List (Addr × Obj) → Prop) (s₂ : Shared) : Prop :=
  ∃ h' tk m' nw, s₂ = { s₁ with heap := h', toks := tk } ∧ Fr h₀ L h' m' ∧ News h₀ L h' ((I, oI) :: nw) ∧ (∀ p ∈ nw, p.1 ≠ I) ∧ K m' nw
theorem TurnF.intro {h₀ : Heap} {L : Addr} {s₁ : Shared} {I : Addr} {oI : Obj} {K : (Str → Option Value) → List (Addr × Obj) → Prop} {h' : Heap} {tk : Nat} {m' : Str → Option Value} {all : List (Addr × Obj)}
    (nw : List (Addr × Obj)) (F : Fr h₀ L h' m') (N : News h₀ L h' all) (sub : ∀ p ∈ (I, oI) :: nw, p ∈ all) (off : ∀ p ∈ nw, p.1 ≠ I) (k : K m' nw) : TurnF h₀ L s₁ I oI K { s₁ with heap := h', toks := tk } :=
  ⟨h', tk, m', nw, rfl, F, fun p hp => N p (sub p hp), off, k⟩
def PostF (h₀ : Heap) (L : Addr) (s₁ : Shared) (I : Addr) (oI : Obj) (K : (Str → Option Value) → List (Addr × Obj) → Prop) (Q : Flow → Shared → Prop) (f : Flow) (s₂ : Shared) : Prop := match f with
  | .ret v => Q (.ret v) s₂
  | .brk => Q .next s₂
  | _ => TurnF h₀ L s₁ I oI K s₂
section
variable {prog : Program} {w : World} {A : Around} {E : Value → Shared → Prop} {s : Shared} {h₀ : Heap} {L : Addr} {m : Str → Option Value} {env : Env}
def TurnsF (prog : Program) (w : World) (A : Around) (h₀ : Heap) (L : Addr) (env : Env) (x : Str) (body : List Stmt) (Q : Flow → Shared → Prop) (E : Value → Shared → Prop) (s₂ : Shared) (n : Nat) (P : Nat → Value → Prop) (J : Nat → (Str → Option Value) → List (Addr × Obj) → Prop) : Prop :=
  ∀ i v I oI h tk m₁ nw, i < n → P i v → J i m₁ nw → Fr h₀ L h m₁ → News h₀ L h ((I, oI) :: nw) → (∀ p ∈ nw, p.1 ≠ I) →
    wpAny (model prog w) A (storeName env x v) (fun _ s₃ => wpAny (model prog w) A (execs body env) (PostF h₀ L s₂ I oI (J (i + 1)) Q) E s₃) E { s₂ with heap := h, toks := tk }
theorem loop_F {x : Str} {px : Pos} {body : List Stmt} {s₂ : Shared} {I : Addr} {fp : List Addr} {n : Nat} {P : Nat → Value → Prop} {St : Nat → Heap → Prop} {J : Nat → (Str → Option Value) → List (Addr × Obj) → Prop} {news : List (Addr × Obj)} {Q : Flow → Shared → Prop}
    (W : Walks prog w A I fp [I] n P St) (hIo : ∀ i h, St i h → ∃ o, h.get? I = some o)
    (hSt : ∀ i j m h h' o nw, St i h → h.get? I = some o → h'.get? I = some o → (∀ b o, h₀.get? b = some o → h'.get? b = some o) → News h₀ L h' nw → J j m nw → St i h')
    (hst : St 0 s₂.heap) (F : Fr h₀ L s₂.heap m) (N : News h₀ L s₂.heap news) (hIL : L ≠ I) (hI₀ : h₀.get? I = none) (off : ∀ p ∈ news, p.1 ≠ I) (hJ : J 0 m news) (hE : PassesOwn (model prog w) A env E)
    (turn : TurnsF prog w A h₀ L env x body Q E s₂ n P J)
    (hR : ∀ m' nw h tk, Fr h₀ L h m' → News h₀ L h nw → J n m' nw → Q .next { s₂ with heap := h, toks := tk }) :
    codeAny (model prog w) A (.forLoop (.Name x px) (.ref I) body [] env) (fun r s' => match r with | .ok f => Q f s' | .error e => cameBackBy (model prog w) A env E e s') s₂ := by
  refine codeAny_forLoop
    (fun k s' => ∃ h' tk m' nw i, s' = { s₂ with heap := h', toks := tk } ∧ St i h' ∧ Fr h₀ L h' m' ∧ News h₀ L h' nw ∧ (∀ p ∈ nw, p.1 ≠ I) ∧ J i m' nw ∧ i ≤ n ∧ k = n + 1 - i) ?_ (n + 1)
    ⟨s₂.heap, s₂.toks, m, news, 0, rfl, hst, F, N, off, hJ, Nat.zero_le _, rfl⟩
  rintro k s' ⟨h', tk, m', nw, i, rfl, hst', F', N', off', hJ', hi, rfl⟩
  by_cases hlt : i < n
  · refine W.item i _ _ _ hlt hst' fun v h₁ tk₁ hP hst₁ hk₁ => ?_
    obtain ⟨oI, heI⟩ := hIo _ _ hst₁
    have F₁ : Fr h₀ L h₁ m' := fr_but F' hk₁ hIL hI₀
    have N₁ : News h₀ L h₁ ((I, oI) :: nw) := fun p hp => by
      rcases List.mem_cons.mp hp with rfl | hp
      · exact ⟨heI, Ne.symm hIL, hI₀⟩
      · exact news_but N' hk₁ off' p hp
    have fin : ∀ s₃, TurnF h₀ L s₂ I oI (J (i + 1)) s₃ → ∃ m, m < n + 1 - i ∧ ∃ h' tk m' nw j, s₃ = { s₂ with heap := h', toks := tk } ∧ St j h' ∧ Fr h₀ L h' m' ∧ News h₀ L h' nw ∧ (∀ p ∈ nw, p.1 ≠ I) ∧ J j m' nw ∧ j ≤ n ∧ m = n + 1 - j := by
      rintro s₃ ⟨h₂, tk₂, m₂, nw₂, rfl, F₂, N₂, off₂, hJ₂⟩
      have zI := (N₂ (I, oI) List.mem_cons_self).1
      have N₂' : News h₀ L h₂ nw₂ := fun p hp => N₂ p (List.mem_cons_of_mem _ hp)
      exact ⟨n + 1 - (i + 1), by omega, h₂, tk₂, m₂, nw₂, i + 1, rfl, hSt _ _ _ _ _ _ _ hst₁ heI zI F₂.keep N₂' hJ₂, F₂, N₂', off₂, hJ₂, hlt, rfl⟩
    refine wpAny_assign_Name (wpAny_mono (wpAny_passesOwn hE (wpAny_mono (turn i v I oI h₁ tk₁ m' nw hlt hP hJ' F₁ N₁ off') (fun _ s₃ h₃ => wpAny_passesOwn hE h₃) fun _ _ e => e)) (fun _ s₃ h₃ => wpAny_mono h₃ (fun f s₄ h₄ => ?_) fun _ _ e => e) fun _ _ e => e)
    cases f with
    | ret v => exact h₄
    | brk => exact h₄
    | cont => exact fin s₄ h₄
    | next => exact fin s₄ h₄
  · obtain rfl : i = n := Nat.le_antisymm hi (Nat.not_lt.mp hlt)
    refine W.done _ _ _ hst' fun h₁ tk₁ hk₁ => wpAny_execs_nil ?_
    exact hR m' nw h₁ tk₁ (fr_but F' hk₁ hIL hI₀) (news_but N' hk₁ off') hJ'
end
section
variable {prog : Program} {w : World} {A : Around} {E : Value → Shared → Prop} {s : Shared} {h₀ : Heap} {L : Addr} {m : Str → Option Value} {env : Env}
/-- what a for loop's source must show -/
def SrcF (prog : Program) (w : World) (A : Around) (h₀ : Heap) (L : Addr) (env : Env) (x : Str) (body : List Stmt) (Q : Flow → Shared → Prop) (E : Value → Shared → Prop) (xv : Value) (s₁ : Shared) : Prop :=
  ∃ (m : Str → Option Value) (n : Nat) (P : Nat → Value → Prop) (St : Nat → Heap → Prop) (fp : List Addr) (news : List (Addr × Obj)) (J : Nat → (Str → Option Value) → List (Addr × Obj) → Prop),
    Fr h₀ L s₁.heap m ∧ News h₀ L s₁.heap news ∧ J 0 m news ∧ (∀ i h, St i h → ∃ o, h.get? s₁.heap.objs.size = some o) ∧
    (∀ (Q' : Value → Shared → Prop), (∀ o, Walks prog w A s₁.heap.objs.size fp [s₁.heap.objs.size] n P St → St 0 (s₁.heap.push o) → Q' (.ref s₁.heap.objs.size) { s₁ with heap := s₁.heap.push o }) → ∀ E', wpAny (model prog w) A (pyIter xv) Q' E' s₁) ∧
    (∀ i j m h h' o nw, St i h → h.get? s₁.heap.objs.size = some o → h'.get? s₁.heap.objs.size = some o → (∀ b o, h₀.get? b = some o → h'.get? b = some o) → News h₀ L h' nw → J j m nw → St i h') ∧
    (∀ g, TurnsF prog w A h₀ L env x body Q E { s₁ with heap := g } n P J) ∧
    (∀ m' nw h tk, Fr h₀ L h m' → News h₀ L h nw → J n m' nw → Q .next { s₁ with heap := h, toks := tk })
theorem for_J {x : Str} {px pos : Pos} {iter : Expr} {body : List Stmt} {Q : Flow → Shared → Prop} (_F : Fr h₀ L s.heap m)
    (h : wpAny (model prog w) A (eval iter env) (SrcF prog w A h₀ L env x body Q E) E s)
    (hs : ∀ x, foldedSetIterable iter env x = pure x := by intro _; rfl) (hE : PassesOwn (model prog w) A env E := by passes_own) :
    wpAny (model prog w) A (exec (.For (.Name x px) iter body [] pos) env) Q E s := by
  refine wpAny_For (wpAny_mono h (fun xv s₁ h₁ => ?_) fun _ _ e => e) hs
  obtain ⟨m, n, P, St, fp, news, J, F, N, hJ, hIo, hit, hSt, turn, fin⟩ := h₁
  refine hit _ (fun o W st => ?_) _
  have up : ∀ b o', s₁.heap.get? b = some o' → (s₁.heap.push o).get? b = some o' := fun b o' e => Heap.get?_push_of_some _ e
  exact loop_F W hIo hSt st (F.keeps up) (N.grown up) (Nat.ne_of_lt F.ns.lt) (next_is_new F) (fun p hp => Nat.ne_of_lt (Heap.lt_size (N p hp).1)) hJ hE (turn _) fun m' nw h tk F' N' hJ' => fin m' nw h tk F' N' hJ'
theorem SrcF.list {x : Str} {body : List Stmt} {Q : Flow → Shared → Prop} {ax : Addr} {vs : List Value} {k : Nat} {news : List (Addr × Obj)} (J : Nat → (Str → Option Value) → List (Addr × Obj) → Prop)
    (hh : A.handled = none) (F : Fr h₀ L s.heap m) (N : News h₀ L s.heap news) (hm : (ax, listOf vs.toArray k) ∈ news) (hJm : ∀ j m nw, J j m nw → (ax, listOf vs.toArray k) ∈ nw) (hJ : J 0 m news)
    (turn : ∀ g, TurnsF prog w A h₀ L env x body Q E { s with heap := g } vs.length (fun i v => vs[i]? = some v) J)
    (fin : ∀ m' nw h tk, Fr h₀ L h m' → News h₀ L h nw → J vs.length m' nw → Q .next { s with heap := h, toks := tk }) :
    SrcF prog w A h₀ L env x body Q E (.ref ax) s := by
  have hl := memList N hm
  have hlt : ax < s.heap.objs.size := Heap.lt_size (N _ hm).1
  have hvs : vs.toArray.size = vs.length := by simp
  refine ⟨m, vs.length, fun i v => vs[i]? = some v, fun i h => h.IsListIter s.heap.objs.size ax i ∧ h.IsList ax vs.toArray, [s.heap.objs.size, ax], news, J, F, N, hJ, ?_, ?_, ?_, turn, fin⟩
  · intro i h st
    obtain ⟨o, e, _⟩ := st.1
    exact ⟨o, e⟩
  · intro Q' hQ' E'
    refine wpAny_pyIter_list hl (hQ' _ ?_ ⟨⟨_, Heap.get?_push_size _ rfl, rfl, rfl⟩, hl.push _⟩)
    have W := Walks.list (prog := prog) (w := w) hh s.heap.objs.size ax (Nat.ne_of_lt hlt) vs.toArray
    rw [hvs] at W
    exact { sub := W.sub, frame := W.frame, done := W.done, self := W.self, item := fun i s Q E hi st hQ => W.item i s Q E hi st fun v h' tk hP => hQ v h' tk (by simpa using hP) }
  · intro i j m h h' o nw st e e' hk N' hJ'
    exact ⟨by obtain ⟨o', q, r⟩ := st.1; rw [e] at q; cases q; exact ⟨o, e', r⟩, ⟨_, (N' _ (hJm _ _ _ hJ')).1, rfl, k, rfl⟩⟩
theorem SrcF.range {x : Str} {body : List Stmt} {Q : Flow → Shared → Prop} {r : Addr} {a b c : Int} {t u v : Tok} {n : Nat} {news : List (Addr × Obj)} (J : Nat → (Str → Option Value) → List (Addr × Obj) → Prop)
    (hh : A.handled = none) (F : Fr h₀ L s.heap m) (N : News h₀ L s.heap news) (hr : IsRange s.heap r a b c t u v) (hsm : Builtin.Range.small a b c = true) (hn : Builtin.Range.rangeSize a b c = ((n : Nat) : Int)) (hJ : J 0 m news)
    (turn : ∀ g, TurnsF prog w A h₀ L env x body Q E { s with heap := g } n (fun i v => ∃ t, v = .int (a + i * c) t) J)
    (fin : ∀ m' nw h tk, Fr h₀ L h m' → News h₀ L h nw → J n m' nw → Q .next { s with heap := h, toks := tk }) :
    SrcF prog w A h₀ L env x body Q E (.ref r) s := by
  refine ⟨m, n, _, _, _, news, J, F, N, hJ, ?_, fun Q' hQ' E' => wpAny_pyIter_range hr hsm (hQ' _ (Walks.range hh s.heap.objs.size a c n) ?_), ?_, turn, fin⟩
  · intro i h st
    exact ⟨_, st⟩
  · show IsRangeIter _ _ _ _ _
    rw [hn]
    simpa using Heap.get?_push_size _ rfl
  · intro i j m h h' o nw st e e' hk N' hJ'
    have st' : h.get? s.heap.objs.size = some _ := st
    show h'.get? s.heap.objs.size = some _
    rw [e', ← e]; exact st'
end
end
section
theorem off1_of {D : Addr} : ∀ {l : List (Addr × Obj)}, (∀ p ∈ l, p.1 ≠ D) → Off1 D l
  | [], _ => trivial
  | _ :: _, h => ⟨h _ (.head _), off1_of fun p hp => h p (.tail _ hp)⟩
theorem off1_cut {D : Addr} {l r : List (Addr × Obj)} {a b : Addr × Obj} (h : Off1 D (l ++ a :: b :: r)) : Off1 D (l ++ r) := off1_of fun p hp => off1_ne h p (by
  rcases List.mem_append.mp hp with hp | hp
  · exact List.mem_append.mpr (.inl hp)
  · exact List.mem_append.mpr (.inr (.tail _ (.tail _ hp))))
theorem subMid {l r all : List (Addr × Obj)} (h1 : ∀ p ∈ l, p ∈ all) (h2 : ∀ p ∈ r, p ∈ all) : ∀ p ∈ l ++ r, p ∈ all := fun p hp => (List.mem_append.mp hp).elim (h1 p) (h2 p)
theorem datRep {l : List (Addr × Obj)} {v : Value} {d : Dat} (h : DatIn l v d) : ∀ n, DatAll l (List.replicate n v) (List.replicate n d)
  | 0 => .nil
  | n + 1 => .cons h (datRep h n)
end
section
section
variable {M : Model} {A : Around} {R : GenEnd} {Y : Protocol} {n : Nat} {s₀ : Shared} {c : Code} {fs : List Frame} {s : Shared} {env : Env}
  {K : Flow → Sem Fin} {H : Value → Sem Fin} {gd : Bool → Bool} {lv : List Value → List Value}
theorem seg_If {test : Expr} {body orelse : List Stmt} {pos : Pos}
    (h : wpAny M (A.over c fs) (isTrue test env (eval test env)) (fun b s' => if b = true then Seg M A R Y n s₀ c ((execs body env).wrap K H gd lv) fs s' else Seg M A R Y n s₀ c ((execs orelse env).wrap K H gd lv) fs s') (fun _ _ => False) s) :
    Seg M A R Y n s₀ c ((exec (.If test body orelse pos) env).wrap K H gd lv) fs s := by
  rw [exec_If]
  refine seg_at ?_
  show Seg M A R Y n s₀ c (((isTrue test env (eval test env)) >>= fun b => if b = true then execs body env else execs orelse env).wrap K H gd lv) fs s
  rw [Sem.bind_eq_wrap', Sem.wrap_wrap]
  refine seg_wrap (wpAny_mono h (fun b s' hb => ?_) fun _ _ e => e.elim)
  cases b with
  | true => simpa using hb
  | false => simpa using hb
/-- a statement that yields nothing -/
theorem seg_plain {st : Stmt} (h : wpAny M (A.over c fs) (exec st env) (fun f s' => Seg M A R Y n s₀ c (K f) fs s') (fun _ _ => False) s) :
    Seg M A R Y n s₀ c ((exec st env).wrap K H gd lv) fs s := seg_wrap (wpAny_mono h (fun _ _ q => q) fun _ _ e => e.elim)
abbrev KFor (env : Env) (K : Flow → Sem Fin) (H : Value → Sem Fin) (gd : Bool → Bool) (lv : List Value → List Value) : Result → Sem Fin := fun r => ((match r with | .ok f => (.pure f : Sem Flow) | .error e => .raise e).onRaise fun (x : Value) => do
        if (← field x 1) == Value.none then unsupported "frame.own-activation:exception-without-traceback"
        setFlight x env.frame).wrap K H gd lv
theorem seg_For {target iter : Expr} {body orelse : List Stmt} {pos : Pos}
    (h : wpAny M (A.over c fs) (eval iter env) (fun x s₁ => wpAny M (A.over c fs) (pyIter x) (fun it s₂ => ∀ p, Seg M A R Y n s₀ (.forLoop target it body orelse env) (M.den (.forLoop target it body orelse env))
      (.ret (KFor env K H gd lv) none (gd false) (lv []) c p [] :: fs) s₂) (fun _ _ => False) s₁) (fun _ _ => False) s)
    (hs : ∀ x, foldedSetIterable iter env x = pure x := by intro _; rfl) :
    Seg M A R Y n s₀ c ((exec (.For target iter body orelse pos) env).wrap K H gd lv) fs s := by
  rw [exec_For]
  refine seg_at ?_
  show Seg M A R Y n s₀ c (((eval iter env) >>= fun x => (foldedSetIterable iter env x >>= fun x => standAt iter.pos >>= fun _ => holding [x] (pyIter x) >>= fun it => runOwn (.forLoop target it body orelse env) env)).wrap K H gd lv) fs s
  rw [Sem.bind_eq_wrap', Sem.wrap_wrap]
  refine seg_wrap (wpAny_mono h (fun x s₁ h₁ => ?_) fun _ _ e => e.elim)
  rw [hs x]
  show Seg M A R Y n s₀ c ((standAt iter.pos >>= fun _ => holding [x] (pyIter x) >>= fun it => runOwn (.forLoop target it body orelse env) env).wrap K H gd lv) fs s₁
  refine seg_at ?_
  show Seg M A R Y n s₀ c ((holding [x] (pyIter x) >>= fun it => runOwn (.forLoop target it body orelse env) env).wrap K H gd lv) fs s₁
  rw [Sem.bind_eq_wrap', Sem.wrap_wrap]
  refine seg_wrap (wpAny_holding (wpAny_mono h₁ (fun it s₂ h₂ => ?_) fun _ _ e => e.elim))
  exact seg_call h₂
end
section
variable {prog : Program} {w : World} {A : Around} {R : GenEnd} {Y : Protocol} {n : Nat} {s₀ : Shared} {fs : List Frame} {s : Shared} {env : Env}
abbrev KTurn (cF : Code) : Flow → Sem Fin := fun f => match f with
            | .next | .cont => .pure (.again cF)
            | .brk => .pure (.done .next)
            | .ret v => .pure (.done (.ret v))
abbrev HTurn (env : Env) : Value → Sem Fin := fun e => (do noteFrame e env; theTreesLotGoes e : Sem Unit).wrap (fun _ => .raise e) .raise id id
theorem seg_forLoop {target : Expr} {it : Value} {body orelse : List Stmt}
    (h : wpAny (model prog w) (A.over (.forLoop target it body orelse env) fs) (pyNext it) (fun r s₁ => match r with
        | none => Seg (model prog w) A R Y n s₀ (.block orelse env) ((model prog w).den (.block orelse env)) fs s₁
        | some v => wpAny (model prog w) (A.over (.forLoop target it body orelse env) fs) (assign target env v) (fun _ s₂ =>
            Seg (model prog w) A R Y n s₀ (.forLoop target it body orelse env) ((execs body env).wrap (KTurn (.forLoop target it body orelse env)) (HTurn env) id id) fs s₂) (fun _ _ => False) s₁) (fun _ _ => False) s)
    (ht : ∀ v, letOwnedTupleGo target it v = pure () := by intro _; rfl) :
    Seg (model prog w) A R Y n s₀ (.forLoop target it body orelse env) ((model prog w).den (.forLoop target it body orelse env)) fs s := by
  show Seg _ A R Y n s₀ _ ((forTurn target it body orelse env).onRaise (fun x => do noteFrame x env; theTreesLotGoes x)) fs s
  unfold forTurn
  rw [Sem.onRaise_eq_wrap]
  refine seg_bind_wrap (wpAny_standAt ?_)
  refine seg_bind_wrap (wpAny_onRaise (wpAny_mono h (fun r s₁ h₁ => ?_) fun _ _ e => e.elim))
  cases r with
  | none => exact seg_again rfl h₁
  | some v =>
    dsimp only at h₁ ⊢
    rw [ht v]
    refine seg_bind_wrap (m := pure ()) (wpAny_pure ?_)
    refine seg_bind_wrap (wpAny_mono h₁ (fun _ s₂ h₂ => ?_) fun _ _ e => e.elim)
    rw [Sem.bind_eq_wrap', Sem.wrap_wrap]
    rw [Sem.wrap_congr (execs body env) _ _ (K' := KTurn (.forLoop target it body orelse env)) (H' := HTurn env)
        (fun f => by cases f <;> rfl)
        (fun e => by first | exact Sem.bind_eq_wrap _ _ | (show (do noteFrame e env; theTreesLotGoes e : Sem Unit).bind (fun _ => .raise e) = _; rw [Sem.bind_eq_wrap]))]
    exact h₂
end
end
section
abbrev gobjOf (n : Nat) (nm qn : Value) : Obj := { cls := .type "generator", data := .fields #[.int n 0, nm, qn] }
section
variable {prog : Program} {w : World} {A A₀ : Around} {s : Shared} {base h₀ : Heap} {L : Addr} {m : Str → Option Value} {news : List (Addr × Obj)} {K : Frag} {p : Program} {loose : List Str} {mean : ExcName → Option Value} {mg mb : Str → Option Value}
/-- a call of a generator def: the frame's block and the generator are laid, nothing is run -/
theorem code_gen {env : Env} {outer : List Env} {R : Result → Shared → Prop} {name qual : Str} {params : Arguments} {body : List Stmt} {scope : Scope} {dV kV doc pm cdv ct oc : Value} {an od : Option Addr} {osl : Array (Option Value)} {f : Addr} {args : Args} {binds : List (Str × Value)}
    (B : Below A₀ base outer h₀) (F : Fr h₀ L s.heap m) (X₀ : K.In h₀) (N : News h₀ L s.heap news) (T : Top p loose mean mg mb h₀) (hA : A.frames = some (env :: outer)) (hf : env.frame = some L) (hke : env.scope.kind = .function)
    (ho : K.lookup f = some ⟨oc, od, .func (fnOf name qual params body scope dV kV doc pm an cdv ct), osl⟩) (hcd : codeIn K cdv qual = true) (hroom : A.depth < recursionLimit)
    (hbind : BindsTo s (fnOf name qual params body scope dV kV doc pm an cdv ct) args binds) (hloc : ∀ y ∈ binds, scope.names.lookup y.1 = some .local)
    (h : ∀ g L' G h₂ tk nm qn, Fr h₀ L g m → Fr g L' h₂ (fun y => binds.reverse.lookup y) → News g L' h₂ ((G, gobjOf s.gens.size nm qn) :: news) → Below A base (env :: outer) g → K.In g → Top p loose mean mg mb g → (∀ p ∈ news, p.1 < L') → (∀ p ∈ news, p.1 < G) → (@LT.lt Nat _ L' G) →
      R (.ok (.ret (.ref G))) { s with heap := h₂, toks := tk, gens := s.gens.push (.fresh (.func body (envX qual scope L' f cdv []))) })
    (hcell : ∀ x ∈ scope.names, x.2 ≠ .cell) (hgen : scope.isGenerator = true) (hco : scope.isCoroutine = false := by rfl) (hk : scope.kind = .function := by rfl) : codeAny (model prog w) A (.call (.ref f) args) R s := by
  obtain ⟨FG, BG, st, lv⟩ := groundX (R := R) B F N hA hf hke
  have X := X₀.keeps F.keep
  refine codeAny_call_generator (fd := fnOf name qual params body scope dV kV doc pm an cdv ct) (body := body) hroom (X _ _ ho) rfl hco hgen rfl (codeRec_of X hcd) (hbind _ _ _ _ ?_)
  refine wpAny_newFunctionEnv hcell hloc (fun h₁ hns hsb => ?_) hk
  have up : ∀ b o, s.heap.get? b = some o → h₁.get? b = some o := fun b o e => hsb.extBut b o (Nat.ne_of_lt (Heap.lt_size e)) (Heap.get?_push_of_some _ e)
  refine ⟨(T.nolimit.keeps F.keep).keeps up, ?_⟩
  have hsz : h₁.objs.size = s.heap.objs.size + 1 := hsb.1.trans (Heap.size_push ..)
  have up2 : ∀ (o' : Obj) b o, h₁.get? b = some o → (h₁.push o').get? b = some o := fun o' b o e => Heap.get?_push_of_some _ e
  refine h (hideAll s.heap (news.map fun (x : Addr × Obj) => x.1)) s.heap.objs.size h₁.objs.size _ _ (.str name (s.toks + binds.length)) (.str qual (s.toks + binds.length + 1)) FG ⟨?_, fun b o e => up2 _ b o (up b o (of_hideAll _ e)), Nat.le_of_eq (hideAll_size _ _)⟩ ?_ BG (X₀.keeps st) (T.keeps st) (fun p hp => Heap.lt_size (N p hp).1) (fun p hp => Heap.lt_size (up _ _ (N p hp).1)) ?_
  · exact hns.at' fun o e => up2 _ _ o e
  · intro q hq
    rcases List.mem_cons.mp hq with rfl | hq
    · refine ⟨Heap.get?_push_size _ rfl, ?_, Heap.get?_none_of_le ?_⟩
      · show h₁.objs.size ≠ s.heap.objs.size
        rw [hsz]; exact Nat.succ_ne_self _
      · rw [hideAll_size, hsz]; exact Nat.le_succ _
    · exact ⟨up2 _ _ _ (up _ _ (N q hq).1), Nat.ne_of_lt (Heap.lt_size (N q hq).1), hideAll_none _ (List.mem_map_of_mem hq)⟩
  · show s.heap.objs.size < h₁.objs.size
    rw [hsz]; exact Nat.lt_succ_self _
end
end
section
/-- what stands at a yield: the consumer's list, its block, the generator and what the generator's run keeps; the consumer appends and goes on -/
def YieldL (g : Heap) (L' : Addr) (sr : Shared) (D C G : Addr) (gO : Obj) : Protocol := fun _ _ v s kap =>
  ∃ h tk m ys oC mC led, s = { sr with heap := h, toks := tk } ∧ Fr g L' h m ∧ NsObj oC mC ∧ News g L' h ((D, lst ys) :: (C, oC) :: (G, gO) :: led) ∧ Off3 G C D led ∧ ys.length < 1000 ∧
    ∀ h' tk' oC' mC', NsObj oC' mC' → Fr g L' h' m → News g L' h' ((D, lst (ys ++ [v])) :: (C, oC') :: (G, gO) :: led) → kap (.send .none) { sr with heap := h', toks := tk' }
def DoneL (g : Heap) (L' : Addr) (sr : Shared) (D C G : Addr) (gO : Obj) (Done : List Value → List (Addr × Obj) → Prop) (s : Shared) : Prop :=
  ∃ h tk m ys oC mC led, s = { sr with heap := h, toks := tk } ∧ Fr g L' h m ∧ NsObj oC mC ∧ News g L' h ((D, lst ys) :: (C, oC) :: (G, gO) :: led) ∧ Off3 G C D led ∧ Done ys led
abbrev EndL (g : Heap) (L' : Addr) (sr : Shared) (D C G : Addr) (gO : Obj) (Done : List Value → List (Addr × Obj) → Prop) : GenEnd := fun _ _ r s => r = .ok (.ret .none) ∧ DoneL g L' sr D C G gO Done s
section
variable {prog : Program} {w : World} {A : Around} {E : Value → Shared → Prop} {s : Shared} {g : Heap} {L' : Addr} {m' : Str → Option Value} {env : Env}
theorem block_G {iter : Expr} {x : Str} {px pe : Pos} {scope : Scope} {cl : List (Str × Addr)} {pos : Pos} {s₂ : Shared} {G : Addr} {gi : Nat} {nm qn : Value} {c : Code}
    {news : List (Addr × Obj)} {RR : Value → Addr → Result → Shared → Prop} {Done : List Value → List (Addr × Obj) → Prop}
    (hh : A.handled = none) (hroom : A.depth < recursionLimit) (hlim : g.NoLimit) (hgs : s₂.gens[gi]? = some (.fresh c))
    (hcell : ∀ y ∈ scope.names, y.2 ≠ .cell) (hkind : scope.kind = .function) (hx : scope.names.lookup x = some .local) (hdbg : (x == ("__debug__" : Str)) = false)
    (F : Fr g L' s₂.heap m') (N : News g L' s₂.heap ((G, gobjOf gi nm qn) :: news)) (off : ∀ p ∈ news, p.1 ≠ G)
    (seg : ∀ D C oC mC h tk, NsObj oC mC → Fr g L' h m' → News g L' h ((D, lst []) :: (C, oC) :: (G, gobjOf gi nm qn) :: news) → Off3 G C D news → (@Ne Nat D C) → (@Ne Nat D G) → (@Ne Nat C G) → (∀ p ∈ news, @LT.lt Nat _ p.1 D) → (∀ p ∈ news, @LT.lt Nat _ p.1 C) →
      ∃ n, Seg (model prog w) A.in1 (EndL g L' (s₂.setGen gi .running) D C G (gobjOf gi nm qn) Done) (YieldL g L' (s₂.setGen gi .running) D C G (gobjOf gi nm qn)) n { s₂.setGen gi .running with heap := h, toks := tk } c ((model prog w).den c) [] { s₂.setGen gi .running with heap := h, toks := tk })
    (hRR : ∀ D C h tk mC mL ys led, Fr g L' h mL → News g L' h ((D, lst ys) :: led) → Off1 D led → h.Ns C mC → g.get? C = none → g.get? D = none → C ≠ L' → D ≠ L' → C ≠ D → (∀ p ∈ led, p.1 ≠ C) → Done ys led → RR (.ref D) C (.ok .next) { s₂ with heap := h, toks := tk, gens := s₂.gens.setIfInBounds gi .finished }) :
    wpAny (model prog w) A (newList []) (fun acc s₃ => wpAny (model prog w) A (newFunctionEnv scope env.globals cl [] env.qual none .none (some env)) (fun cenv s₄ =>
      codeAny (model prog w) A (.compStart (.ListComp (.Name x pe) [⟨.Name x px, iter, [], 0⟩] scope pos) 0 (.ref G) acc { cenv with scope := relabel scope env }) (RR acc cenv.locals) s₄) E s₃) E s₂ := by
  refine wpAny_newObj_type (wpAny_newFunctionEnv hcell (by intro y hy; simp at hy) (fun h₁ hns₁ hsb₁ => ?_) hkind)
  dsimp only at hns₁ hsb₁ ⊢
  generalize hD : s₂.heap.objs.size = D at hns₁ hsb₁ ⊢
  generalize hH : s₂.heap.push { cls := .type "list", dict := none, data := .seq ([] : List Value).toArray } = H at hns₁ hsb₁ ⊢
  generalize hC : H.objs.size = C at hns₁ hsb₁ ⊢
  have hCD : @Eq Nat C (D + 1) := by rw [← hC, ← hH, Heap.size_push, hD]
  have lowD : ∀ {b o}, s₂.heap.get? b = some o → @LT.lt Nat _ b D := fun e => hD ▸ Heap.lt_size e
  have old : ∀ b o, s₂.heap.get? b = some o → h₁.get? b = some o := fun b o e =>
    hsb₁.extBut b o (Nat.ne_of_lt (ltN (by have := lowD e; omega))) (Heap.get?_push_of_some _ (by rw [← hH]; exact Heap.get?_push_of_some _ e))
  have hacc : h₁.get? D = some (lst []) := hsb₁.extBut _ _ (Nat.ne_of_lt (ltN (by omega))) (Heap.get?_push_of_some _ (by rw [← hH, ← hD]; exact Heap.get?_push_size _ rfl))
  have fresh₀ : ∀ a, D ≤ a → g.get? a = none := fun a ha => by
    cases e : g.get? a with
    | none => rfl
    | some o => exact absurd (lowD (F.keep a o e)) (Nat.not_lt.mpr ha)
  have hD₀ := fresh₀ D (Nat.le_refl _)
  have hC₀ := fresh₀ C (by rw [hCD]; exact Nat.le_succ _)
  have hLlt : @LT.lt Nat _ L' D := hD ▸ F.ns.lt
  have hDL : D ≠ L' := Nat.ne_of_gt hLlt
  have hCL : C ≠ L' := Nat.ne_of_gt (ltN (by omega))
  have hDC : D ≠ C := Nat.ne_of_lt (ltN (by omega))
  have hGlt : @LT.lt Nat _ G D := lowD (N _ List.mem_cons_self).1
  have hDG : D ≠ G := Nat.ne_of_gt hGlt
  have hCG : C ≠ G := Nat.ne_of_gt (ltN (by omega))
  have lowN : ∀ p ∈ news, @LT.lt Nat _ p.1 D := fun p hp => lowD (N p (List.mem_cons_of_mem _ hp)).1
  have off₀ : Off3 G C D news := Off3.of fun p hp => ⟨off p hp, Nat.ne_of_lt (ltN (by have := lowN p hp; omega)), Nat.ne_of_lt (lowN p hp)⟩
  obtain ⟨oC, heC, hoC⟩ := ns_obj hns₁
  have N₁ : News g L' h₁ ((D, lst []) :: (C, oC) :: (G, gobjOf gi nm qn) :: news) := fun p hp => by
    rcases List.mem_cons.mp hp with rfl | hp
    · exact ⟨hacc, hDL, hD₀⟩
    · rcases List.mem_cons.mp hp with rfl | hp
      · exact ⟨heC, hCL, hC₀⟩
      · exact ⟨old _ _ (N p hp).1, (N p hp).2⟩
  have F₁ : Fr g L' h₁ m' := F.keeps old
  have hgsz : gi < s₂.gens.size := by
    rcases Nat.lt_or_ge gi s₂.gens.size with h | h
    · exact h
    · rw [Array.getElem?_eq_none h] at hgs; cases hgs
  have setset : ∀ a b, (s₂.gens.setIfInBounds gi a).setIfInBounds gi b = s₂.gens.setIfInBounds gi b := fun a b => by simp
  have isg : ∀ h : Heap, h.get? G = some (gobjOf gi nm qn) → h.IsGen G gi := fun h e => ⟨_, nm, qn, e, rfl, rfl, rfl⟩
  have loop : ∀ s₃ : Shared, s₃ = { s₂ with heap := h₁, toks := s₂.toks + ([] : List (Str × Value)).length } →
      codeAny (model prog w) A (.compLoop (.ListComp (.Name x pe) [⟨.Name x px, iter, [], 0⟩] scope pos) 0 (.ref G) (.ref D) (compEnvC scope cl C env)) (RR (.ref D) C) s₃ := by
    rintro s₃ rfl
    obtain ⟨n, sg⟩ := seg D C oC _ h₁ (s₂.toks + ([] : List (Str × Value)).length) hoC F₁ N₁ off₀ hDC hDG hCG lowN (fun p hp => by have := lowN p hp; omega)
    have setself : s₂.gens.setIfInBounds gi (.fresh c) = s₂.gens := by
      rw [Array.getElem?_eq_getElem hgsz] at hgs
      rw [← Option.some.inj hgs]
      apply Array.ext
      · simp
      · intro j h1 h2
        rw [Array.getElem_setIfInBounds]
        split
        · subst_vars; rfl
        · rfl
    refine codeAny_compLoop_tests
      (fun k s' => ∃ gs' h' tk, s' = { s₂ with heap := h', toks := tk, gens := s₂.gens.setIfInBounds gi gs' } ∧ h'.get? G = some (gobjOf gi nm qn) ∧ (∀ b o, g.get? b = some o → h'.get? b = some o) ∧
        gs'.Goes (model prog w) A.in1 (EndL g L' (s₂.setGen gi .running) D C G (gobjOf gi nm qn) Done) (YieldL g L' (s₂.setGen gi .running) D C G (gobjOf gi nm qn)) k (.send .none) { s₂.setGen gi .running with heap := h', toks := tk }) ?_ n
      ⟨.fresh c, h₁, _, by rw [setself], old _ _ (N _ List.mem_cons_self).1, F₁.keep, rfl, sg⟩
    rintro k s' ⟨gs', h', tk, rfl, hG', hk', go⟩
    refine wpAny_pyNext_gen (g := gi) (n := k) (gs := gs') (Y := YieldL g L' (s₂.setGen gi .running) D C G (gobjOf gi nm qn)) (P := fun _ _ s₁ => DoneL g L' (s₂.setGen gi .running) D C G (gobjOf gi nm qn) Done s₁) hh (hlim.keeps hk') hroom (isg _ hG') (by simp [hgsz]) ?_ ?_ ?_
    · have e : ({ s₂ with heap := h', toks := tk, gens := s₂.gens.setIfInBounds gi gs' } : Shared).setGen gi .running = { s₂.setGen gi .running with heap := h', toks := tk } := by
        show ({ s₂ with heap := h', toks := tk, gens := (s₂.gens.setIfInBounds gi gs').setIfInBounds gi .running } : Shared) = _
        rw [setset]; rfl
      rw [e]; exact go
    · rintro v s₁ gs₁ ⟨h₂, tk₂, m₂, ys, oC₂, mC₂, led, rfl, F₂, hoC₂, N₂, off₂, hl, kap⟩
      have off3 := off₂.mem
      dsimp only
      have zD := (N₂ (D, lst ys) List.mem_cons_self).1
      have zC := (N₂ (C, oC₂) (List.mem_cons_of_mem _ List.mem_cons_self)).1
      have zG := (N₂ (G, gobjOf gi nm qn) (List.mem_cons_of_mem _ (List.mem_cons_of_mem _ List.mem_cons_self))).1
      refine wpAny_assign_Name (wpAny_storeName_local (lookup_relabel_local hx) (hoC₂.ns zC) (fun h₃ hn₃ hs₃ => ?_) (by simp [compEnvC, relabel, hkind]))
      refine wpAny_tests_nil ?_
      simp only [if_true]
      refine wpAny_Name (wpAny_loadName_local (v := v) (by simp [compEnvC, relabel, hkind]) (lookup_relabel_local hx) hn₃ (by simp) ?_) hdbg
      have zD₃ : h₃.get? D = some (lst ys) := hs₃.extBut _ _ hDC zD
      refine append_at (hsz := by show ys.toArray.size ≤ sizeLine; rw [List.size_toArray, sizeLine_eq]; omega) zD₃ fun h₄ hs₄ hD₄ => ?_
      have hn₄ := hn₃.sameBut hs₄ (Ne.symm hDC)
      obtain ⟨oC₄, heC₄, hoC₄⟩ := ns_obj hn₄
      have F₄ : Fr g L' h₄ m₂ := (F₂.change hs₃ hCL hC₀).change hs₄ hDL hD₀
      have N₄ : News g L' h₄ ((D, lst (ys ++ [v])) :: (C, oC₄) :: (G, gobjOf gi nm qn) :: led) := fun p hp => by
        rcases List.mem_cons.mp hp with rfl | hp
        · exact ⟨hD₄.trans (congrArg some (lst_snoc ys v)), hDL, hD₀⟩
        · rcases List.mem_cons.mp hp with rfl | hp
          · exact ⟨heC₄, hCL, hC₀⟩
          · have z := N₂ p (List.mem_cons_of_mem _ (List.mem_cons_of_mem _ hp))
            refine ⟨hs₄.extBut _ _ ?_ (hs₃.extBut _ _ ?_ z.1), z.2⟩
            · rcases List.mem_cons.mp hp with rfl | hp
              · exact Ne.symm hDG
              · exact (off3 p hp).2.2
            · rcases List.mem_cons.mp hp with rfl | hp
              · exact Ne.symm hCG
              · exact (off3 p hp).2.1
      have kk := fun tk => kap h₄ tk oC₄ _ hoC₄ F₄ N₄
      cases k with
      | zero => exact (kk 0).elim
      | succ k =>
        refine ⟨k, Nat.lt_succ_self _, gs₁, h₄, tk₂ + 1, ?_, hs₄.extBut _ _ (Ne.symm hDG) (hs₃.extBut _ _ (Ne.symm hCG) zG), F₄.keep, kk _⟩
        show ({ s₂ with heap := h₄, toks := _, gens := (s₂.gens.setIfInBounds gi .running).setIfInBounds gi gs₁ } : Shared) = _
        rw [setset]
        rfl
    · rintro s₁ ⟨h₂, tk₂, m₂, ys, oC₂, mC₂, led, rfl, F₂, hoC₂, N₂, off₂, hd⟩ h₃ hk₃
      have off3 := off₂.mem
      have zC := (N₂ (C, oC₂) (List.mem_cons_of_mem _ List.mem_cons_self)).1
      have q := hRR D C h₃ tk₂ mC₂ m₂ ys led (F₂.keeps hk₃) (fun p hp => by
        rcases List.mem_cons.mp hp with rfl | hp
        · exact ⟨hk₃ _ _ (N₂ _ List.mem_cons_self).1, hDL, hD₀⟩
        · have z := N₂ p (List.mem_cons_of_mem _ (List.mem_cons_of_mem _ (List.mem_cons_of_mem _ hp)))
          exact ⟨hk₃ _ _ z.1, z.2⟩) off₂.one ((hoC₂.ns zC).keeps hk₃) hC₀ hD₀ hCL hDL (Ne.symm hDC) (fun p hp => (off3 p hp).2.1) hd
      show RR (.ref D) C (.ok .next) { s₂ with heap := h₃, toks := tk₂, gens := (s₂.gens.setIfInBounds gi .running).setIfInBounds gi .finished }
      rw [setset]; exact q
  exact codeAny_compStart_list (loop _ rfl) (wpAny_pyIter_gen (isg _ (N₁ _ (List.mem_cons_of_mem _ (List.mem_cons_of_mem _ List.mem_cons_self))).1) (loop _ rfl))
end
end
section
section
variable {prog : Program} {w : World} {A : Around} {E : Value → Shared → Prop} {s : Shared} {h₀ : Heap} {L : Addr} {m : Str → Option Value} {env : Env}
/-- what a comprehension's source must show where it is a fresh generator -/
def SrcG (prog : Program) (w : World) (A : Around) (h₀ : Heap) (L : Addr) (m : Str → Option Value) (mF : Addr → Str → Option Value) (Q : Value → Shared → Prop) (xv : Value) (s₁ : Shared) : Prop :=
  ∃ (G : Addr) (gi : Nat) (nm qn : Value) (c : Code) (g : Heap) (L' : Addr) (m' : Str → Option Value) (news : List (Addr × Obj)) (Done : List Value → List (Addr × Obj) → Prop),
    xv = .ref G ∧ g.NoLimit ∧ s₁.gens[gi]? = some (.fresh c) ∧ Fr h₀ L g m ∧ Fr g L' s₁.heap m' ∧ News g L' s₁.heap ((G, gobjOf gi nm qn) :: news) ∧ (∀ p ∈ news, p.1 ≠ G) ∧
    (∀ D C oC mC h tk, NsObj oC mC → Fr g L' h m' → News g L' h ((D, lst []) :: (C, oC) :: (G, gobjOf gi nm qn) :: news) → Off3 G C D news → (@Ne Nat D C) → (@Ne Nat D G) → (@Ne Nat C G) → (∀ p ∈ news, @LT.lt Nat _ p.1 D) → (∀ p ∈ news, @LT.lt Nat _ p.1 C) →
      ∃ n, Seg (model prog w) A.in1 (EndL g L' (s₁.setGen gi .running) D C G (gobjOf gi nm qn) Done) (YieldL g L' (s₁.setGen gi .running) D C G (gobjOf gi nm qn)) n { s₁.setGen gi .running with heap := h, toks := tk } c ((model prog w).den c) [] { s₁.setGen gi .running with heap := h, toks := tk }) ∧
    (∀ D ys led h tk, Fr h₀ L h (mF D) → News h₀ L h ((D, lst ys) :: led) → Off1 D led → Done ys led → Q (.ref D) { s₁ with heap := h, toks := tk, gens := s₁.gens.setIfInBounds gi .finished })
theorem news_out {g h : Heap} {L' : Addr} {led : List (Addr × Obj)} (FG : Fr h₀ L g m) (N : News g L' h led) : News h₀ L h led := fun p hp => by
  obtain ⟨h1, _, h3⟩ := N p hp
  refine ⟨h1, fun e => ?_, ?_⟩
  · obtain ⟨oL, hL⟩ := FG.ns
    rw [e, hL.choose_spec.choose_spec.1] at h3
    cases h3
  · cases q : h₀.get? p.1 with
    | none => rfl
    | some o =>
      rw [FG.keep _ _ q] at h3
      cases h3
theorem listComp_G {iter : Expr} {x : Str} {px pe : Pos} {scope : Scope} {cl : List (Str × Addr)} {pos : Pos} {Q : Value → Shared → Prop} (_F : Fr h₀ L s.heap m) (hh : A.handled = none) (hroom : A.depth < recursionLimit)
    (hclos : closureFor scope env = pure cl) (hcell : ∀ y ∈ scope.names, y.2 ≠ .cell) (hkind : scope.kind = .function)
    (hnames : ∀ y ∈ scope.names, y.2 = .local → scope.names.lookup y.1 = some .local) (hx : scope.names.lookup x = some .local) (hdbg : (x == ("__debug__" : Str)) = false)
    (h : wpAny (model prog w) A (eval iter env) (SrcG prog w A h₀ L m (fun _ => m) Q) E s)
    (hs : ∀ x, foldedSetIterable iter env x = pure x := by intro _; rfl) :
    wpAny (model prog w) A (eval (.ListComp (.Name x pe) [⟨.Name x px, iter, [], 0⟩] scope pos) env) Q E s := by
  rw [eval_ListComp]
  refine wpAny_comprehension_free (use := none) rfl hs hclos hkind hnames (wpAny_mono h (fun xv s₁ h₁ => ?_) fun _ _ e => e)
  obtain ⟨G, gi, nm, qn, c, g, L', m', news, Done, rfl, hlim, hgs, FG, F, N, off, seg, fin⟩ := h₁
  refine wpAny_pyIter_gen (g := gi) ⟨_, nm, qn, (N _ List.mem_cons_self).1, rfl, rfl, rfl⟩ ?_
  refine block_G hh hroom hlim hgs hcell hkind hx hdbg F N off seg ?_
  intro D C h tk mC mL ys led F' N' o1 hn hC₀ hD₀ hCL hDL hCD offC hd
  have F'' : Fr h₀ L h m := FG.keeps F'.keep
  have N'' := news_out FG N'
  have hC0 : h₀.get? C = none := by
    cases q : h₀.get? C with
    | none => rfl
    | some o => rw [FG.keep _ _ q] at hC₀; cases hC₀
  have hCL' : C ≠ L := fun e => by
    obtain ⟨oL, hL⟩ := FG.ns
    rw [e, hL.choose_spec.choose_spec.1] at hC₀
    cases hC₀
  refine ⟨mC, hn, fun h'' hs'' => fin D ys led h'' tk (F''.change hs'' hCL' hC0) (fun p hp => ?_) o1 hd⟩
  refine ⟨hs''.extBut _ _ ?_ (N'' p hp).1, (N'' p hp).2⟩
  rcases List.mem_cons.mp hp with rfl | hp
  · exact Ne.symm hCD
  · exact offC p hp
theorem assignComp_G {iter : Expr} {x y : Str} {px pe py : Pos} {scope : Scope} {cl : List (Str × Addr)} {pos spos : Pos} {Q : Flow → Shared → Prop} (_F : Fr h₀ L s.heap m) (hh : A.handled = none) (hroom : A.depth < recursionLimit) (hLe : env.locals = L)
    (hsw : swapsWith (.ListComp (.Name x pe) [⟨.Name x px, iter, [], 0⟩] scope pos) (some (.Name y py)) spos.line env = pure true)
    (hclos : closureFor scope env = pure cl) (hcell : ∀ y ∈ scope.names, y.2 ≠ .cell) (hkind : scope.kind = .function)
    (hnames : ∀ y ∈ scope.names, y.2 = .local → scope.names.lookup y.1 = some .local) (hx : scope.names.lookup x = some .local) (hdbg : (x == ("__debug__" : Str)) = false)
    (hy : env.kindOf y = some .local) (hp : (env.scope.kind == .class || (env.scope.kind == .module && env.locals != env.globals)) = false)
    (h : wpAny (model prog w) A (eval iter env) (SrcG prog w A h₀ L m (fun D z => if z = y then some (.ref D) else m z) (fun _ s' => Q .next s')) E s)
    (hs : ∀ x, foldedSetIterable iter env x = pure x := by intro _; rfl) :
    wpAny (model prog w) A (exec (.Assign [.Name y py] (.ListComp (.Name x pe) [⟨.Name x px, iter, [], 0⟩] scope pos) spos) env) Q E s := by
  subst hLe
  rw [exec_Assign_Name_used _ _ _ _ hsw]
  refine wpAny_bind (wpAny_standAt (wpAny_bind ?_))
  show wpAny _ A (do let _ ← comprehension (.ListComp (.Name x pe) [⟨.Name x px, iter, [], 0⟩] scope pos) scope env _ (newList []) false (eval iter env) (some (assign (.Name y py) env))) _ _ s
  refine wpAny_bind (wpAny_mono (wpAny_comprehension_free (use := some (assign (.Name y py) env)) (Q := fun _ s' => Q .next s') rfl hs hclos hkind hnames
    (wpAny_mono h (fun xv s₁ h₁ => ?_) fun _ _ e => e)) (fun _ s' hq => wpAny_pure (wpAny_pure hq)) fun _ _ e => e)
  obtain ⟨G, gi, nm, qn, c, g, L', m', news, Done, rfl, hlim, hgs, FG, F, N, off, seg, fin⟩ := h₁
  refine wpAny_pyIter_gen (g := gi) ⟨_, nm, qn, (N _ List.mem_cons_self).1, rfl, rfl, rfl⟩ ?_
  refine block_G hh hroom hlim hgs hcell hkind hx hdbg F N off seg ?_
  intro D C h tk mC mL ys led F' N' o1 hn hC₀ hD₀ hCL hDL hCD offC hd
  have F'' : Fr h₀ env.locals h m := FG.keeps F'.keep
  have N'' := news_out FG N'
  have hC0 : h₀.get? C = none := by
    cases q : h₀.get? C with
    | none => rfl
    | some o => rw [FG.keep _ _ q] at hC₀; cases hC₀
  have hCL' : C ≠ env.locals := fun e => by
    obtain ⟨oL, hL⟩ := FG.ns
    rw [e, hL.choose_spec.choose_spec.1] at hC₀
    cases hC₀
  show wpAny _ A (assign (.Name y py) env (.ref D)) _ _ _
  refine wpAny_assign_Name (wpAny_storeName_local hy F''.ns (fun h₂ hn₂ hs₂ => ?_) hp)
  refine ⟨mC, hn.sameBut hs₂ hCL', fun h'' hs'' => fin D ys led h'' _ ((F''.set hn₂ hs₂).change hs'' hCL' hC0) (fun p hp => ?_) o1 hd⟩
  refine ⟨hs''.extBut _ _ ?_ (hs₂.extBut _ _ (N'' p hp).2.1 (N'' p hp).1), (N'' p hp).2⟩
  rcases List.mem_cons.mp hp with rfl | hp
  · exact Ne.symm hCD
  · exact offC p hp
end
end
section
section
variable {prog : Program} {w : World} {A : Around} {R : GenEnd} {Y : Protocol} {fs : List Frame} {env : Env} {g : Heap} {L' : Addr}
theorem seg_loopW {x : Str} {px : Pos} {body : List Stmt} {s₂ : Shared} {I : Addr} {fp : List Addr} {n : Nat} {P : Nat → Value → Prop} {St : Nat → Heap → Prop} {J : Nat → (Str → Option Value) → List (Addr × Obj) → Nat → Prop}
    (W : Walks prog w (A.over (.forLoop (.Name x px) (.ref I) body [] env) fs) I fp [I] n P St) (hIo : ∀ i h, St i h → ∃ o, h.get? I = some o)
    (hSt : ∀ i j m h h' o nw k, St i h → h.get? I = some o → h'.get? I = some o → (∀ b o, g.get? b = some o → h'.get? b = some o) → News g L' h' nw → J j m nw k → St i h')
    (hIL : L' ≠ I) (hI₀ : g.get? I = none)
    (turn : ∀ i v oI h tk m₁ nw n' s₀, i < n → P i v → J i m₁ nw n' → Fr g L' h m₁ → News g L' h ((I, oI) :: nw) → (∀ p ∈ nw, p.1 ≠ I) →
      (∀ h tk m nw n'' s₀, Fr g L' h m → News g L' h ((I, oI) :: nw) → (∀ p ∈ nw, p.1 ≠ I) → J (i + 1) m nw n'' → Seg (model prog w) A R Y n'' s₀ (.forLoop (.Name x px) (.ref I) body [] env) ((model prog w).den (.forLoop (.Name x px) (.ref I) body [] env)) fs { s₂ with heap := h, toks := tk }) →
      wpAny (model prog w) (A.over (.forLoop (.Name x px) (.ref I) body [] env) fs) (storeName env x v) (fun _ s₃ => Seg (model prog w) A R Y n' s₀ (.forLoop (.Name x px) (.ref I) body [] env) ((execs body env).wrap (KTurn (.forLoop (.Name x px) (.ref I) body [] env)) (HTurn env) id id) fs s₃) (fun _ _ => False) { s₂ with heap := h, toks := tk })
    (fin : ∀ h tk m nw n' s₀, Fr g L' h m → News g L' h nw → J n m nw n' → Seg (model prog w) A R Y n' s₀ (.block [] env) ((model prog w).den (.block [] env)) fs { s₂ with heap := h, toks := tk }) :
    ∀ (j i : Nat), n - i = j → i ≤ n → ∀ h tk m nw n' s₀, St i h → Fr g L' h m → News g L' h nw → (∀ p ∈ nw, p.1 ≠ I) → J i m nw n' →
      Seg (model prog w) A R Y n' s₀ (.forLoop (.Name x px) (.ref I) body [] env) ((model prog w).den (.forLoop (.Name x px) (.ref I) body [] env)) fs { s₂ with heap := h, toks := tk } := by
  intro j
  induction j with
  | zero =>
    intro i hj hi h tk m nw n' s₀ hst F N off hJ
    obtain rfl : i = n := by omega
    refine seg_forLoop (W.done _ _ _ hst fun h₁ tk₁ hk₁ => ?_)
    exact fin h₁ tk₁ m nw n' s₀ (fr_but F hk₁ hIL hI₀) (news_but N hk₁ off) hJ
  | succ j ih =>
    intro i hj hi h tk m nw n' s₀ hst F N off hJ
    have hlt : i < n := by omega
    refine seg_forLoop (W.item i _ _ _ hlt hst fun v h₁ tk₁ hP hst₁ hk₁ => ?_)
    obtain ⟨oI, heI⟩ := hIo _ _ hst₁
    have F₁ : Fr g L' h₁ m := fr_but F hk₁ hIL hI₀
    have N₁ : News g L' h₁ ((I, oI) :: nw) := fun p hp => by
      rcases List.mem_cons.mp hp with rfl | hp
      · exact ⟨heI, Ne.symm hIL, hI₀⟩
      · exact news_but N hk₁ off p hp
    refine wpAny_assign_Name (turn i v oI h₁ tk₁ m nw n' s₀ hlt hP hJ F₁ N₁ off fun h₂ tk₂ m₂ nw₂ n₂ s₀' F₂ N₂ off₂ hJ₂ => ?_)
    have zI := (N₂ (I, oI) List.mem_cons_self).1
    have N₂' : News g L' h₂ nw₂ := fun p hp => N₂ p (List.mem_cons_of_mem _ hp)
    exact ih (i + 1) (by omega) hlt h₂ tk₂ m₂ nw₂ n₂ s₀' (hSt _ _ _ _ _ _ _ _ hst₁ heI zI F₂.keep N₂' hJ₂) F₂ N₂' off₂ hJ₂
theorem seg_blockNil {n : Nat} {s₀ s : Shared} {K : Flow → Sem Fin} {H : Value → Sem Fin} {gd : Bool → Bool} {lv : List Value → List Value} {c : Code} {p : Pos} {hh gg ll pp}
    (h : Seg (model prog w) A R Y n s₀ c (K .next) fs s) :
    Seg (model prog w) A R Y n s₀ (.block [] env) ((model prog w).den (.block [] env)) (.ret (KFor env K H gd lv) hh gg ll c p pp :: fs) s := by
  show Seg _ A R Y n s₀ _ (leafOf (.ok .next)) _ s
  exact seg_leaf (.ok .next) h
/-- a for loop over a list of the ledger, in a generator -/
theorem seg_forList {x : Str} {px pos : Pos} {iter : Expr} {body : List Stmt} {n : Nat} {s₀ s : Shared} {c : Code} {K : Flow → Sem Fin} {H : Value → Sem Fin} {gd : Bool → Bool} {lv : List Value → List Value} {ax : Addr} {vs : List Value} {k : Nat} {m : Str → Option Value} {news : List (Addr × Obj)}
    (J : Nat → (Str → Option Value) → List (Addr × Obj) → Nat → Prop) (hc : (A.over c fs).handled = none) (hh : ∀ cF p, (A.over cF (.ret (KFor env K H gd lv) none (gd false) (lv []) c p [] :: fs)).handled = none)
    (F : Fr g L' s.heap m) (N : News g L' s.heap news) (hm : (ax, listOf vs.toArray k) ∈ news) (hJm : ∀ j m nw n', J j m nw n' → (ax, listOf vs.toArray k) ∈ nw) (hJ : J 0 m news n)
    (hev : wpAny (model prog w) (A.over c fs) (eval iter env) (fun v s' => v = .ref ax ∧ ∃ tk, s' = { s with toks := tk }) (fun _ _ => False) s)
    (turn : ∀ I p i v oI h tk m₁ nw n' s₀, i < vs.length → vs[i]? = some v → J i m₁ nw n' → Fr g L' h m₁ → News g L' h ((I, oI) :: nw) → (∀ p ∈ nw, p.1 ≠ I) →
      (∀ h tk m nw n'' s₀, Fr g L' h m → News g L' h ((I, oI) :: nw) → (∀ p ∈ nw, p.1 ≠ I) → J (i + 1) m nw n'' → Seg (model prog w) A R Y n'' s₀ (.forLoop (.Name x px) (.ref I) body [] env) ((model prog w).den (.forLoop (.Name x px) (.ref I) body [] env)) (.ret (KFor env K H gd lv) none (gd false) (lv []) c p [] :: fs) { s with heap := h, toks := tk }) →
      wpAny (model prog w) (A.over (.forLoop (.Name x px) (.ref I) body [] env) (.ret (KFor env K H gd lv) none (gd false) (lv []) c p [] :: fs)) (storeName env x v) (fun _ s₃ => Seg (model prog w) A R Y n' s₀ (.forLoop (.Name x px) (.ref I) body [] env) ((execs body env).wrap (KTurn (.forLoop (.Name x px) (.ref I) body [] env)) (HTurn env) id id) (.ret (KFor env K H gd lv) none (gd false) (lv []) c p [] :: fs) s₃) (fun _ _ => False) { s with heap := h, toks := tk })
    (fin : ∀ h tk m nw n' s₀, Fr g L' h m → News g L' h nw → J vs.length m nw n' → Seg (model prog w) A R Y n' s₀ c (K .next) fs { s with heap := h, toks := tk })
    (hs : ∀ x, foldedSetIterable iter env x = pure x := by intro _; rfl) :
    Seg (model prog w) A R Y n s₀ c ((exec (.For (.Name x px) iter body [] pos) env).wrap K H gd lv) fs s := by
  refine seg_For (wpAny_mono hev (fun v s₁ h₁ => ?_) fun _ _ e => e) hs
  obtain ⟨rfl, tk, rfl⟩ := h₁
  have hl := memList N hm
  have hlt : ax < s.heap.objs.size := Heap.lt_size (N _ hm).1
  have hvs : vs.toArray.size = vs.length := by simp
  refine wpAny_pyIter_list hl fun p => ?_
  have up : ∀ (o : Obj) b o', s.heap.get? b = some o' → (s.heap.push o).get? b = some o' := fun o b o' e => Heap.get?_push_of_some _ e
  have W := Walks.list (prog := prog) (w := w) (hh (.forLoop (.Name x px) (.ref s.heap.objs.size) body [] env) p) s.heap.objs.size ax (Nat.ne_of_lt hlt) vs.toArray
  rw [hvs] at W
  have W' : Walks prog w (A.over (.forLoop (.Name x px) (.ref s.heap.objs.size) body [] env) (.ret (KFor env K H gd lv) none (gd false) (lv []) c p [] :: fs)) s.heap.objs.size [s.heap.objs.size, ax] [s.heap.objs.size] vs.length (fun i v => vs[i]? = some v) (fun i h => h.IsListIter s.heap.objs.size ax i ∧ h.IsList ax vs.toArray) :=
    { sub := W.sub, frame := W.frame, done := W.done, self := W.self, item := fun i s Q E hi st hQ => W.item i s Q E hi st fun v h' tk hP => hQ v h' tk (by simpa using hP) }
  refine seg_loopW (s₂ := s) (J := J) W' ?_ ?_ (Nat.ne_of_lt F.ns.lt) (next_is_new F) (fun i v oI h tk m₁ nw n' s₀ hi hP hJ F N off ih => turn _ p i v oI h tk m₁ nw n' s₀ hi hP hJ F N off ih) (fun h tk m nw n' s₀ F N hJ => seg_blockNil (fin h tk m nw n' s₀ F N hJ)) _ 0 rfl (Nat.zero_le _) _ tk m news n s₀ ⟨⟨_, Heap.get?_push_size _ rfl, rfl, rfl⟩, hl.push _⟩ (F.keeps (up _)) (N.grown (up _)) (fun p hp => Nat.ne_of_lt (Heap.lt_size (N p hp).1)) hJ
  · intro i h st
    obtain ⟨o, e, _⟩ := st.1
    exact ⟨o, e⟩
  · intro i j m h h' o nw k' st e e' hk N' hJ'
    exact ⟨by obtain ⟨o', q, r⟩ := st.1; rw [e] at q; cases q; exact ⟨o, e', r⟩, ⟨_, (N' _ (hJm _ _ _ _ hJ')).1, rfl, k, rfl⟩⟩
end
end
section
/-- the tree of questions ends where P holds, each question answered by lt and asked within n -/
def TSays {α : Type} (lt : Nat → Nat → Bool) (n : Nat) : KasT α → (α → Prop) → Prop
  | .ret a, P => P a
  | .ask i j k, P => i < n ∧ j < n ∧ TSays lt n (k (lt i j)) P
theorem TSays.bind {α β : Type} {lt : Nat → Nat → Bool} {n : Nat} {f : α → KasT β} {P : β → Prop} : ∀ {t : KasT α}, TSays lt n t (fun a => TSays lt n (f a) P) → TSays lt n (t.bind f) P
  | .ret _, h => h
  | .ask _ _ _, h => ⟨h.1, h.2.1, TSays.bind h.2.2⟩
theorem TSays.mono {α : Type} {lt : Nat → Nat → Bool} {n : Nat} {P P' : α → Prop} (hp : ∀ a, P a → P' a) : ∀ {t : KasT α}, TSays lt n t P → TSays lt n t P'
  | .ret _, h => hp _ h
  | .ask _ _ _, h => ⟨h.1, h.2.1, TSays.mono hp h.2.2⟩
theorem TSays.wp {α : Type} {lt : Nat → Nat → Bool} {n : Nat} {cmp : Nat → Nat → (Bool → Shared → Prop) → Shared → Prop} (I : Shared → Prop) {Q : α → Shared → Prop} {P : α → Prop}
    (hc : ∀ i j C s, i < n → j < n → I s → (∀ s', I s' → C (lt i j) s') → cmp i j C s) (hq : ∀ a s, P a → I s → Q a s) : ∀ {t : KasT α} {s : Shared}, TSays lt n t P → I s → t.kasWp cmp Q s
  | .ret _, s, h, hI => hq _ s h hI
  | .ask _ _ _, s, h, hI => hc _ _ _ s h.1 h.2.1 hI fun s' hI' => TSays.wp I hc hq h.2.2 hI'
/-- a strict weak order -/
structure Weak (lt : Nat → Nat → Bool) : Prop where
  irr : ∀ i, lt i i = false
  tr : ∀ i j k, lt i j = true → lt j k = true → lt i k = true
  nt : ∀ i j k, lt i j = false → lt j k = false → lt i k = false
def Bef (lt : Nat → Nat → Bool) (i j : Nat) : Prop := lt i j = true ∨ (lt j i = false ∧ i < j)
namespace Weak
variable {lt : Nat → Nat → Bool} (W : Weak lt)
include W
theorem asym {i j : Nat} (h : lt i j = true) : lt j i = false := by
  cases e : lt j i with
  | false => rfl
  | true => have := W.tr _ _ _ h e; rw [W.irr] at this; cases this
theorem lt_of_lt_of_not {i j k : Nat} (h : lt i j = true) (h' : lt k j = false) : lt i k = true := by
  cases e : lt i k with
  | true => rfl
  | false => have := W.nt _ _ _ e h'; rw [h] at this; cases this
theorem lt_of_not_of_lt {i j k : Nat} (h : lt j i = false) (h' : lt j k = true) : lt i k = true := by
  cases e : lt i k with
  | true => rfl
  | false => have := W.nt _ _ _ h e; rw [h'] at this; cases this
theorem bef_not {i j : Nat} (h : Bef lt i j) : lt j i = false := h.elim (fun h => W.asym h) fun h => h.1
theorem bef_tr {i j k : Nat} (h : Bef lt i j) (h' : Bef lt j k) : Bef lt i k := by
  rcases h with h | ⟨h, hl⟩
  · exact .inl (W.lt_of_lt_of_not h (W.bef_not h'))
  · rcases h' with h' | ⟨h', hl'⟩
    · exact .inl (W.lt_of_not_of_lt h h')
    · exact .inr ⟨W.nt _ _ _ h' h, by omega⟩
theorem bef_irr {i : Nat} (h : Bef lt i i) : False := by
  rcases h with h | ⟨_, h⟩
  · rw [W.irr] at h; cases h
  · omega
end Weak
section
variable {p : Array Nat}
theorem rev_at {i j : Nat} (hj : j ≤ p.size) (k : Nat) : (kas_rev p i j).getD k 0 = if i ≤ k ∧ k < j then p.getD (i + j - 1 - k) 0 else p.getD k 0 := by
  have h := getElem?_mirror_all (xs := p) (i := i) hj k
  unfold kas_rev
  simp only [Array.getD_eq_getD_getElem?, h]
  split <;> rfl
theorem bub_at {k d : Nat} (hs : k < p.size) (hd : d ≤ k) (x : Nat) : (bubble p k d).getD x 0 = if x = k - d then p.getD k 0 else if k - d < x ∧ x ≤ k then p.getD (x - 1) 0 else p.getD x 0 := by
  have h := getElem?_bubble hs d hd x
  simp only [Array.getD_eq_getD_getElem?, h]
  split
  · rfl
  · split <;> rfl
end
/-- the first m stand in order, they are the first m, the rest stand as they stood -/
structure Upto (lt : Nat → Nat → Bool) (n m : Nat) (p : Array Nat) : Prop where
  size : p.size = n
  perm : p.Perm (List.range n).toArray
  le : m ≤ n
  one : 1 ≤ m
  low : ∀ i, i < m → p.getD i 0 < m
  tail : ∀ k, m ≤ k → k < n → p.getD k 0 = k
  sorted : ∀ i j, i < j → j < m → Bef lt (p.getD i 0) (p.getD j 0)
/-- the same the other way round -/
structure Dwn (lt : Nat → Nat → Bool) (n m : Nat) (p : Array Nat) : Prop where
  size : p.size = n
  perm : p.Perm (List.range n).toArray
  le : m ≤ n
  one : 1 ≤ m
  low : ∀ i, i < m → p.getD i 0 < m
  tail : ∀ k, m ≤ k → k < n → p.getD k 0 = k
  sorted : ∀ i j, i < j → j < m → Bef lt (p.getD j 0) (p.getD i 0)
/-- a descending run, its last q + 1 alike and as they stood -/
structure Run (lt : Nat → Nat → Bool) (n m q : Nat) (p : Array Nat) : Prop where
  size : p.size = n
  perm : p.Perm (List.range n).toArray
  le : m ≤ n
  one : q + 1 ≤ m
  low : ∀ i, i < m → p.getD i 0 < m
  tail : ∀ k, m ≤ k → k < n → p.getD k 0 = k
  first : ∀ i j, i < j → j + (q + 1) < m → Bef lt (p.getD j 0) (p.getD i 0)
  over : ∀ i j, i + (q + 1) < m → m ≤ j + (q + 1) → j < m → lt (p.getD j 0) (p.getD i 0) = true
  last : ∀ i j, m ≤ i + (q + 1) → i < j → j < m → lt (p.getD i 0) (p.getD j 0) = false ∧ lt (p.getD j 0) (p.getD i 0) = false ∧ p.getD i 0 < p.getD j 0
section
variable {lt : Nat → Nat → Bool} {n : Nat} (W : Weak lt)
include W
theorem asc_says {P : Nat → Prop} {p : Array Nat} : ∀ (f m : Nat), Upto lt n m p → m + f ≤ n →
    (∀ m', Upto lt n m' p → m ≤ m' → m' ≤ m + f → (m' < m + f → lt (p.getD m' 0) (p.getD (m' - 1) 0) = true) → P m') → TSays lt n (kas_asc p f m) P
  | 0, m, U, _, h => h m U (Nat.le_refl _) (Nat.le_refl _) (fun h => absurd h (Nat.lt_irrefl _))
  | f + 1, m, U, hf, h => by
    have ht := U.tail m (Nat.le_refl _) (by omega)
    have hl := U.low (m - 1) (by have := U.one; omega)
    refine ⟨by rw [ht]; omega, by omega, ?_⟩
    cases e : lt (p.getD m 0) (p.getD (m - 1) 0) with
    | true => exact h m U (Nat.le_refl _) (by omega) (fun _ => e)
    | false =>
      have hb : Bef lt (p.getD (m - 1) 0) (p.getD m 0) := .inr ⟨e, by rw [ht]; omega⟩
      refine asc_says (f) (m + 1) { size := U.size, perm := U.perm, le := by omega, one := by omega, low := fun i hi => ?_, tail := fun k hk => U.tail k (by omega), sorted := fun i j hij hj => ?_ } (by omega) fun m' U' h1 h2 h3 => h m' U' (by omega) (by omega) fun hlt => h3 (by omega)
      · rcases Nat.lt_or_ge i m with hi' | hi'
        · exact Nat.lt_succ_of_lt (U.low i hi')
        · obtain rfl : i = m := by omega
          rw [ht]; omega
      · rcases Nat.lt_or_ge j m with hj' | hj'
        · exact U.sorted i j hij hj'
        · obtain rfl : j = m := by omega
          rcases Nat.lt_or_ge i (j - 1) with hi' | hi'
          · exact W.bef_tr (U.sorted i (j - 1) hi' (by omega)) hb
          · obtain rfl : i = j - 1 := by omega
            exact hb
omit W in
theorem rev_perm {p : Array Nat} {i j : Nat} (h : p.Perm (List.range n).toArray) : (kas_rev p i j).Perm (List.range n).toArray := (mirror_perm ..).trans h
omit W in
theorem Dwn.rev {m : Nat} {p : Array Nat} (D : Dwn lt n m p) : Upto lt n m (kas_rev p 0 m) := by
  have hz : m ≤ p.size := by rw [D.size]; exact D.le
  refine { size := (kas_rev_size _ _).trans D.size, perm := rev_perm D.perm, le := D.le, one := D.one, low := fun i hi => ?_, tail := fun k hk hk' => ?_, sorted := fun i j hij hj => ?_ }
  · rw [rev_at hz, if_pos ⟨Nat.zero_le _, hi⟩]; exact D.low _ (by omega)
  · rw [rev_at hz, if_neg (by omega)]; exact D.tail k hk hk'
  · rw [rev_at hz, rev_at hz, if_pos ⟨Nat.zero_le _, by omega⟩, if_pos ⟨Nat.zero_le _, hj⟩]
    exact D.sorted _ _ (by omega) (by omega)
theorem Run.dwn {m q : Nat} {p : Array Nat} (D : Run lt n m q p) : Dwn lt n m (kas_rev p (m - (q + 1)) m) := by
  have hz : m ≤ p.size := by rw [D.size]; exact D.le
  have h1 := D.one
  refine { size := (kas_rev_size _ _).trans D.size, perm := rev_perm D.perm, le := D.le, one := by omega, low := fun i hi => ?_, tail := fun k hk hk' => ?_, sorted := fun i j hij hj => ?_ }
  · rw [rev_at hz]
    split
    · exact D.low _ (by omega)
    · exact D.low _ hi
  · rw [rev_at hz, if_neg (by omega)]; exact D.tail k hk hk'
  · rw [rev_at hz, rev_at hz]
    by_cases hi : m - (q + 1) ≤ i
    · rw [if_pos ⟨by omega, hj⟩, if_pos ⟨hi, by omega⟩]
      have z := D.last (m - (q + 1) + m - 1 - j) (m - (q + 1) + m - 1 - i) (by omega) (by omega) (by omega)
      exact .inr ⟨z.2.1, z.2.2⟩
    · by_cases hj' : m - (q + 1) ≤ j
      · rw [if_pos ⟨hj', hj⟩, if_neg (by omega)]
        exact .inl (D.over _ _ (by omega) (by omega) (by omega))
      · rw [if_neg (by omega), if_neg (by omega)]
        exact D.first _ _ hij (by omega)
theorem Run.dwn0 {m : Nat} {p : Array Nat} (D : Run lt n m 0 p) : Dwn lt n m p := by
  have h1 := D.one
  refine { size := D.size, perm := D.perm, le := D.le, one := by omega, low := D.low, tail := D.tail, sorted := fun i j hij hj => ?_ }
  by_cases hj' : j + 1 < m
  · exact D.first _ _ hij (by omega)
  · exact .inl (D.over _ _ (by omega) (by omega) hj)
theorem Dwn.more {m : Nat} {p : Array Nat} (D : Dwn lt n m p) (hm : m < n) (h : lt (p.getD m 0) (p.getD (m - 1) 0) = true) : Run lt n (m + 1) 0 p := by
  have h1 := D.one
  have ht := D.tail m (Nat.le_refl _) hm
  refine { size := D.size, perm := D.perm, le := hm, one := by omega, low := fun i hi => ?_, tail := fun k hk => D.tail k (by omega), first := fun i j hij hj => D.sorted _ _ hij (by omega), over := fun i j hi hj hj' => ?_, last := fun i j hi hij hj => by omega }
  · rcases Nat.lt_or_ge i m with hi' | hi'
    · exact Nat.lt_succ_of_lt (D.low i hi')
    · obtain rfl : i = m := by omega
      rw [ht]; omega
  · obtain rfl : j = m := by omega
    rcases Nat.lt_or_ge i (j - 1) with hi' | hi'
    · exact W.lt_of_lt_of_not h (W.bef_not (D.sorted i (j - 1) hi' (by omega)))
    · obtain rfl : i = j - 1 := by omega
      exact h
theorem desc_says {P : Array Nat × Nat × Nat → Prop} : ∀ (f m q : Nat) (p : Array Nat), Run lt n m q p → m + f ≤ n → (∀ p' m' q', Run lt n m' q' p' → m' ≤ m + f → P (p', m', q')) → TSays lt n (kas_desc f p m q) P
  | 0, m, q, p, D, _, h => h p m q D (Nat.le_refl _)
  | f + 1, m, q, p, D, hf, h => by
    have h1 := D.one
    have ht := D.tail m (Nat.le_refl _) (by omega)
    have hl := D.low (m - 1) (by omega)
    refine ⟨by rw [ht]; omega, by omega, ?_⟩
    cases e : lt (p.getD m 0) (p.getD (m - 1) 0) with
    | true =>
      simp only [if_true]
      by_cases hq : q > 0
      · rw [if_pos hq]
        have hz : m ≤ p.size := by rw [D.size]; exact D.le
        refine desc_says f (m + 1) 0 _ ((D.dwn W).more W (by omega) ?_) (by omega) fun p' m' q' D' hm' => h p' m' q' D' (by omega)
        rw [rev_at hz, if_neg (by omega), rev_at hz, if_pos ⟨by omega, by omega⟩]
        have z := D.last (m - (q + 1)) (m - 1) (by omega) (by omega) (by omega)
        rw [show m - (q + 1) + m - 1 - (m - 1) = m - (q + 1) by omega]
        exact W.lt_of_lt_of_not e z.1
      · rw [if_neg hq]
        obtain rfl : q = 0 := by omega
        exact desc_says f (m + 1) 0 _ ((D.dwn0 W).more W (by omega) e) (by omega) fun p' m' q' D' hm' => h p' m' q' D' (by omega)
    | false =>
      simp only [Bool.false_eq_true, if_false]
      refine ⟨by omega, by rw [ht]; omega, ?_⟩
      cases e' : lt (p.getD (m - 1) 0) (p.getD m 0) with
      | true => exact h p m q D (by omega)
      | false =>
        simp only [Bool.false_eq_true, if_false]
        refine desc_says f (m + 1) (q + 1) p { size := D.size, perm := D.perm, le := by omega, one := by omega, low := fun i hi => ?_, tail := fun k hk => D.tail k (by omega), first := fun i j hij hj => D.first _ _ hij (by omega), over := fun i j hi hj hj' => ?_, last := fun i j hi hij hj => ?_ } (by omega) fun p' m' q' D' hm' => h p' m' q' D' (by omega)
        · rcases Nat.lt_or_ge i m with hi' | hi'
          · exact Nat.lt_succ_of_lt (D.low i hi')
          · obtain rfl : i = m := by omega
            rw [ht]; omega
        · rcases Nat.lt_or_ge j m with hj'' | hj''
          · exact D.over i j (by omega) (by omega) hj''
          · obtain rfl : j = m := by omega
            exact W.lt_of_not_of_lt e' (D.over i (j - 1) (by omega) (by omega) (by omega))
        · rcases Nat.lt_or_ge j m with hj'' | hj''
          · exact D.last i j (by omega) hij hj''
          · obtain rfl : j = m := by omega
            have hli := D.low i hij
            rcases Nat.lt_or_ge i (j - 1) with hi' | hi'
            · have z := D.last i (j - 1) (by omega) hi' (by omega)
              exact ⟨W.nt _ _ _ z.1 e', W.nt _ _ _ e z.2.1, by rw [ht]; exact hli⟩
            · obtain rfl : i = j - 1 := by omega
              exact ⟨e', e, by rw [ht]; exact hli⟩
theorem tail3_says {P : Nat × Array Nat → Prop} {m : Nat} {p : Array Nat} (D : Dwn lt n m p) (h : ∀ m' p', Upto lt n m' p' → P (m', p')) : TSays lt n (kas_tail3 m n p) P :=
  TSays.bind (asc_says W (n - m) m D.rev (by have := D.le; omega) fun m' U _ _ _ => h m' _ U)
theorem descPart_says {P : Nat × Array Nat → Prop} {m : Nat} {p : Array Nat} (D : Run lt n (m + 1) 0 p) (h : ∀ m' p', Upto lt n m' p' → P (m', p')) : TSays lt n (kas_descPart m n p) P := by
  have hle := D.le
  refine TSays.bind (desc_says W (n - (m + 1)) (m + 1) 0 p D (by omega) fun p' m' q' D' hm' => ?_)
  dsimp only
  split
  · exact tail3_says W (D'.dwn W) h
  · obtain rfl : q' = 0 := by omega
    exact tail3_says W (D'.dwn0 W) h
theorem range_at {k : Nat} (h : k < n) : (List.range n).toArray.getD k 0 = k := by
  rw [Array.getD_eq_getD_getElem?]; simp [h]
theorem upto_one (hn : 1 ≤ n) : Upto lt n 1 (List.range n).toArray :=
  { size := by simp, perm := .refl _, le := hn, one := Nat.le_refl _, low := fun i hi => by rw [range_at W (by omega)]; exact hi, tail := fun k _ hk => range_at W hk, sorted := fun i j hij hj => by omega }
theorem count_says {P : Nat × Array Nat → Prop} (hn : 1 ≤ n) (h : ∀ m' p', Upto lt n m' p' → P (m', p')) : TSays lt n (kas_count n (List.range n).toArray) P := by
  refine TSays.bind (asc_says W (n - 1) 1 (upto_one W hn) (by omega) fun m U h1 h2 h3 => ?_)
  split
  · exact h m _ U
  · rename_i hne
    have hlt : m < n := by
      have := U.le
      have : m ≠ n := fun e => hne (by rw [e]; exact beq_self_eq_true _)
      omega
    have e := h3 (by omega)
    have one : ∀ p : Array Nat, Upto lt n m p → (∀ i j, i < m → j < m → lt (p.getD i 0) (p.getD j 0) = false) → lt (p.getD m 0) (p.getD (m - 1) 0) = true → Run lt n (m + 1) 0 (kas_rev p 0 m) := by
      intro p U hall e
      have hz : m ≤ p.size := by rw [U.size]; exact U.le
      refine Dwn.more W { size := (kas_rev_size _ _).trans U.size, perm := rev_perm U.perm, le := U.le, one := U.one, low := fun i hi => ?_, tail := fun k hk hk' => ?_, sorted := fun i j hij hj => ?_ } hlt ?_
      · rw [rev_at hz, if_pos ⟨Nat.zero_le _, hi⟩]; exact U.low _ (by omega)
      · rw [rev_at hz, if_neg (by omega)]; exact U.tail k hk hk'
      · rw [rev_at hz, rev_at hz, if_pos ⟨Nat.zero_le _, hj⟩, if_pos ⟨Nat.zero_le _, by omega⟩]
        exact U.sorted _ _ (by omega) (by omega)
      · rw [rev_at hz, if_neg (by omega), rev_at hz, if_pos ⟨Nat.zero_le _, by omega⟩]
        exact W.lt_of_lt_of_not e (hall _ _ (by omega) (by omega))
    split
    · refine ⟨by rw [range_at W (by omega)]; omega, by rw [range_at W (by omega)]; omega, ?_⟩
      cases e' : lt ((List.range n).toArray.getD 0 0) ((List.range n).toArray.getD (m - 1) 0) with
      | true => exact h m _ U
      | false =>
        refine descPart_says W (one _ U (fun i j hi hj => ?_) e) h
        have a1 : lt ((List.range n).toArray.getD i 0) ((List.range n).toArray.getD (m - 1) 0) = false := by
          by_cases hi0 : i = 0
          · rw [hi0]; exact e'
          · exact W.nt _ _ _ (W.bef_not (U.sorted 0 i (by omega) hi)) e'
        by_cases hjm : j = m - 1
        · rw [hjm]; exact a1
        · exact W.nt _ _ _ a1 (W.bef_not (U.sorted j (m - 1) (by omega) (by omega)))
    · obtain rfl : m = 1 := by have := U.one; omega
      exact descPart_says W (Dwn.more W { size := U.size, perm := U.perm, le := U.le, one := U.one, low := U.low, tail := U.tail, sorted := fun i j hij hj => by omega } hlt e) h
theorem place_says {P : Nat → Prop} {p : Array Nat} {k : Nat} (U : Upto lt n k p) (hk : k < n) : ∀ (f l r : Nat), l ≤ r → r ≤ k → r - l ≤ f → (∀ i, i < l → lt (p.getD k 0) (p.getD i 0) = false) → (∀ i, r ≤ i → i < k → lt (p.getD k 0) (p.getD i 0) = true) →
    (∀ l, l ≤ k → (∀ i, i < l → lt (p.getD k 0) (p.getD i 0) = false) → (∀ i, l ≤ i → i < k → lt (p.getD k 0) (p.getD i 0) = true) → P l) → TSays lt n (kas_place p k f l r) P
  | 0, l, r, hlr, hr, hf, h1, h2, h => h l (by omega) h1 fun i hi hi' => h2 i (by omega) hi'
  | f + 1, l, r, hlr, hr, hf, h1, h2, h => by
    unfold kas_place
    split
    · exact h l (by omega) h1 fun i hi hi' => h2 i (by omega) hi'
    · have ht := U.tail k (Nat.le_refl _) hk
      have hl := U.low ((l + r) / 2) (by omega)
      refine ⟨by rw [ht]; exact hk, by omega, ?_⟩
      cases e : lt (p.getD k 0) (p.getD ((l + r) / 2) 0) with
      | true =>
        simp only [if_true]
        refine place_says U hk f l ((l + r) / 2) (by omega) (by omega) (by omega) h1 (fun i hi hi' => ?_) h
        by_cases hm : i = (l + r) / 2
        · rw [hm]; exact e
        · exact W.lt_of_lt_of_not e (W.bef_not (U.sorted _ _ (by omega) hi'))
      | false =>
        simp only [Bool.false_eq_true, if_false]
        refine place_says U hk f ((l + r) / 2 + 1) r (by omega) hr (by omega) (fun i hi => ?_) h2 h
        by_cases hm : i = (l + r) / 2
        · rw [hm]; exact e
        · exact W.nt _ _ _ e (W.bef_not (U.sorted i _ (by omega) (by omega)))
theorem bin_says {P : Array Nat → Prop} : ∀ (f k : Nat) (p : Array Nat), Upto lt n k p → k + f = n → (∀ p', Upto lt n n p' → P p') → TSays lt n (kas_bin f p k) P
  | 0, k, p, U, hk, h => by
    obtain rfl : k = n := by omega
    exact h p U
  | f + 1, k, p, U, hk, h => by
    have h1 := U.one
    have hz : k < p.size := by rw [U.size]; omega
    have ht := U.tail k (Nat.le_refl _) (by omega)
    refine TSays.bind (place_says W U (by omega) k 0 k (Nat.zero_le _) (Nat.le_refl _) (by omega) (fun i hi => by omega) (fun i hi hi' => by omega) fun l hl hlo hhi => ?_)
    refine bin_says f (k + 1) _ ?_ (by omega) h
    have hd : k - (k - l) = l := by omega
    refine { size := (bubble_size _ _ _).trans U.size, perm := (bubble_perm _ _ _).trans U.perm, le := by omega, one := by omega, low := fun i hi => ?_, tail := fun x hx hx' => ?_, sorted := fun i j hij hj => ?_ }
    · rw [bub_at hz (by omega), hd]
      by_cases hx : i = l
      · rw [if_pos hx, ht]; omega
      · rw [if_neg hx]
        by_cases hy : l < i ∧ i ≤ k
        · rw [if_pos hy]; have := U.low (i - 1) (by omega); omega
        · rw [if_neg hy]; have := U.low i (by omega); omega
    · rw [bub_at hz (by omega), hd, if_neg (by omega), if_neg (by omega)]
      exact U.tail x (by omega) hx'
    · rw [bub_at hz (by omega), bub_at hz (by omega), hd]
      have hb : ∀ x, x < l → Bef lt (p.getD x 0) (p.getD k 0) := fun x hx => .inr ⟨hlo x hx, by rw [ht]; exact U.low x (by omega)⟩
      by_cases hi : i = l
      · rw [if_pos hi, if_neg (by omega), if_pos ⟨by omega, by omega⟩]
        exact .inl (hhi _ (by omega) (by omega))
      · rw [if_neg hi]
        by_cases hi' : l < i ∧ i ≤ k
        · rw [if_pos hi', if_neg (by omega), if_pos ⟨by omega, by omega⟩]
          exact U.sorted _ _ (by omega) (by omega)
        · rw [if_neg hi']
          by_cases hj' : j = l
          · rw [if_pos hj']; exact hb i (by omega)
          · rw [if_neg hj']
            by_cases hj'' : l < j ∧ j ≤ k
            · rw [if_pos hj'']
              by_cases hx : i = j - 1
              · omega
              · exact U.sorted _ _ (by omega) (by omega)
            · rw [if_neg hj'']; exact U.sorted _ _ hij (by omega)
theorem sort_says {P : Array Nat → Prop} (hn : 1 ≤ n) (h : ∀ p, Upto lt n n p → P p) : TSays lt n (kas_sort n) P := by
  refine TSays.bind (count_says W hn fun m p U => ?_)
  have h1 := U.one
  have h2 := U.le
  dsimp only
  split
  · rw [Nat.max_eq_left h1]
    exact bin_says W _ m p U (by omega) h
  · obtain rfl : m = n := by omega
    exact h p U
end
end
section
structure Srt (lt : Nat → Nat → Bool) (n : Nat) (p : Array Nat) : Prop where
  size : p.size = n
  perm : p.Perm (List.range n).toArray
  sorted : ∀ i j, i < j → j < n → Bef lt (p.getD i 0) (p.getD j 0)
theorem Upto.srt {lt : Nat → Nat → Bool} {n : Nat} {p : Array Nat} (U : Upto lt n n p) : Srt lt n p := ⟨U.size, U.perm, U.sorted⟩
/-- what sorted hands back: the items in the order that the places p tell -/
def SortOut (b : Bool) (lt : Nat → Nat → Bool) (vs out : List Value) : Prop :=
  ∃ p : Array Nat, Srt (if b then fun i j => lt (vs.length - 1 - i) (vs.length - 1 - j) else lt) vs.length p ∧
    out = (if b then (p.toList.map fun i => vs.reverse.getD i Value.none).reverse else p.toList.map fun i => vs.getD i Value.none)
def KeyEnd (h₀ : Heap) (L : Addr) (m : Str → Option Value) (news own : List (Addr × Obj)) (K : Value → List (Addr × Obj) → Prop) (s₁ : Shared) (k : Value) (s₂ : Shared) : Prop :=
  ∃ h' tk made', s₂ = { s₁ with heap := h', toks := tk } ∧ Fr h₀ L h' m ∧ News h₀ L h' (made' ++ (news ++ own)) ∧ (∀ p ∈ made', ∀ q ∈ own, p.1 ≠ q.1) ∧ K k made'
theorem Weak.turned {lt : Nat → Nat → Bool} (W : Weak lt) (n : Nat) : Weak fun i j => lt (n - 1 - i) (n - 1 - j) :=
  ⟨fun _ => W.irr _, fun _ _ _ h h' => W.tr _ _ _ h h', fun _ _ _ h h' => W.nt _ _ _ h h'⟩
theorem item_at {keys vs : List Value} (hl : keys.length = vs.length) {i : Nat} (hi : i < vs.length) : kas_item (keys.toArray.zip vs.toArray) i = (keys.getD i Value.none, vs.getD i Value.none) := by
  have h1 : i < keys.length := by omega
  simp [kas_item, Array.getD, hl, hi]
theorem item_rev {keys vs : List Value} (hl : keys.length = vs.length) {i : Nat} (hi : i < vs.length) : kas_item (keys.toArray.zip vs.toArray).reverse i = (keys.getD (vs.length - 1 - i) Value.none, vs.reverse.getD i Value.none) := by
  have h1 : i < keys.length := by omega
  have h2 : vs.length - 1 - i < vs.length := by omega
  have h3 : vs.length - 1 - i < keys.length := by omega
  simp [kas_item, Array.getD, hl, hi, h2, h3]
section
variable {prog : Program} {w : World} {A : Around} {E : Value → Shared → Prop} {s : Shared} {h₀ : Heap} {L a kS : Addr} {m : Str → Option Value} {news : List (Addr × Obj)} {b : Bool} {vs : List Value} {P : PySem.Fin → Shared → Prop} {lt : Nat → Nat → Bool}
theorem ksg_end {keys : Array Value} {e e1 : Nat} {made : List (Addr × Obj)} (W : Weak lt) (F : Fr h₀ L s.heap m) (N : News h₀ L s.heap (made ++ (news ++ [(kS, seqObj "list" keys e), (a, seqObj "list" #[] e1)]))) (hka : kS ≠ a)
    (hmk : ∀ p ∈ made, p.1 ≠ kS) (hma : ∀ p ∈ made, p.1 ≠ a) (hnk : ∀ p ∈ news, p.1 ≠ kS) (hna : ∀ p ∈ news, p.1 ≠ a)
    (hlen : keys.size = vs.length) (h64 : vs.length < 64) {T : Value}
    (hT : ∀ k ∈ keys.toList, Looks (model prog w) s.heap (typeOf k) T) (hT1 : (T != Value.type "tuple") = true) (hT2 : (T == T) = true)
    (hc : ∀ i j h tk (C : Bool → Shared → Prop), i < vs.length → j < vs.length → Fr h₀ L h m → News h₀ L h (made ++ (news ++ [(kS, seqObj "list" keys e), (a, seqObj "list" #[] e1)])) →
      (∀ h' tk', Fr h₀ L h' m → News h₀ L h' (made ++ (news ++ [(kS, seqObj "list" keys e), (a, seqObj "list" #[] e1)])) → C (lt i j) { s with heap := h', toks := tk' }) →
      wpAny (model prog w) A (keyLt' oneType' (keys.toList.getD i Value.none) (keys.toList.getD j Value.none)) C (fun _ _ => False) { s with heap := h, toks := tk })
    (h : ∀ h' tk out c, Fr h₀ L h' m → News h₀ L h' ((a, seqObj "list" out c) :: (made ++ news)) → SortOut b lt vs out.toList → P (.done (.ret .none)) { s with heap := h', toks := tk }) :
    wpAny (model prog w) A (ksk_end a b vs.toArray e1 (.ref kS) keys) P E s := by
  have hsz := hlen
  have hkl : keys.toList.length = vs.length := by rw [Array.length_toList]; exact hlen
  have hzs : (keys.zip vs.toArray).size = vs.length := by rw [Array.size_zip, hsz, List.size_toArray, Nat.min_self]
  have step : ∀ t : Sem PySem.Fin, wpAny (model prog w) A t P E s → wpAny (model prog w) A (if b = true then (do let _ ← rule "list.sort.reverse"; t) else t) P E s := by
    intro t ht
    split
    · exact wpAny_bind (wpAny_rule ht)
    · exact ht
  -- behind the sort
  have tail : ∀ (st : SortSt) (out : Array Value) (h1 : Heap) (tk1 : Nat), Fr h₀ L h1 m → News h₀ L h1 (made ++ (news ++ [(kS, seqObj "list" keys e), (a, seqObj "list" #[] e1)])) → failedOf st = none → (arrOf st).size = vs.length →
      (if b then ((arrOf st).map (·.2)).reverse else (arrOf st).map (·.2)) = out → SortOut b lt vs out.toList → wpAny (model prog w) A (ksk_tail a b e1 (.ref kS) st) P E { s with heap := h1, toks := tk1 } := by
    intro st out h1 tk1 F1 N1 hfl hst hout hso
    have nk := N1 (kS, seqObj "list" keys e) (List.mem_append_right _ (List.mem_append_right _ (.head _)))
    have na := N1 (a, seqObj "list" #[] e1) (List.mem_append_right _ (List.mem_append_right _ (.tail _ (.head _))))
    have Nn : News h₀ L h1 (made ++ news) := fun p hp => N1 p ((List.mem_append.mp hp).elim (fun hp => List.mem_append_left _ hp) fun hp => List.mem_append_right _ (List.mem_append_left _ hp))
    have hmn : ∀ p ∈ made ++ news, p.1 ≠ kS ∧ p.1 ≠ a := fun p hp => (List.mem_append.mp hp).elim (fun hp => ⟨hmk p hp, hma p hp⟩) fun hp => ⟨hnk p hp, hna p hp⟩
    have hos : out.size = vs.length := by
      rw [← hout]
      cases b with
      | false => simp only [Bool.false_eq_true, if_false, Array.size_map]; exact hst
      | true => simp only [if_true, Array.size_reverse, Array.size_map]; exact hst
    have s1 := Heap.SameBut.update h1 kS (Obj.mapSeq fun _ => (#[] : Array Value))
    have na1 : (h1.update kS (Obj.mapSeq fun _ => (#[] : Array Value))).get? a = some (seqObj "list" #[] e1) := (s1.2 a hka.symm).trans na.1
    have s2 := Heap.SameBut.update (h1.update kS (Obj.mapSeq fun _ => (#[] : Array Value))) a (Obj.mapSeq fun _ => out)
    obtain ⟨c2, hc2⟩ : ∃ c2, ((h1.update kS (Obj.mapSeq fun _ => (#[] : Array Value))).update a (Obj.mapSeq fun _ => out)).get? a = some (seqObj "list" out c2) := ⟨_, get?_update_seq na1 fun _ => out⟩
    have N2 := ksk_news (ksk_news Nn s1 fun p hp => (hmn p hp).1) s2 fun p hp => (hmn p hp).2
    unfold ksk_tail
    try dsimp only
    rw [hout]
    refine wpAny_bind (listUpdate_at nk.1 rfl ?_ (by rw [hsz, sizeLine_eq]; omega) (Nat.zero_le _))
    refine wpAny_bind (wpAny_letGo ?_)
    refine wpAny_bind (seqEpoch_at na1 rfl ?_)
    refine wpAny_bind (listUpdate_at na1 rfl ?_ (Nat.zero_le _) (Nat.le_trans (Nat.le_of_eq hos) (by rw [sizeLine_eq]; omega)))
    rw [hfl]
    simp only [bne_self_eq_false, Bool.false_eq_true, if_false]
    refine wpAny_pure (h _ _ out c2 (ksk_fr (ksk_fr F1 s1 nk.2.1 nk.2.2) s2 na.2.1 na.2.2) (fun p hp => ?_) hso)
    rcases List.mem_cons.mp hp with rfl | hp
    · exact ⟨hc2, na.2⟩
    · exact N2 p hp
  unfold ksk_end
  try dsimp only
  refine step _ ?_
  generalize hit : (if b = true then (keys.zip vs.toArray).reverse else keys.zip vs.toArray) = it
  have hits : it.size = vs.length := by
    rw [← hit]; split
    · rw [Array.size_reverse]; exact hzs
    · exact hzs
  have out_eq : ∀ (p : Array Nat) (lt' : Nat → Nat → Bool), Srt lt' vs.length p → ((p.map (kas_item it)).map (·.2)).toList = p.toList.map fun i => (if b then vs.reverse else vs).getD i Value.none := by
    intro p lt' U
    rw [Array.map_map, Array.toList_map]
    refine List.map_congr_left fun i hi => ?_
    have hi' : i < vs.length := by
      have := (Array.perm_iff_toList_perm.mp U.perm).mem_iff.mp hi
      simpa using this
    show (kas_item it i).2 = _
    rw [← hit]
    cases b with
    | true =>
      have := item_rev hkl hi'
      rw [Array.toArray_toList] at this
      rw [if_pos rfl, this, if_pos rfl]
    | false =>
      have := item_at hkl hi'
      rw [Array.toArray_toList] at this
      rw [if_neg Bool.false_ne_true, this, if_neg Bool.false_ne_true]
  have sout : ∀ (p : Array Nat) (out : Array Value), Srt (if b then fun i j => lt (vs.length - 1 - i) (vs.length - 1 - j) else lt) vs.length p → (if b then ((p.map (kas_item it)).map (·.2)).reverse else (p.map (kas_item it)).map (·.2)) = out → SortOut b lt vs out.toList := by
    intro p out U ho
    refine ⟨p, U, ?_⟩
    have z := out_eq p _ U
    rw [← ho]
    cases b with
    | true =>
      rw [if_pos rfl] at z
      rw [if_pos rfl, if_pos rfl, Array.toList_reverse, z]
    | false =>
      rw [if_neg Bool.false_ne_true] at z
      rw [if_neg Bool.false_ne_true, if_neg Bool.false_ne_true, z]
  by_cases h2 : vs.toArray.size < 2
  · rw [if_pos h2, if_pos h2]
    refine wpAny_bind (wpAny_pure ?_)
    rw [StateT.run_pure]
    refine wpAny_bind (wpAny_pure ?_)
    try dsimp only
    rw [List.size_toArray] at h2
    refine tail (SortSt.mk' general' it #[] 7 none) _ s.heap s.toks F N rfl hits rfl ?_
    have er : (List.toArray (List.range it.size)).map (kas_item it) = it := kas_range it
    rw [hits] at er
    refine sout (List.range vs.length).toArray _ ?_ (by rw [er])
    exact { size := by simp, perm := .refl _, sorted := fun i j hij hj => by omega }
  · rw [if_neg h2, if_neg h2]
    rw [List.size_toArray] at h2
    have hk2 : 2 ≤ keys.toList.length := by omega
    have kk := fun Q hq => kas_kind (M := model prog w) (A := A) (E := E) (s := s) (T := T) (Q := Q) hk2 hT hT1 hT2 hq
    rw [Array.toArray_toList] at kk
    refine wpAny_bind (kk _ ?_)
    generalize hlt : (if b then fun i j => lt (vs.length - 1 - i) (vs.length - 1 - j) else lt) = lt' at sout
    have W' : Weak lt' := by
      rw [← hlt]; cases b
      · exact W
      · exact W.turned _
    have est : SortSt.mk' oneType' it #[] 7 none = kas_st oneType' it (List.toArray (List.range vs.length)) := by
      have er := kas_range it
      rw [hits] at er
      show SortSt.mk' oneType' it #[] 7 none = SortSt.mk' oneType' ((List.toArray (List.range vs.length)).map (kas_item it)) #[] 7 none
      rw [er]
    have run := kas_runs (prog := prog) (w := w) (A := A) (E := E) (κ := oneType') (it := it) (s := s) (Q := fun _ st' s' => ∃ p : Array Nat, Srt lt' vs.length p ∧ arrOf st' = p.map (kas_item it) ∧ failedOf st' = none ∧ ∃ h1 tk1, s' = { s with heap := h1, toks := tk1 } ∧ Fr h₀ L h1 m ∧ News h₀ L h1 (made ++ (news ++ [(kS, seqObj "list" keys e), (a, seqObj "list" #[] e1)])))
      (G := fun p s' => Srt lt' vs.length p ∧ ∃ h1 tk1, s' = { s with heap := h1, toks := tk1 } ∧ Fr h₀ L h1 m ∧ News h₀ L h1 (made ++ (news ++ [(kS, seqObj "list" keys e), (a, seqObj "list" #[] e1)])))
      (by omega) h64 (fun p' st' s' a1 a2 a3 a4 => ⟨p', a4.1, a2, a3, a4.2⟩)
      (TSays.wp (fun s' => ∃ h1 tk1, s' = { s with heap := h1, toks := tk1 } ∧ Fr h₀ L h1 m ∧ News h₀ L h1 (made ++ (news ++ [(kS, seqObj "list" keys e), (a, seqObj "list" #[] e1)])))
        (fun i j C s' hi hj hI hC => by
          obtain ⟨h1, tk1, rfl, F1, N1⟩ := hI
          have go : ∀ i' j', i' < vs.length → j' < vs.length → lt' i j = lt i' j' → (kas_item it i).1 = keys.toList.getD i' Value.none → (kas_item it j).1 = keys.toList.getD j' Value.none → kas_cmp prog w A oneType' it i j C { s with heap := h1, toks := tk1 } := by
            intro i' j' hi' hj' e e1 e2
            unfold kas_cmp
            rw [e1, e2]
            exact hc i' j' h1 tk1 C hi' hj' F1 N1 fun h2 tk2 F2 N2 => e ▸ hC _ ⟨h2, tk2, rfl, F2, N2⟩
          cases b with
          | true =>
            have z1 := item_rev hkl hi
            have z2 := item_rev hkl hj
            rw [Array.toArray_toList] at z1 z2
            refine go (vs.length - 1 - i) (vs.length - 1 - j) (by omega) (by omega) (by rw [← hlt]; rfl) ?_ ?_
            · rw [← hit, if_pos rfl, z1]
            · rw [← hit, if_pos rfl, z2]
          | false =>
            have z1 := item_at hkl hi
            have z2 := item_at hkl hj
            rw [Array.toArray_toList] at z1 z2
            refine go i j hi hj (by rw [← hlt]; rfl) ?_ ?_
            · rw [← hit, if_neg Bool.false_ne_true, z1]
            · rw [← hit, if_neg Bool.false_ne_true, z2])
        (fun p s' hp hI => ⟨hp, hI⟩) (sort_says W' (by omega) fun p U => U.srt) ⟨s.heap, s.toks, rfl, F, N⟩)
    rw [← est] at run
    refine wpAny_bind (wpAny_mono run ?_ fun _ _ e => e)
    rintro ⟨⟨⟩, st'⟩ s' ⟨p, U, har, hf, h1, tk1, rfl, F1, N1⟩
    dsimp only
    exact tail st' _ h1 tk1 F1 N1 hf (by rw [har, Array.size_map]; exact U.size) rfl (sout p _ U (by rw [har]))
end
end
section
/-- what the keys must show -/
structure KeyOk (prog : Program) (w : World) (A : Around) (h₀ : Heap) (L : Addr) (m : Str → Option Value) (news : List (Addr × Obj)) (s : Shared) (f : Value) (vs : List Value) (lt : Nat → Nat → Bool) (T : Value) (K : Nat → List Value → List (Addr × Obj) → Prop) : Prop where
  weak : Weak lt
  none : K 0 [] []
  turn : ∀ i v h tk made keys own, vs[i]? = some v → keys.length = i → K i keys made → (∀ p ∈ made, ∀ q ∈ own, p.1 ≠ q.1) → Fr h₀ L h m → News h₀ L h (made ++ (news ++ own)) →
    wpAny (model prog w) A (call f [v]) (KeyEnd h₀ L m news own (fun k made' => K (i + 1) (keys ++ [k]) made') { s with heap := h, toks := tk }) (fun _ _ => False) { s with heap := h, toks := tk }
  kind : ∀ keys made h own, K vs.length keys made → News h₀ L h (made ++ (news ++ own)) → ∀ k ∈ keys, Looks (model prog w) h (typeOf k) T
  less : ∀ keys made own i j h tk (C : Bool → Shared → Prop), keys.length = vs.length → K vs.length keys made → i < vs.length → j < vs.length → Fr h₀ L h m → News h₀ L h (made ++ (news ++ own)) →
    (∀ h' tk', Fr h₀ L h' m → News h₀ L h' (made ++ (news ++ own)) → C (lt i j) { s with heap := h', toks := tk' }) →
    wpAny (model prog w) A (keyLt' oneType' (keys.getD i Value.none) (keys.getD j Value.none)) C (fun _ _ => False) { s with heap := h, toks := tk }
section
variable {prog : Program} {w : World} {A : Around} {E : Value → Shared → Prop} {s : Shared} {h₀ : Heap} {L a kS : Addr} {m : Str → Option Value} {news : List (Addr × Obj)} {b : Bool} {vs : List Value} {P : PySem.Fin → Shared → Prop} {lt : Nat → Nat → Bool} {T : Value} {K : Nat → List Value → List (Addr × Obj) → Prop} {f : Value}
theorem KeyOk.heap {h : Heap} {tk : Nat} (k : KeyOk prog w A h₀ L m news s f vs lt T K) : KeyOk prog w A h₀ L m news { s with heap := h, toks := tk } f vs lt T K :=
  ⟨k.weak, k.none, k.turn, k.kind, k.less⟩
theorem ksg_rest {e1 : Nat} (F : Fr h₀ L s.heap m) (N : News h₀ L s.heap (news ++ [(kS, seqObj "list" #[] 0), (a, seqObj "list" #[] e1)])) (hka : kS ≠ a) (hnk : ∀ p ∈ news, p.1 ≠ kS) (hna : ∀ p ∈ news, p.1 ≠ a)
    (h64 : vs.length < 64) (ok : KeyOk prog w A h₀ L m news s f vs lt T K) (hT1 : (T != Value.type "tuple") = true) (hT2 : (T == T) = true)
    (h : ∀ h' tk out c made, Fr h₀ L h' m → News h₀ L h' ((a, seqObj "list" out c) :: (made ++ news)) → SortOut b lt vs out.toList → P (.done (.ret .none)) { s with heap := h', toks := tk }) :
    wpAny (model prog w) A (ksk_rest a f b vs.toArray e1 (.ref kS)) P E s := by
  unfold ksk_rest
  refine wpAny_bind (wpAny_rule ?_)
  first
    | rw [List.forIn_toArray]
    | (rw [← Array.forIn_toList]; simp only [List.toList_toArray])
    | rw [← Array.forIn_toList]
  refine wpAny_bind (ksk_fold (fun i s' => ∃ h' tk kA e made, s' = { s with heap := h', toks := tk } ∧ Fr h₀ L h' m ∧ News h₀ L h' (made ++ (news ++ [(kS, seqObj "list" kA e), (a, seqObj "list" #[] e1)])) ∧ kA.size = i ∧ (∀ p ∈ made, p.1 ≠ kS ∧ p.1 ≠ a) ∧ K i kA.toList made) vs 0 s
    ⟨s.heap, s.toks, #[], 0, [], rfl, F, N, rfl, (fun _ h => nomatch h), ok.none⟩ ?step ?done)
  case step =>
    rintro j x s' hx ⟨h', tk, kA, e, made, rfl, F', N', hkz, hmd, hk⟩
    simp only [Nat.zero_add] at hk hkz ⊢
    have hj : j < vs.length := (List.getElem?_eq_some_iff.mp hx).1
    refine wpAny_bind (wpAny_attempt (wpAny_mono (ok.turn j x h' tk made kA.toList _ hx (by rw [Array.length_toList]; exact hkz) hk (fun p hp q hq => ?_) F' N') (fun v s'' he => ?_) fun _ _ hF => hF.elim))
    · rcases List.mem_cons.mp hq with rfl | hq
      · exact (hmd p hp).1
      · rw [List.mem_singleton.mp hq]; exact (hmd p hp).2
    obtain ⟨g, tk2, made', rfl, F2, N2, hmd', hk'⟩ := he
    try dsimp only
    have nk := N2 (kS, seqObj "list" kA e) (List.mem_append_right _ (List.mem_append_right _ (.head _)))
    have na := N2 (a, seqObj "list" #[] e1) (List.mem_append_right _ (List.mem_append_right _ (.tail _ (.head _))))
    have s1 := Heap.SameBut.update g kS (Obj.mapSeq (·.push v))
    obtain ⟨c2, hc2⟩ : ∃ c2, (g.update kS (Obj.mapSeq (·.push v))).get? kS = some (seqObj "list" (kA.push v) c2) := ⟨_, get?_update_seq nk.1 (·.push v)⟩
    have ea : (kA.push v).toList = kA.toList ++ [v] := by simp
    have mk : ∀ p ∈ made', p.1 ≠ kS := fun p hp => hmd' p hp (kS, seqObj "list" kA e) (.head _)
    have ma : ∀ p ∈ made', p.1 ≠ a := fun p hp => hmd' p hp (a, seqObj "list" #[] e1) (.tail _ (.head _))
    refine wpAny_bind (listUpdate_at nk.1 rfl ?_ (by rw [sizeLine_eq]; omega) (Nat.le_trans (Nat.le_of_eq (Array.size_push ..)) (by rw [sizeLine_eq]; omega)))
    refine wpAny_pure ⟨rfl, _, _, kA.push v, c2, made', rfl, ksk_fr F2 s1 nk.2.1 nk.2.2, fun p hp => ?_, by rw [Array.size_push]; omega, fun p hp => ⟨mk p hp, ma p hp⟩, by rw [ea]; exact hk'⟩
    rcases List.mem_append.mp hp with hp | hp
    · exact ksk_news (fun q hq => N2 q (List.mem_append_left _ hq)) s1 mk p hp
    rcases List.mem_append.mp hp with hp | hp
    · exact ksk_news (fun q hq => N2 q (List.mem_append_right _ (List.mem_append_left _ hq))) s1 hnk p hp
    · rcases List.mem_cons.mp hp with rfl | hp
      · exact ⟨hc2, nk.2⟩
      · rw [List.mem_singleton.mp hp]
        exact ⟨(s1.2 a hka.symm).trans na.1, na.2⟩
  case done =>
    rintro s' ⟨h', tk, kA, e, made, rfl, F', N', hkz, hmd, hk⟩
    simp only [Nat.zero_add] at hk hkz
    have nk := N' (kS, seqObj "list" kA e) (List.mem_append_right _ (List.mem_append_right _ (.head _)))
    try dsimp only
    refine wpAny_bind (listItems_at nk.1 rfl ?_)
    refine ksg_end ok.weak F' N' hka (fun p hp => (hmd p hp).1) (fun p hp => (hmd p hp).2) hnk hna hkz h64 (fun k hk' => ok.kind _ _ _ _ hk N' k hk') hT1 hT2 (fun i j h1 tk1 C hi hj F1 N1 hC => ok.less kA.toList made _ i j h1 tk1 C (by rw [Array.length_toList]; exact hkz) hk hi hj F1 N1 hC) fun h3 tk3 out c F3 N3 k3 => h h3 tk3 out c made F3 N3 k3
theorem ksg_sort {n : Nat} (F : Fr h₀ L s.heap m) (N : News h₀ L s.heap news) (ho : s.heap.get? a = some (seqObj "list" vs.toArray n)) (haL : a ≠ L) (ha0 : h₀.get? a = none) (hna : ∀ p ∈ news, p.1 ≠ a)
    (h64 : vs.length < 64) (ok : KeyOk prog w A h₀ L m news s f vs lt T K) (hT1 : (T != Value.type "tuple") = true) (hT2 : (T == T) = true)
    (h : ∀ h' tk out c made, Fr h₀ L h' m → News h₀ L h' ((a, seqObj "list" out c) :: (made ++ news)) → SortOut b lt vs out.toList → P (.done (.ret .none)) { s with heap := h', toks := tk }) :
    wpAny (model prog w) A (ksk_tree a f b) P E s := by
  have ha : a < s.heap.objs.size := Heap.lt_size ho
  have s1 := Heap.SameBut.update s.heap a (Obj.mapSeq fun _ => (#[] : Array Value))
  obtain ⟨e1, ho1⟩ : ∃ e1, (s.heap.update a (Obj.mapSeq fun _ => (#[] : Array Value))).get? a = some (seqObj "list" #[] e1) := ⟨_, get?_update_seq ho fun _ => #[]⟩
  have F1 := ksk_fr F s1 haL ha0
  have N1 := ksk_news N s1 hna
  have hkS : ((s.heap.update a (Obj.mapSeq fun _ => (#[] : Array Value))).push (seqObj "tuple" vs.toArray 0)).objs.size = s.heap.objs.size + 1 := by rw [size_push', Heap.size_update]
  have hLk : L < ((s.heap.update a (Obj.mapSeq fun _ => (#[] : Array Value))).push (seqObj "tuple" vs.toArray 0)).objs.size := (F1.push _).ns.lt
  unfold ksk_tree
  refine wpAny_bind (listItems_at ho rfl ?_)
  refine wpAny_bind (listUpdate_at ho rfl ?_ (by rw [List.size_toArray, sizeLine_eq]; omega) (Nat.zero_le _))
  refine wpAny_bind (seqEpoch_at ho1 rfl ?_)
  refine wpAny_bind (wpAny_newTuple ?_ (by show vs.length ≤ _; rw [sizeLine_eq]; omega))
  refine wpAny_bind (wpAny_newList ?_ (Nat.zero_le _))
  refine wpAny_holding ?_
  refine ksg_rest (s := { s with heap := ((s.heap.update a (Obj.mapSeq fun _ => (#[] : Array Value))).push (seqObj "tuple" vs.toArray 0)).push (seqObj "list" #[] 0) }) (kS := ((s.heap.update a (Obj.mapSeq fun _ => (#[] : Array Value))).push (seqObj "tuple" vs.toArray 0)).objs.size)
    ((F1.push _).push _) (fun p hp => ?_) (by rw [hkS]; exact Nat.ne_of_gt (Nat.lt_succ_of_lt ha)) (fun p hp => by rw [hkS]; exact Nat.ne_of_lt (Nat.lt_succ_of_lt (Heap.lt_size (N p hp).1))) hna h64 ok.heap hT1 hT2 h
  rcases List.mem_append.mp hp with hp | hp
  · exact ⟨Heap.get?_push_of_some _ (Heap.get?_push_of_some _ (N1 p hp).1), (N1 p hp).2⟩
  · rcases List.mem_cons.mp hp with rfl | hp
    · exact ⟨Heap.get?_push_size _ rfl, Nat.ne_of_gt hLk, Heap.get?_none_of_le (Nat.le_trans F.above (Nat.le_of_lt hLk))⟩
    · rw [List.mem_singleton.mp hp]
      exact ⟨Heap.get?_push_of_some _ (Heap.get?_push_of_some _ ho1), haL, ha0⟩
end
section
variable {prog : Program} {w : World} {A : Around} {E : Value → Shared → Prop} {s : Shared} {h₀ : Heap} {L l : Addr} {m : Str → Option Value} {news : List (Addr × Obj)} {b : Bool} {vs : List Value} {Q : Value → Shared → Prop} {lt : Nat → Nat → Bool} {T : Value} {K : Nat → List Value → List (Addr × Obj) → Prop} {f : Value}
/-- sorted(list, key=f, reverse=b) -/
theorem ksg_sorted {kw : List (Str × Value)} (F : Fr h₀ L s.heap m) (N : News h₀ L s.heap news) (hl : s.heap.IsList l vs.toArray) (h64 : vs.length < 64)
    (ha1 : argsOk "sorted" ⟨[.ref l], kw⟩) (ha2 : ∀ x, argsOk "list.sort" ⟨[.ref x], kw⟩) (ht : ∀ x, Builtin.«list.sort» ⟨[.ref x], kw⟩ = ksk_tree x f b)
    (ok : KeyOk prog w A.in1.in1 h₀ L m news s f vs lt T K) (hT1 : (T != Value.type "tuple") = true) (hT2 : (T == T) = true)
    (h : ∀ D h' tk out c, Fr h₀ L h' m → News h₀ L h' ((D, listOf (List.toArray out) c) :: news) → (∀ q ∈ news, q.1 < D) → SortOut b lt vs out → Q (.ref D) { s with heap := h', toks := tk }) :
    wpAny (model prog w) A (call (.builtin "sorted") [.ref l] kw) Q E s := by
  refine call_function_entry_kw kind_sorted plain_sorted entry_sorted ha1 ?_
  unfold Builtin.«sorted»
  refine wpAny_bind (m := checkCount "sorted" 1 1 _) (wpAny_pure ?_)
  refine wpAny_bind (collect_list hl ?_ (by rw [sizeLine_eq]; omega))
  refine wpAny_bind (wpAny_newList ?_ (by rw [sizeLine_eq]; omega))
  have hsz : ((s.heap.push (seqObj "list" #[] 0)).update s.heap.objs.size (Obj.mapSeq (· ++ vs.toArray))).objs.size = s.heap.objs.size + 1 := by
    rw [Heap.size_update, size_push']
  have hoL : (((s.heap.push (seqObj "list" #[] 0)).update s.heap.objs.size (Obj.mapSeq (· ++ vs.toArray))).push (seqObj "list" vs.toArray 0)).get? (s.heap.objs.size + 1) = some (seqObj "list" vs.toArray 0) := by
    rw [← hsz]; exact Heap.get?_push_size _ rfl
  have keep : ∀ b o, s.heap.get? b = some o → (((s.heap.push (seqObj "list" #[] 0)).update s.heap.objs.size (Obj.mapSeq (· ++ vs.toArray))).push (seqObj "list" vs.toArray 0)).get? b = some o := fun b o q => by
    have hlt : b < s.heap.objs.size := Heap.lt_size q
    rw [Heap.get?_push_ne _ _ _ (by rw [hsz]; exact Nat.ne_of_lt (Nat.lt_succ_of_lt hlt)), Heap.get?_update_ne _ _ _ _ (Nat.ne_of_lt hlt), Heap.get?_push_ne _ _ _ (Nat.ne_of_lt hlt)]
    exact q
  have hL : L < s.heap.objs.size := F.ns.lt
  show wpAny _ _ _ _ _ { s with heap := ((s.heap.push (seqObj "list" #[] 0)).update s.heap.objs.size (Obj.mapSeq (· ++ vs.toArray))).push (seqObj "list" vs.toArray 0) }
  rw [hsz]
  refine wpAny_bind (wpAny_holding (wpAny_call_entry_kw slot_list_sort ⟨_, hoL, rfl⟩ entry_list_sort ?body (ha2 _)))
  case body =>
    have ht' := ht (s.heap.objs.size + 1)
    show wpAny (model prog w) A.in1.in1 (Builtin.«list.sort» ⟨[.ref (s.heap.objs.size + 1)], kw⟩) _ _ _
    rw [ht']
    refine ksg_sort (s := { s with heap := ((s.heap.push (seqObj "list" #[] 0)).update s.heap.objs.size (Obj.mapSeq (· ++ vs.toArray))).push (seqObj "list" vs.toArray 0) })
      (F.kept keep) (N.grown keep) hoL (Nat.ne_of_gt (Nat.lt_succ_of_lt hL)) (Heap.get?_none_of_le (Nat.le_trans F.above (Nat.le_succ_of_le (Nat.le_of_lt hL))))
      (fun p hp => Nat.ne_of_lt (Nat.lt_succ_of_lt (Heap.lt_size (N p hp).1))) h64 ok.heap hT1 hT2 fun h' tk out c made F' N' k' => ⟨_, rfl, ?_⟩
    refine wpAny_pure ⟨_, rfl, h _ h' tk out.toList c F' (fun p hp => ?_) (fun q hq => Nat.lt_succ_of_lt (Heap.lt_size (N q hq).1)) k'⟩
    rcases List.mem_cons.mp hp with rfl | hp
    · have z := N' _ (List.mem_cons_self ..)
      rw [Array.toArray_toList]; exact z
    · exact N' p (.tail _ (List.mem_append_right _ hp))
end
end
section
abbrev tup2 (v1 v2 : Value) (k : Nat) : Obj := { cls := .type "tuple", data := .seq [v1, v2].toArray k }
section
variable {prog : Program} {w : World} {A : Around} {E : Value → Shared → Prop} {s : Shared} {h₀ : Heap} {L : Addr} {m : Str → Option Value} {env : Env}
def TurnsP (prog : Program) (w : World) (A : Around) (h₀ : Heap) (L : Addr) (m : Str → Option Value) (env : Env) (elt : Expr) (x y : Str) (scope : Scope) (cl : List (Str × Addr)) (s₂ : Shared) (vs : List Value) (J : Nat → List Value → List (Addr × Obj) → Prop) : Prop :=
  ∀ i T v1 v2 k I oI C oC D m₂ h tk ys news' (E' : Value → Shared → Prop), i < vs.length → ys.length ≤ i → vs[i]? = some (.ref T) → (T, tup2 v1 v2 k) ∈ news' → J i ys news' → NsObj oC m₂ → m₂ x = some v1 → m₂ y = some v2 → Fr h₀ L h m → News h₀ L h ((I, oI) :: (C, oC) :: (D, lst ys) :: news') → Off3 I C D news' → ((@Ne Nat I C) ∧ (@Ne Nat I D) ∧ (@Ne Nat C D)) →
    wpAny (model prog w) A (eval elt (compEnvC scope cl C env)) (fun y s₄ => TurnJ h₀ L m s₂ I oI C oC D ys (J (i + 1) (ys ++ [y])) s₄) E' { s₂ with heap := h, toks := tk }
theorem block_JP {elt iter : Expr} {x y : Str} {px py tp : Pos} {kk : Nat} {scope : Scope} {cl : List (Str × Addr)} {pos : Pos} {s₂ : Shared} {I ax : Addr} {vs : List Value} {k : Nat} {J : Nat → List Value → List (Addr × Obj) → Prop}
    {news : List (Addr × Obj)} {RR : Value → Addr → Result → Shared → Prop}
    (hh : A.handled = none) (hne : ax ≠ I) (hst : s₂.heap.IsListIter I ax 0) (hm : ∀ j ys nw, J j ys nw → (ax, listOf vs.toArray k) ∈ nw) (hsz : vs.length ≤ 1000)
    (hpair : ∀ i v ys nw, vs[i]? = some v → J i ys nw → ∃ T v1 v2 k, v = .ref T ∧ (T, tup2 v1 v2 k) ∈ nw)
    (hcell : ∀ y ∈ scope.names, y.2 ≠ .cell) (hkind : scope.kind = .function) (hx : scope.names.lookup x = some .local) (hy : scope.names.lookup y = some .local) (hxy : ¬ x = y)
    (F : Fr h₀ L s₂.heap m) (N : News h₀ L s₂.heap news) (hIL : L ≠ I) (hI₀ : h₀.get? I = none) (off : ∀ p ∈ news, p.1 ≠ I) (hJ : J 0 [] news)
    (turn : TurnsP prog w A h₀ L m env elt x y scope cl s₂ vs J)
    (hRR : ∀ D C h tk m' ys news', Fr h₀ L h m → News h₀ L h ((D, lst ys) :: news') → Off1 D news' → h.Ns C m' → h₀.get? C = none → h₀.get? D = none → C ≠ L → D ≠ L → C ≠ D → (∀ p ∈ news', p.1 ≠ C) → J vs.length ys news' → RR (.ref D) C (.ok .next) { s₂ with heap := h, toks := tk }) :
    wpAny (model prog w) A (newList []) (fun acc s₃ => wpAny (model prog w) A (newFunctionEnv scope env.globals cl [] env.qual none .none (some env)) (fun cenv s₄ =>
      codeAny (model prog w) A (.compStart (.ListComp elt [⟨.Tuple [.Name x px, .Name y py] kk tp, iter, [], 0⟩] scope pos) 0 (.ref I) acc { cenv with scope := relabel scope env }) (RR acc cenv.locals) s₄) E s₃) E s₂ := by
  have W := Walks.list (prog := prog) (w := w) hh I ax hne vs.toArray
  refine wpAny_newObj_type (wpAny_newFunctionEnv hcell (by intro y hy; simp at hy) (fun h₁ hns₁ hsb₁ => ?_) hkind)
  dsimp only at hns₁ hsb₁ ⊢
  generalize hD : s₂.heap.objs.size = D at hns₁ hsb₁ ⊢
  generalize hH : s₂.heap.push { cls := .type "list", dict := none, data := .seq ([] : List Value).toArray } = H at hns₁ hsb₁ ⊢
  generalize hC : H.objs.size = C at hns₁ hsb₁ ⊢
  have hCD : @Eq Nat C (D + 1) := by rw [← hC, ← hH, Heap.size_push, hD]
  have lowD : ∀ {b o}, s₂.heap.get? b = some o → @LT.lt Nat _ b D := fun e => hD ▸ Heap.lt_size e
  have old : ∀ b o, s₂.heap.get? b = some o → h₁.get? b = some o := fun b o e =>
    hsb₁.extBut b o (Nat.ne_of_lt (ltN (by have := lowD e; omega))) (Heap.get?_push_of_some _ (by rw [← hH]; exact Heap.get?_push_of_some _ e))
  have hacc : h₁.get? D = some (lst []) := hsb₁.extBut _ _ (Nat.ne_of_lt (ltN (by omega))) (Heap.get?_push_of_some _ (by rw [← hH, ← hD]; exact Heap.get?_push_size _ rfl))
  have fresh₀ : ∀ a, D ≤ a → h₀.get? a = none := fun a ha => by
    cases e : h₀.get? a with
    | none => rfl
    | some o => exact absurd (lowD (F.keep a o e)) (Nat.not_lt.mpr ha)
  have hD₀ := fresh₀ D (Nat.le_refl _)
  have hC₀ := fresh₀ C (by rw [hCD]; exact Nat.le_succ _)
  have hLlt : @LT.lt Nat _ L D := hD ▸ F.ns.lt
  have hDL : D ≠ L := Nat.ne_of_gt hLlt
  have hCL : C ≠ L := Nat.ne_of_gt (ltN (by omega))
  obtain ⟨oI0, hoI0, hoIc, hoId⟩ := hst
  have hIlt : @LT.lt Nat _ I D := lowD hoI0
  have hIC : I ≠ C := Nat.ne_of_lt (ltN (by omega))
  have hID : I ≠ D := Nat.ne_of_lt hIlt
  have hDC : D ≠ C := Nat.ne_of_lt (ltN (by omega))
  have haxD : @LT.lt Nat _ ax D := lowD (N _ (hm _ _ _ hJ)).1
  have off₀ : Off3 I C D news := Off3.of fun p hp => ⟨off p hp, Nat.ne_of_lt (ltN (by have := lowD (N p hp).1; omega)), Nat.ne_of_lt (lowD (N p hp).1)⟩
  have isl : ∀ {h nw j ys}, News h₀ L h nw → J j ys nw → h.IsList ax vs.toArray := fun N' hJ' => ⟨_, (N' _ (hm _ _ _ hJ')).1, rfl, k, rfl⟩
  have loop : ∀ s₃ : Shared, s₃ = { s₂ with heap := h₁, toks := s₂.toks + ([] : List (Str × Value)).length } →
      codeAny (model prog w) A (.compLoop (.ListComp elt [⟨.Tuple [.Name x px, .Name y py] kk tp, iter, [], 0⟩] scope pos) 0 (.ref I) (.ref D) (compEnvC scope cl C env)) (RR (.ref D) C) s₃ := by
    rintro s₃ rfl
    refine kcp_loop
      (fun q s' => ∃ h' tk i ys m' news', s' = { s₂ with heap := h', toks := tk } ∧ i ≤ vs.length ∧ q = vs.length + 1 - i ∧ ys.length ≤ i ∧ h'.IsListIter I ax i ∧ Fr h₀ L h' m ∧ h'.Ns C m' ∧ News h₀ L h' ((D, lst ys) :: news') ∧ Off3 I C D news' ∧ J i ys news') ?_ (vs.length + 1)
      ⟨h₁, _, 0, [], _, news, rfl, Nat.zero_le _, rfl, Nat.le_refl _, ⟨oI0, old _ _ hoI0, hoIc, hoId⟩, F.keeps old, hns₁, fun p hp => ?_, off₀, hJ⟩
    · rintro q s' ⟨h', tk, i, ys, m', news', rfl, hi, rfl, hyl, hst', F', hn', N', off', hJ'⟩
      have off3 := off'.mem
      have Nn : News h₀ L h' news' := fun p hp => N' p (.tail _ hp)
      by_cases hlt : i < vs.length
      · refine W.item i _ _ _ (by simpa using hlt) ⟨hst', isl Nn hJ'⟩ fun v h₂ tk₂ hPv hst₂ hk₂ => ?_
        have hPv' : vs[i]? = some v := by simpa using hPv
        refine letGo_listiter hst₂.1 ?_
        have N₂ : News h₀ L h₂ ((D, lst ys) :: news') := news_but N' hk₂ fun p hp => by
          rcases List.mem_cons.mp hp with rfl | hp
          · exact Ne.symm hID
          · exact (off3 p hp).1
        obtain ⟨T, v1, v2, kt, rfl, hT⟩ := hpair i v ys news' hPv' hJ'
        have hTup : h₂.IsTuple T #[v1, v2] := ⟨_, (N₂ _ (.tail _ hT)).1, rfl, kt, rfl⟩
        have hnC : h₂.Ns C m' := hn'.at' fun o e => hk₂ _ o (by simpa using Ne.symm hIC) e
        refine kcp_assign hh hTup (lookup_relabel_local hx) (lookup_relabel_local hy) (by simp [compEnvC, relabel, hkind]) hnC fun h₃ tk₃ hn₃ hk₃ => ?_
        have hst₃ : h₃.IsListIter I ax (i + 1) := by
          obtain ⟨o, e, r⟩ := hst₂.1
          exact ⟨o, hk₃ _ _ hIC e, r⟩
        obtain ⟨oI, heI, hIr⟩ := hst₃
        obtain ⟨oC, heC, hoC⟩ := ns_obj hn₃
        have F₃ : Fr h₀ L h₃ m := fr_but (fr_but F' hk₂ hIL hI₀) (I := C) (fun b o hb e => hk₃ b o (fun q => (by simpa using hb : ¬ b = C) q) e) (Ne.symm hCL) hC₀
        have N₃ : News h₀ L h₃ ((I, oI) :: (C, oC) :: (D, lst ys) :: news') := fun p hp => by
          rcases List.mem_cons.mp hp with rfl | hp
          · exact ⟨heI, Ne.symm hIL, hI₀⟩
          · rcases List.mem_cons.mp hp with rfl | hp
            · exact ⟨heC, hCL, hC₀⟩
            · have z := N₂ p hp
              refine ⟨hk₃ _ _ ?_ z.1, z.2⟩
              rcases List.mem_cons.mp hp with rfl | hp
              · exact hDC
              · exact (off3 p hp).2.1
        refine wpAny_mono (turn i T v1 v2 kt I oI C oC D _ h₃ _ ys news' _ hlt hyl hPv' hT hJ' hoC (by simp [hxy]) (by simp) F₃ N₃ off' ⟨hIC, hID, Ne.symm hDC⟩) (fun z s₅ h₅ => ?_) fun _ _ e => e
        obtain ⟨h₄, tk₄, news₄, rfl, F₄, N₄, off₄, hJ₄⟩ := h₅
        have zD := (N₄ (D, lst ys) (List.mem_cons_of_mem _ (List.mem_cons_of_mem _ List.mem_cons_self))).1
        refine append_at (hsz := by show ys.toArray.size ≤ sizeLine; rw [List.size_toArray, sizeLine_eq]; omega) zD fun h₅ hs₅ hD₅ => ?_
        have zI := (N₄ (I, oI) List.mem_cons_self).1
        have zC := (N₄ (C, oC) (List.mem_cons_of_mem _ List.mem_cons_self)).1
        have N₄' : News h₀ L h₄ news₄ := fun p hp => N₄ p (List.mem_cons_of_mem _ (List.mem_cons_of_mem _ (List.mem_cons_of_mem _ hp)))
        have off4 := off₄.mem
        refine ⟨vs.length + 1 - (i + 1), by omega, h₅, tk₄, i + 1, ys ++ [z], _, news₄, rfl, hlt, rfl, by rw [List.length_append, List.length_singleton]; omega, ⟨oI, hs₅.extBut _ _ hID zI, hIr⟩, F₄.change hs₅ hDL hD₀, (hoC.ns zC).sameBut hs₅ (Ne.symm hDC), fun p hp => ?_, off₄, hJ₄⟩
        rcases List.mem_cons.mp hp with rfl | hp
        · exact ⟨hD₅.trans (congrArg some (lst_snoc ys z)), hDL, hD₀⟩
        · exact ⟨hs₅.extBut _ _ (off4 p hp).2.2 (N₄' p hp).1, (N₄' p hp).2⟩
      · obtain rfl : i = vs.length := Nat.le_antisymm hi (Nat.not_lt.mp hlt)
        refine W.done _ _ _ ⟨by simpa using hst', isl Nn hJ'⟩ fun h₂ tk₂ hk₂ => ?_
        exact hRR _ _ h₂ tk₂ _ ys news' (fr_but F' hk₂ hIL hI₀) (news_but N' hk₂ fun p hp => by
          rcases List.mem_cons.mp hp with rfl | hp
          · exact Ne.symm hID
          · exact (off3 p hp).1) off'.one (hn'.at' fun o e => hk₂ _ o (by simpa using Ne.symm hIC) e) hC₀ hD₀ hCL hDL (Ne.symm hDC) (fun p hp => (off3 p hp).2.1) hJ'
    · rcases List.mem_cons.mp hp with rfl | hp
      · exact ⟨hacc, hDL, hD₀⟩
      · exact ⟨old _ _ (N p hp).1, (N p hp).2⟩
  exact codeAny_compStart_list (loop _ rfl) (W.self 0 _ _ _ ⟨⟨oI0, old _ _ hoI0, hoIc, hoId⟩, ⟨_, old _ _ (N _ (hm _ _ _ hJ)).1, rfl, k, rfl⟩⟩ (loop _ rfl))
/-- what the source of a comprehension over pairs must show -/
def SrcP (prog : Program) (w : World) (A : Around) (h₀ : Heap) (L : Addr) (m : Str → Option Value) (env : Env) (elt : Expr) (x y : Str) (scope : Scope) (cl : List (Str × Addr)) (mF : Addr → Str → Option Value) (Q : Value → Shared → Prop) (xv : Value) (s₁ : Shared) : Prop :=
  ∃ ax vs k news J, xv = .ref ax ∧ Fr h₀ L s₁.heap m ∧ News h₀ L s₁.heap news ∧ vs.length ≤ 1000 ∧ (∀ j ys nw, J j ys nw → (ax, listOf vs.toArray k) ∈ nw) ∧ J 0 [] news ∧
    (∀ i v ys nw, vs[i]? = some v → J i ys nw → ∃ T v1 v2 k, v = .ref T ∧ (T, tup2 v1 v2 k) ∈ nw) ∧
    (∀ g, TurnsP prog w A h₀ L m env elt x y scope cl { s₁ with heap := g } vs J) ∧
    (∀ D ys news' h tk, Fr h₀ L h (mF D) → News h₀ L h ((D, lst ys) :: news') → Off1 D news' → J vs.length ys news' → Q (.ref D) { s₁ with heap := h, toks := tk })
theorem assignComp_JP {elt iter : Expr} {x y z : Str} {px py pz tp : Pos} {kk : Nat} {scope : Scope} {cl : List (Str × Addr)} {pos spos : Pos} {Q : Flow → Shared → Prop} (_F : Fr h₀ L s.heap m) (hh : A.handled = none) (hLe : env.locals = L)
    (hsw : swapsWith (.ListComp elt [⟨.Tuple [.Name x px, .Name y py] kk tp, iter, [], 0⟩] scope pos) (some (.Name z pz)) spos.line env = pure true)
    (hclos : closureFor scope env = pure cl) (hcell : ∀ y ∈ scope.names, y.2 ≠ .cell) (hkind : scope.kind = .function)
    (hnames : ∀ y ∈ scope.names, y.2 = .local → scope.names.lookup y.1 = some .local) (hx : scope.names.lookup x = some .local) (hy : scope.names.lookup y = some .local) (hxy : ¬ x = y)
    (hz : env.kindOf z = some .local) (hp : (env.scope.kind == .class || (env.scope.kind == .module && env.locals != env.globals)) = false)
    (h : wpAny (model prog w) A (eval iter env) (SrcP prog w A h₀ L m env elt x y scope cl (fun D q => if q = z then some (.ref D) else m q) (fun _ s' => Q .next s')) E s)
    (hs : ∀ x, foldedSetIterable iter env x = pure x := by intro _; rfl) :
    wpAny (model prog w) A (exec (.Assign [.Name z pz] (.ListComp elt [⟨.Tuple [.Name x px, .Name y py] kk tp, iter, [], 0⟩] scope pos) spos) env) Q E s := by
  subst hLe
  rw [exec_Assign_Name_used _ _ _ _ hsw]
  refine wpAny_bind (wpAny_standAt (wpAny_bind ?_))
  show wpAny _ A (do let _ ← comprehension (.ListComp elt [⟨.Tuple [.Name x px, .Name y py] kk tp, iter, [], 0⟩] scope pos) scope env _ (newList []) false (eval iter env) (some (assign (.Name z pz) env))) _ _ s
  refine wpAny_bind (wpAny_mono (wpAny_comprehension_free (use := some (assign (.Name z pz) env)) (Q := fun _ s' => Q .next s') rfl hs hclos hkind hnames
    (wpAny_mono h (fun xv s₁ h₁ => ?_) fun _ _ e => e)) (fun _ s' hq => wpAny_pure (wpAny_pure hq)) fun _ _ e => e)
  obtain ⟨ax, vs, k, news, J, rfl, F, N, hsz, hm, hJ, hpair, turn, fin⟩ := h₁
  have hax := N _ (hm _ _ _ hJ)
  have hlt : ax < s₁.heap.objs.size := Heap.lt_size hax.1
  refine wpAny_pyIter_list ⟨_, hax.1, rfl, k, rfl⟩ ?_
  have up : ∀ (oo : Obj) b o', s₁.heap.get? b = some o' → (s₁.heap.push oo).get? b = some o' := fun oo b o' e => Heap.get?_push_of_some _ e
  refine block_JP hh (Nat.ne_of_lt hlt) ⟨_, Heap.get?_push_size _ rfl, rfl, rfl⟩ hm hsz hpair hcell hkind hx hy hxy (F.keeps (up _)) (N.grown (up _)) (Nat.ne_of_lt F.ns.lt) (next_is_new F) (fun p hp => Nat.ne_of_lt (Heap.lt_size (N p hp).1)) hJ (turn _) ?_
  intro D C h tk m' ys news' F' N' o1 hn hC₀ hD₀ hCL hDL hCD offC hJ'
  show wpAny _ A (assign (.Name z pz) env (.ref D)) _ _ _
  refine wpAny_assign_Name (wpAny_storeName_local hz F'.ns (fun h₂ hn₂ hs₂ => ?_) hp)
  refine ⟨m', hn.sameBut hs₂ hCL, fun h'' hs'' => fin D ys news' h'' _ ((F'.set hn₂ hs₂).change hs'' hCL hC₀) (fun p hp => ?_) o1 hJ'⟩
  refine ⟨hs''.extBut _ _ ?_ (hs₂.extBut _ _ (N' p hp).2.1 (N' p hp).1), (N' p hp).2⟩
  rcases List.mem_cons.mp hp with rfl | hp
  · exact Ne.symm hCD
  · exact offC p hp
end
end
section
abbrev cellO (v : Option Value) : Obj := { cls := .type "cell", data := .cell v }
section
variable {prog : Program} {w : World} {A : Around} {E : Value → Shared → Prop} {s : Shared} {h₀ : Heap} {L : Addr} {m : Str → Option Value} {env : Env}
theorem nfe_one {M : Model} {scope : Scope} {globals : Addr} {closure : List (Str × Addr)} {qual : Str} {func : Option Addr} {code : Value} {outer : Env} {builtins : Addr} {x : Str} {Q : Env → Shared → Prop}
    (hc : ∀ n, cellsFrom n scope.names closure = (x, n) :: closure) (hp : ∀ h : Heap, pushCells h scope.names = h.push (cellO none))
    (hQ : Q (newEnv scope s.heap.objs.size globals ((x, s.heap.objs.size + 1) :: closure) qual func code (some outer) builtins) { s with heap := (s.heap.push { cls := .type "dict", data := .dict #[] }).push (cellO none) }) :
    wpAny M A (newFunctionEnv scope globals closure [] qual func code (some outer) builtins) Q E s := by
  simp only [newFunctionEnv, Option.isSome_some, if_true]
  refine wpAny_bind (wpAny_alloc ?_)
  refine wpAny_bind (wpAny_layCells _ (fun name kind cells => by cases hkc : kind == NameKind.cell <;> simp [hkc]) _ _ _ _ ?_)
  rw [hc, hp]
  rw [show ({ s with heap := s.heap.push { cls := .type "dict", data := .dict #[] } } : Shared).heap.objs.size = s.heap.objs.size + 1 from Heap.size_push ..]
  refine wpAny_bind ?_
  rw [List.forIn_nil]
  exact wpAny_pure (wpAny_pure hQ)
def TurnsC (prog : Program) (w : World) (A : Around) (h₀ : Heap) (L : Addr) (m : Str → Option Value) (env : Env) (elt : Expr) (x : Str) (scope : Scope) (cl : List (Str × Addr)) (s₂ : Shared) (n : Nat) (P : Nat → Value → Prop) (J : Nat → List Value → List (Addr × Obj) → Prop) : Prop :=
  ∀ i v I oI C oC D X oX m₂ h tk ys news' (E' : Value → Shared → Prop), i < n → ys.length ≤ i → P i v → J i ys news' → NsObj oC m₂ → oX.data = .cell (some v) → Fr h₀ L h m → News h₀ L h ((I, oI) :: (C, oC) :: (D, lst ys) :: (X, oX) :: news') → Off3 I C D news' → (∀ p ∈ news', p.1 ≠ X) → ((@Ne Nat I C) ∧ (@Ne Nat I D) ∧ (@Ne Nat C D) ∧ (@Ne Nat X I) ∧ (@Ne Nat X C) ∧ (@Ne Nat X D)) →
    wpAny (model prog w) A (eval elt (compEnvC scope ((x, X) :: cl) C env)) (fun y s₄ => TurnJ h₀ L m s₂ I oI C oC D ys (fun nw => ∃ nw', nw = (X, oX) :: nw' ∧ (∀ p ∈ nw', p.1 ≠ X) ∧ J (i + 1) (ys ++ [y]) nw') s₄) E' { s₂ with heap := h, toks := tk }
theorem block_JC {elt iter : Expr} {x : Str} {px : Pos} {scope : Scope} {cl : List (Str × Addr)} {pos : Pos} {s₂ : Shared} {I : Addr} {fp : List Addr} {n : Nat} {P : Nat → Value → Prop} {St : Nat → Heap → Prop} {J : Nat → List Value → List (Addr × Obj) → Prop}
    {news : List (Addr × Obj)} {RR : Value → Addr → Result → Shared → Prop}
    (W : Walks prog w A I fp [I] n P St) (hsz : n ≤ sizeLine) (hIo : ∀ i h, St i h → ∃ o, h.get? I = some o)
    (hSt : ∀ i j ys h h' o nw, St i h → h.get? I = some o → h'.get? I = some o → (∀ b o, h₀.get? b = some o → h'.get? b = some o) → News h₀ L h' nw → J j ys nw → St i h')
    (hc : ∀ n, cellsFrom n scope.names cl = (x, n) :: cl) (hp : ∀ h : Heap, pushCells h scope.names = h.push (cellO none)) (hkind : scope.kind = .function) (hx : (relabel scope env).names.lookup x = some .cell) (hst : St 0 s₂.heap) (hfp : ∀ b ∈ fp, b < s₂.heap.objs.size)
    (F : Fr h₀ L s₂.heap m) (N : News h₀ L s₂.heap news) (hIL : L ≠ I) (hI₀ : h₀.get? I = none) (off : ∀ p ∈ news, p.1 ≠ I) (hJ : J 0 [] news)
    (turn : TurnsC prog w A h₀ L m env elt x scope cl s₂ n P J)
    (hRR : ∀ D C h tk m' ys news', Fr h₀ L h m → News h₀ L h ((D, lst ys) :: news') → Off1 D news' → h.Ns C m' → h₀.get? C = none → h₀.get? D = none → C ≠ L → D ≠ L → C ≠ D → (∀ p ∈ news', p.1 ≠ C) → J n ys news' → RR (.ref D) C (.ok .next) { s₂ with heap := h, toks := tk }) :
    wpAny (model prog w) A (newList []) (fun acc s₃ => wpAny (model prog w) A (newFunctionEnv scope env.globals cl [] env.qual none .none (some env)) (fun cenv s₄ =>
      codeAny (model prog w) A (.compStart (.ListComp elt [⟨.Name x px, iter, [], 0⟩] scope pos) 0 (.ref I) acc { cenv with scope := relabel scope env }) (RR acc cenv.locals) s₄) E s₃) E s₂ := by
  refine wpAny_newObj_type (nfe_one (x := x) hc hp ?_)
  dsimp only
  generalize hD : s₂.heap.objs.size = D
  generalize hH : s₂.heap.push { cls := .type "list", dict := none, data := .seq ([] : List Value).toArray } = H
  have hC : @Eq Nat H.objs.size (D + 1) := by rw [← hH, Heap.size_push, hD]
  generalize hCC : H.objs.size = C at hC ⊢
  have hHC : (H.push { cls := .type "dict", data := .dict #[] }).objs.size = C + 1 := by rw [Heap.size_push, hCC]
  generalize hX : @HAdd.hAdd Nat Nat Nat instHAdd C 1 = X
  have hXC : @Eq Nat X (C + 1) := hX.symm
  generalize hh1 : (H.push { cls := .type "dict", data := .dict #[] }).push (cellO none) = h₁
  have lowD : ∀ {b o}, s₂.heap.get? b = some o → @LT.lt Nat _ b D := fun e => hD ▸ Heap.lt_size e
  have old : ∀ b o, s₂.heap.get? b = some o → h₁.get? b = some o := fun b o e => by
    rw [← hh1, ← hH]
    exact Heap.get?_push_of_some _ (Heap.get?_push_of_some _ (Heap.get?_push_of_some _ e))
  have hacc : h₁.get? D = some (lst []) := by
    rw [← hh1]
    exact Heap.get?_push_of_some _ (Heap.get?_push_of_some _ (by rw [← hH, ← hD]; exact Heap.get?_push_size _ rfl))
  have hns₁ : h₁.Ns C (fun _ => none) := by
    rw [← hh1, ← hCC]
    exact (Heap.Ns.new H (.type "dict")).keeps fun b o e => Heap.get?_push_of_some _ e
  have hX1 : h₁.get? X = some (cellO none) := by
    rw [← hh1, ← hX, ← hHC]; exact Heap.get?_push_size _ rfl
  have fresh₀ : ∀ a, D ≤ a → h₀.get? a = none := fun a ha => by
    cases e : h₀.get? a with
    | none => rfl
    | some o => exact absurd (lowD (F.keep a o e)) (Nat.not_lt.mpr ha)
  have hD₀ := fresh₀ D (Nat.le_refl _)
  have hC₀ := fresh₀ C (show @LE.le Nat _ D C by omega)
  have hX₀ := fresh₀ X (show @LE.le Nat _ D X by omega)
  have hLlt : @LT.lt Nat _ L D := hD ▸ F.ns.lt
  have hDL : D ≠ L := Nat.ne_of_gt hLlt
  have hCL : C ≠ L := Nat.ne_of_gt (ltN (by omega))
  have hXL : X ≠ L := Nat.ne_of_gt (ltN (by omega))
  have hfp' : ∀ b ∈ fp, @LT.lt Nat _ b D := fun b hb => hD ▸ hfp b hb
  have hDf : D ∉ fp := fun h => Nat.lt_irrefl _ (hfp' _ h)
  have hCf : C ∉ fp := fun h => by have := hfp' _ h; omega
  have hXf : X ∉ fp := fun h => by have := hfp' _ h; omega
  have hIlt : @LT.lt Nat _ I D := hfp' I (W.sub I (List.mem_singleton.mpr rfl))
  have hIC : I ≠ C := Nat.ne_of_lt (ltN (by omega))
  have hID : I ≠ D := Nat.ne_of_lt hIlt
  have hIX : I ≠ X := Nat.ne_of_lt (ltN (by omega))
  have hDC : D ≠ C := Nat.ne_of_lt (ltN (by omega))
  have hDX : D ≠ X := Nat.ne_of_lt (ltN (by omega))
  have hCX : C ≠ X := Nat.ne_of_lt (ltN (by omega))
  have off₀ : Off3 I C D news := Off3.of fun p hp => ⟨off p hp, Nat.ne_of_lt (ltN (by have := lowD (N p hp).1; omega)), Nat.ne_of_lt (lowD (N p hp).1)⟩
  have offX₀ : ∀ p ∈ news, p.1 ≠ X := fun p hp => Nat.ne_of_lt (ltN (by have := lowD (N p hp).1; omega))
  have loop : ∀ s₃ : Shared, s₃ = { s₂ with heap := h₁ } →
      codeAny (model prog w) A (.compLoop (.ListComp elt [⟨.Name x px, iter, [], 0⟩] scope pos) 0 (.ref I) (.ref D) (compEnvC scope ((x, X) :: cl) C env)) (RR (.ref D) C) s₃ := by
    rintro s₃ rfl
    refine codeAny_compLoop_tests
      (fun k s' => ∃ h' tk i ys m' oX v0 news', s' = { s₂ with heap := h', toks := tk } ∧ i ≤ n ∧ k = n + 1 - i ∧ ys.length ≤ i ∧ St i h' ∧ Fr h₀ L h' m ∧ h'.Ns C m' ∧ oX.data = .cell v0 ∧ News h₀ L h' ((D, lst ys) :: (X, oX) :: news') ∧ Off3 I C D news' ∧ (∀ p ∈ news', p.1 ≠ X) ∧ J i ys news') ?_ (n + 1)
      ⟨h₁, s₂.toks, 0, [], _, cellO none, none, news, rfl, Nat.zero_le _, rfl, Nat.le_refl _, W.frame _ _ _ hst fun b _ o e => old b o e, F.keeps old, hns₁, rfl, fun p hp => ?_, off₀, offX₀, hJ⟩
    · rintro k s' ⟨h', tk, i, ys, m', oX0, v0, news', rfl, hi, rfl, hyl, hst', F', hn', hoX0, N', off', offX', hJ'⟩
      have off3 := off'.mem
      by_cases hlt : i < n
      · refine W.item i _ _ _ hlt hst' fun v h₂ tk₂ hPv hst₂ hk₂ => ?_
        have N₂ : News h₀ L h₂ ((D, lst ys) :: (X, oX0) :: news') := news_but N' hk₂ fun p hp => by
          rcases List.mem_cons.mp hp with rfl | hp
          · exact Ne.symm hID
          · rcases List.mem_cons.mp hp with rfl | hp
            · exact Ne.symm hIX
            · exact (off3 p hp).1
        refine wpAny_assign_Name (wpAny_storeName_cell (by simp [compEnvC, relabel, hkind]) hx (c := X) (by simp [compEnvC, List.lookup_cons]) ⟨oX0, (N₂ _ (.tail _ (.head _))).1, hoX0⟩ (fun h₃ hv₃ hs₃ => ?_))
        obtain ⟨oX, heX, hdX⟩ := hv₃
        have hst₃ : St (i + 1) h₃ := W.frame _ _ _ hst₂ fun b hb o e => hs₃.extBut b o (fun q => hXf (by have q' : b = X := q; rw [← q']; exact hb)) e
        obtain ⟨oI, heI⟩ := hIo _ _ hst₃
        obtain ⟨oC, heC, hoC⟩ := ns_obj ((hn'.at' fun o e => hk₂ _ o (by simpa using Ne.symm hIC) e).sameBut hs₃ hCX)
        have F₃ : Fr h₀ L h₃ m := (fr_but F' hk₂ hIL hI₀).change hs₃ hXL hX₀
        have N₃ : News h₀ L h₃ ((I, oI) :: (C, oC) :: (D, lst ys) :: (X, oX) :: news') := fun p hp => by
          rcases List.mem_cons.mp hp with rfl | hp
          · exact ⟨heI, Ne.symm hIL, hI₀⟩
          rcases List.mem_cons.mp hp with rfl | hp
          · exact ⟨heC, hCL, hC₀⟩
          rcases List.mem_cons.mp hp with rfl | hp
          · have z := N₂ _ (.head _)
            exact ⟨hs₃.extBut _ _ hDX z.1, z.2⟩
          rcases List.mem_cons.mp hp with rfl | hp
          · exact ⟨heX, hXL, hX₀⟩
          · have z := N₂ p (.tail _ (.tail _ hp))
            exact ⟨hs₃.extBut _ _ (offX' p hp) z.1, z.2⟩
        refine wpAny_tests_nil ?_
        simp only [if_true]
        refine wpAny_mono (turn i v I oI C oC D X oX _ h₃ _ ys news' _ hlt hyl hPv hJ' hoC hdX F₃ N₃ off' offX' ⟨hIC, hID, Ne.symm hDC, Ne.symm hIX, Ne.symm hCX, Ne.symm hDX⟩) (fun y s₅ h₅ => ?_) fun _ _ e => e
        obtain ⟨h₄, tk₄, news₄, rfl, F₄, N₄, off₄, nw', rfl, offX₄, hJ₄⟩ := h₅
        have zD := (N₄ (D, lst ys) (.tail _ (.tail _ (.head _)))).1
        have zI := (N₄ (I, oI) (.head _)).1
        have zC := (N₄ (C, oC) (.tail _ (.head _))).1
        have zX := (N₄ (X, oX) (.tail _ (.tail _ (.tail _ (.head _)))))
        have N₄' : News h₀ L h₄ nw' := fun p hp => N₄ p (.tail _ (.tail _ (.tail _ (.tail _ hp))))
        have hst₄ : St (i + 1) h₄ := hSt _ _ _ _ _ _ _ hst₃ heI zI F₄.keep N₄' hJ₄
        have off4 := off₄.mem
        refine append_at (hsz := by show ys.toArray.size ≤ sizeLine; rw [List.size_toArray]; omega) zD fun h₅ hs₅ hD₅ => ?_
        refine ⟨n + 1 - (i + 1), by omega, h₅, tk₄, i + 1, ys ++ [y], _, oX, _, nw', rfl, hlt, rfl, by rw [List.length_append, List.length_singleton]; omega, W.frame _ _ _ hst₄ fun b hb o e => hs₅.extBut b o (fun q => hDf (q ▸ hb)) e, F₄.change hs₅ hDL hD₀, (hoC.ns zC).sameBut hs₅ (Ne.symm hDC), hdX, fun p hp => ?_, off₄.2, offX₄, hJ₄⟩
        rcases List.mem_cons.mp hp with rfl | hp
        · exact ⟨hD₅.trans (congrArg some (lst_snoc ys y)), hDL, hD₀⟩
        rcases List.mem_cons.mp hp with rfl | hp
        · exact ⟨hs₅.extBut _ _ (Ne.symm hDX) zX.1, zX.2⟩
        · exact ⟨hs₅.extBut _ _ (off4 p (.tail _ hp)).2.2 (N₄' p hp).1, (N₄' p hp).2⟩
      · obtain rfl : i = n := Nat.le_antisymm hi (Nat.not_lt.mp hlt)
        refine W.done _ _ _ hst' fun h₂ tk₂ hk₂ => ?_
        have N₂ : News h₀ L h₂ ((D, lst ys) :: (X, oX0) :: news') := news_but N' hk₂ fun p hp => by
          rcases List.mem_cons.mp hp with rfl | hp
          · exact Ne.symm hID
          · rcases List.mem_cons.mp hp with rfl | hp
            · exact Ne.symm hIX
            · exact (off3 p hp).1
        exact hRR _ _ h₂ tk₂ _ ys news' (fr_but F' hk₂ hIL hI₀) (fun p hp => by
          rcases List.mem_cons.mp hp with rfl | hp
          · exact N₂ _ (.head _)
          · exact N₂ p (.tail _ (.tail _ hp))) off'.one (hn'.at' fun o e => hk₂ _ o (by simpa using Ne.symm hIC) e) hC₀ hD₀ hCL hDL (Ne.symm hDC) (fun p hp => (off3 p hp).2.1) hJ'
    · rcases List.mem_cons.mp hp with rfl | hp
      · exact ⟨hacc, hDL, hD₀⟩
      rcases List.mem_cons.mp hp with rfl | hp
      · exact ⟨hX1, hXL, hX₀⟩
      · exact ⟨old _ _ (N p hp).1, (N p hp).2⟩
  exact codeAny_compStart_list (loop _ rfl) (W.self 0 _ _ _ (W.frame _ _ _ hst fun b _ o e => old b o e) (loop _ rfl))
/-- what a comprehension's source must show where its variable is a cell: a list of the ledger -/
def SrcC (prog : Program) (w : World) (A : Around) (h₀ : Heap) (L : Addr) (m : Str → Option Value) (env : Env) (elt : Expr) (x : Str) (scope : Scope) (cl : List (Str × Addr)) (Q : Value → Shared → Prop) (xv : Value) (s₁ : Shared) : Prop :=
  ∃ (ax : Addr) (vs : List Value) (k : Nat) (news : List (Addr × Obj)) (J : Nat → List Value → List (Addr × Obj) → Prop), xv = .ref ax ∧ Fr h₀ L s₁.heap m ∧ News h₀ L s₁.heap news ∧ vs.length ≤ 1000 ∧ (∀ j ys nw, J j ys nw → (ax, listOf vs.toArray k) ∈ nw) ∧ J 0 [] news ∧
    (∀ g, TurnsC prog w A h₀ L m env elt x scope cl { s₁ with heap := g } vs.length (fun i v => vs[i]? = some v) J) ∧
    (∀ D ys news' h tk, Fr h₀ L h m → News h₀ L h ((D, lst ys) :: news') → Off1 D news' → J vs.length ys news' → Q (.ref D) { s₁ with heap := h, toks := tk })
theorem listComp_JC {elt iter : Expr} {x : Str} {px : Pos} {scope : Scope} {cl : List (Str × Addr)} {pos : Pos} {Q : Value → Shared → Prop} (_F : Fr h₀ L s.heap m) (_hq : scope.names.lookup x = some .cell) (hh : A.handled = none)
    (hclos : closureFor scope env = pure cl) (hc : ∀ n, cellsFrom n scope.names cl = (x, n) :: cl) (hp : ∀ h : Heap, pushCells h scope.names = h.push (cellO none)) (hkind : scope.kind = .function)
    (hnames : ∀ y ∈ scope.names, y.2 = .local → scope.names.lookup y.1 = some .local) (hx : (relabel scope env).names.lookup x = some .cell)
    (h : wpAny (model prog w) A (eval iter env) (SrcC prog w A h₀ L m env elt x scope cl Q) E s)
    (hs : ∀ x, foldedSetIterable iter env x = pure x := by intro _; rfl) :
    wpAny (model prog w) A (eval (.ListComp elt [⟨.Name x px, iter, [], 0⟩] scope pos) env) Q E s := by
  rw [eval_ListComp]
  refine wpAny_comprehension_free (use := none) rfl hs hclos hkind hnames (wpAny_mono h (fun xv s₁ h₁ => ?_) fun _ _ e => e)
  obtain ⟨ax, vs, k, news, J, rfl, F, N, hsz, hm, hJ, turn, fin⟩ := h₁
  have hax := N _ (hm _ _ _ hJ)
  have hl : s₁.heap.IsList ax vs.toArray := ⟨_, hax.1, rfl, k, rfl⟩
  have hlt : ax < s₁.heap.objs.size := Heap.lt_size hax.1
  have hvs : vs.toArray.size = vs.length := by simp
  refine wpAny_pyIter_list hl ?_
  have up : ∀ (oo : Obj) b o', s₁.heap.get? b = some o' → (s₁.heap.push oo).get? b = some o' := fun oo b o' e => Heap.get?_push_of_some _ e
  have W := Walks.list (prog := prog) (w := w) hh s₁.heap.objs.size ax (Nat.ne_of_lt hlt) vs.toArray
  rw [hvs] at W
  have W' : Walks prog w A s₁.heap.objs.size [s₁.heap.objs.size, ax] [s₁.heap.objs.size] vs.length (fun i v => vs[i]? = some v) (fun i h => h.IsListIter s₁.heap.objs.size ax i ∧ h.IsList ax vs.toArray) :=
    { sub := W.sub, frame := W.frame, done := W.done, self := W.self, item := fun i s Q E hi st hQ => W.item i s Q E hi st fun v h' tk hP => hQ v h' tk (by simpa using hP) }
  refine block_JC W' (by rw [sizeLine_eq]; omega) ?_ ?_ hc hp hkind hx ⟨⟨_, Heap.get?_push_size _ rfl, rfl, rfl⟩, hl.push _⟩ ?_ (F.keeps (up _)) (N.grown (up _)) (Nat.ne_of_lt F.ns.lt) (next_is_new F) (fun p hp => Nat.ne_of_lt (Heap.lt_size (N p hp).1)) hJ (turn _) ?_
  · intro i h st
    obtain ⟨o, e, _⟩ := st.1
    exact ⟨o, e⟩
  · intro i j ys h h' o nw st e e' hk N' hJ'
    exact ⟨by obtain ⟨o', q, r⟩ := st.1; rw [e] at q; cases q; exact ⟨o, e', r⟩, ⟨_, (N' _ (hm _ _ _ hJ')).1, rfl, k, rfl⟩⟩
  · intro b hb
    show b < (s₁.heap.push _).objs.size
    rw [Heap.size_push]
    rcases List.mem_cons.mp hb with rfl | hb
    · exact Nat.lt_succ_self _
    · rw [List.mem_singleton.mp hb]; exact Nat.lt_succ_of_lt hlt
  · intro D C h tk m' ys news' F' N' o1 hn hC₀ hD₀ hCL hDL hCD offC hJ'
    refine ⟨m', hn, fun h'' hs'' => fin D ys news' h'' tk (F'.change hs'' hCL hC₀) (fun p hp => ?_) o1 hJ'⟩
    refine ⟨hs''.extBut _ _ ?_ (N' p hp).1, (N' p hp).2⟩
    rcases List.mem_cons.mp hp with rfl | hp
    · exact Ne.symm hCD
    · exact offC p hp
end
end
section
/-- the end of the law: it hands back True, what stood stands, the tables have grown -/
def EndB (tabs : List (Addr × Addr)) (s₁ : Shared) (r : Result) (s' : Shared) : Prop :=
  r = .ok (.ret (.bool true)) ∧ (∀ b o, (ghostOf s₁.heap tabs).get? b = some o → s'.heap.get? b = some o) ∧ s'.os = s₁.os ∧ AllBare s'.gens ∧ GrownAll tabs s'.heap
theorem post_B {M : Model} {A : Around} {cd : Code} {s s₁ : Shared} {cw : ClaimW} {cl : Str → Option Addr} {mean : ExcName → Option Value} {args : List WData} {tabs : List (Addr × Addr)} (hT : TabsAt tabs s₁.heap)
    (hn : ∀ a x, cw.raises a x = false) (hp : cw.post args (.bool true) args = true) (h : codeAny M A cd (EndB tabs s₁) s) : codeAny M A cd (GoodWG cw cl mean args s₁) s := by
  refine codeAny_mono h ?_
  rintro r s' ⟨rfl, hk, hos, hg, hgr⟩
  have at' : ∀ b o, s₁.heap.get? b = some o → s'.heap.get? b = some o ∨ (isCodeTable s₁.heap b ∧ o = tabObj #[] ∧ ∃ ps, s'.heap.get? b = some (tabObj ps)) := fun b o e => by
    by_cases hb : b ∈ tabs.map (·.2)
    · obtain ⟨q, hq, rfl⟩ := List.mem_map.mp hb
      have e2 := (hT q hq).2
      rw [e] at e2
      exact .inr ⟨((hT q hq).1.tab (hT q hq).2).isCodeTable, Option.some.inj e2, hgr.get q hq⟩
    · exact .inl (hk b o (ghost_ne e hb))
  refine ⟨.inl ⟨_, .bool true, [], rfl, fun x => hn args x, .bool true, hp, fun _ => ⟨.nil, fun _ ha => nomatch ha⟩⟩, ⟨fun b o e => ?_, fun b o e => ?_⟩, hos, hg⟩
  · rcases at' b o e with z | ⟨ht, rfl, ps, hP⟩
    · exact .inl z
    · exact .inr (.inl ⟨ht, rfl, #[], ps, rfl, by rw [Array.empty_append]; exact hP⟩)
  · rcases at' b o e with z | ⟨_, _, ps, hP⟩
    · exact ⟨o, z⟩
    · exact ⟨_, hP⟩
end
section
abbrev nlS : Str := Str.ofString "\n"
def words4 : List Str := [Str.ofString "", Str.ofString "one", Str.ofString "two words", Str.ofString "three"]
open PySem.StrLaws PySem.Builtin.Str in
theorem ls_add (s : Str) : ∀ (m cur k : Nat) (st : LsSt), Id.run (forIn (m := Id) (List.range' cur (m + k)) st (lsBody s)) = Id.run (forIn (m := Id) (List.range' (cur + m) k) (Id.run (forIn (m := Id) (List.range' cur m) st (lsBody s))) (lsBody s))
  | 0, cur, k, st => by rw [Nat.zero_add, Nat.add_zero]; rfl
  | m + 1, cur, k, (L, b) => by
    have e : m + 1 + k = (m + k) + 1 := by omega
    have e2 : cur + (m + 1) = cur + 1 + m := by omega
    rw [e, List.range'_succ, List.range'_succ, List.forIn_cons, List.forIn_cons, e2]
    unfold lsBody
    by_cases hc : (decide (b ≤ cur) && Unicode.isLineBreak (s.cps.getD cur 0)) = true
    · simp only [hc, if_true]
      exact ls_add s m (cur + 1) k _
    · simp only [hc, if_false, Bool.false_eq_true]
      exact ls_add s m (cur + 1) k _
open PySem.StrLaws PySem.Builtin.Str in
theorem ls_plain (s : Str) : ∀ (m cur : Nat) (st : LsSt), (∀ i, cur ≤ i → i < cur + m → Unicode.isLineBreak (s.cps.getD i 0) = false) → Id.run (forIn (m := Id) (List.range' cur m) st (lsBody s)) = st
  | 0, _, _, _ => rfl
  | m + 1, cur, (L, b), h => by
    rw [List.range'_succ, List.forIn_cons]
    have h0 := h cur (Nat.le_refl _) (by omega)
    unfold lsBody
    simp only [h0, Bool.and_false, Bool.false_eq_true, if_false]
    exact ls_plain s m (cur + 1) _ fun i h1 h2 => h i (by omega) (by omega)
/-- the lines, each with its line's end, as code points -/
def encL : List Str → List Nat
  | [] => []
  | l :: r => l.cps.toList ++ 10 :: encL r
def spansL : Nat → List Str → List (Nat × Nat × Nat)
  | _, [] => []
  | c, l :: r => (c, c + l.length, c + l.length + 1) :: spansL (c + l.length + 1) r
def Plain (l : Str) : Prop := ∀ c ∈ l.cps.toList, Unicode.isLineBreak c = false
theorem getD_at {s : Str} {P T : List Nat} {c : Nat} (h : s.cps.toList = P ++ c :: T) : s.cps.getD P.length 0 = c := by
  rw [Array.getD_eq_getD_getElem?, ← Array.getElem?_toList, h, List.getElem?_append_right (Nat.le_refl _), Nat.sub_self]; rfl
open PySem.StrLaws PySem.Builtin.Str in
theorem ls_lines (s : Str) : ∀ (ls : List Str) (P : List Nat) (L : Array (Nat × Nat × Nat)), s.cps.toList = P ++ encL ls → (∀ l ∈ ls, Plain l) →
    Id.run (forIn (m := Id) (List.range' P.length (encL ls).length) ((L, P.length) : LsSt) (lsBody s)) = (L ++ (spansL P.length ls).toArray, P.length + (encL ls).length)
  | [], P, L, _, _ => by
    show ((L, P.length) : LsSt) = (L ++ #[], P.length + 0)
    rw [Array.append_empty, Nat.add_zero]
  | l :: r, P, L, hs, hp => by
    have hl : l.cps.toList.length = l.length := Array.length_toList
    have e : (encL (l :: r)).length = l.length + (1 + (encL r).length) := by
      simp only [encL, List.length_append, List.length_cons, hl]; omega
    have hs2 : s.cps.toList = (P ++ l.cps.toList) ++ 10 :: encL r := by rw [hs, encL, List.append_assoc]
    have hs3 : s.cps.toList = (P ++ l.cps.toList ++ [10]) ++ encL r := by rw [hs2, List.append_assoc _ [10]]; rfl
    have len2 : (P ++ l.cps.toList).length = P.length + l.length := by rw [List.length_append, hl]
    have len3 : (P ++ l.cps.toList ++ [10]).length = P.length + l.length + 1 := by rw [List.length_append, len2]; rfl
    have hc : s.cps.getD (P.length + l.length) 0 = 10 := by rw [← len2]; exact getD_at hs2
    have hb : Unicode.isLineBreak 10 = true := by decide +kernel
    have hn : lsNext s (P.length + l.length) = P.length + l.length + 1 := by
      unfold lsNext; rw [hc]; rfl
    rw [e, ls_add, ls_plain s l.length P.length _ (fun i h1 h2 => ?_), ls_add]
    · have step : Id.run (forIn (m := Id) (List.range' (P.length + l.length) 1) ((L, P.length) : LsSt) (lsBody s)) = (L.push (P.length, P.length + l.length, P.length + l.length + 1), P.length + l.length + 1) := by
        rw [List.range'_succ, List.forIn_cons]
        unfold lsBody
        simp only [hc, hb, hn, Bool.and_true, decide_eq_true (Nat.le_add_right P.length l.length), if_true]
        rfl
      rw [step]
      have ih := ls_lines s r (P ++ l.cps.toList ++ [10]) (L.push (P.length, P.length + l.length, P.length + l.length + 1)) hs3 fun q hq => hp q (List.mem_cons_of_mem _ hq)
      rw [len3] at ih
      rw [ih, spansL]
      refine Prod.ext ?_ ?_
      · show L.push _ ++ _ = L ++ _
        rw [Array.push_eq_append, Array.append_assoc]
        congr 1
        simp
      · show P.length + l.length + 1 + (encL r).length = P.length + (l.length + (1 + (encL r).length))
        omega
    · obtain ⟨j, rfl⟩ : ∃ j, i = P.length + j := ⟨i - P.length, by omega⟩
      have hj : j < l.cps.toList.length := by rw [hl]; omega
      have g : s.cps.getD (P.length + j) 0 = l.cps.toList[j] := by
        rw [Array.getD_eq_getD_getElem?, ← Array.getElem?_toList, hs2, List.getElem?_append_left (by rw [len2, ← hl]; omega), List.getElem?_append_right (Nat.le_add_right _ _), Nat.add_sub_cancel_left, List.getElem?_eq_getElem hj]; rfl
      rw [g]
      exact hp l (List.mem_cons_self ..) _ (List.getElem_mem hj)
open PySem.StrLaws PySem.Builtin.Str in
theorem subs_lines (s : Str) : ∀ (ls : List Str) (P : List Nat), s.cps.toList = P ++ encL ls → (spansL P.length ls).map (fun (p : Nat × Nat × Nat) => strSub s p.1 p.2.1) = ls
  | [], _, _ => rfl
  | l :: r, P, hs => by
    have hl : l.cps.toList.length = l.length := Array.length_toList
    have hs2 : s.cps.toList = (P ++ l.cps.toList) ++ 10 :: encL r := by rw [hs, encL, List.append_assoc]
    have hs3 : s.cps.toList = (P ++ l.cps.toList ++ [10]) ++ encL r := by rw [hs2, List.append_assoc _ [10]]; rfl
    have len3 : (P ++ l.cps.toList ++ [10]).length = P.length + l.length + 1 := by rw [List.length_append, List.length_append, hl]; rfl
    have ih := subs_lines s r (P ++ l.cps.toList ++ [10]) hs3
    rw [len3] at ih
    rw [spansL, List.map_cons, ih]
    congr 1
    show (⟨s.cps.extract P.length (P.length + l.length)⟩ : Str) = l
    have : s.cps.extract P.length (P.length + l.length) = l.cps := by
      apply Array.toList_inj.mp
      rw [Array.toList_extract, List.extract_eq_take_drop, hs, encL, Nat.add_sub_cancel_left, List.drop_left' rfl, ← hl, List.take_left' rfl]
    rw [this]
open PySem.StrLaws PySem.Builtin.Str in
theorem lines_enc {s : Str} {ls : List Str} (hs : s.cps.toList = encL ls) (hp : ∀ l ∈ ls, Plain l) : Txt.lines s = ls := by
  have hn : s.length = (encL ls).length := by rw [← hs]; exact Array.length_toList.symm
  have e : lineSpans s = spansL 0 ls := by
    have k := ls_lines s ls [] #[] hs hp
    rw [ls_eq, hn]
    rw [List.length_nil] at k
    rw [k, lsEnd, hn]
    simp
  have e2 : linesOf s = ls := by
    have k := subs_lines s ls [] hs
    rw [List.length_nil] at k
    have : linesOf s = (lineSpans s).map fun (p : Nat × Nat × Nat) => strSub s p.1 p.2.1 := by
      unfold linesOf lineCuts
      rw [List.map_map]
      apply List.map_congr_left
      intro ⟨i, j, k⟩ _
      rfl
    rw [this, e, k]
  unfold Txt.lines
  rw [if_neg]
  · exact e2
  · intro h
    have h := eq_of_beq h
    unfold lineCuts at h
    rw [e] at h
    cases ls with
    | nil => cases h
    | cons l r =>
      rw [spansL, List.map_cons] at h
      have h1 := (List.cons.inj h).1
      have h2 : 0 + l.length = s.length := (Prod.mk.inj h1).2
      have hl : l.cps.toList.length = l.length := Array.length_toList
      rw [hn, encL, List.length_append, List.length_cons, hl] at h2
      omega
theorem join_enc : ∀ (r : List Str) (A : Array Nat), (r.foldl (fun acc (p : Str) => acc ++ #[10] ++ p.cps) A ++ #[10]).toList = A.toList ++ 10 :: encL r
  | [], A => by simp [encL]
  | b :: r, A => by
    rw [List.foldl_cons, join_enc r]
    simp [encL]
theorem nlS_cps : nlS.cps = #[10] := by decide +kernel
theorem join_encL (a : Str) (r : List Str) : (Txt.join nlS (a :: r) ++ nlS).cps.toList = encL (a :: r) := by
  show ((r.foldl (fun acc (p : Str) => acc ++ nlS.cps ++ p.cps) a.cps) ++ nlS.cps).toList = _
  rw [nlS_cps]
  exact join_enc r a.cps
theorem words4_plain : ∀ l ∈ words4, Plain l := by
  have h : (words4.all fun l => l.cps.toList.all fun c => !Unicode.isLineBreak c) = true := by decide +kernel
  intro l hl c hc
  have z := List.all_eq_true.mp (List.all_eq_true.mp h l hl) c hc
  simpa using z
def LinesOk (ls : List Str) : Prop := ls ≠ [] ∧ ls.length ≤ 4 ∧ ∀ l ∈ ls, l ∈ words4
theorem lines_back {ls : List Str} (h : LinesOk ls) : Txt.lines (Txt.join nlS ls ++ nlS) = ls := by
  obtain ⟨h1, _, h3⟩ := h
  cases ls with
  | nil => exact absurd rfl h1
  | cons a r => exact lines_enc (join_encL a r) fun l hl => words4_plain l (h3 l hl)
theorem words4_len : ∀ l ∈ words4, l.length ≤ 9 := by decide +kernel
def jtail (sep : Str) : List Str → Str
  | [] => Str.empty
  | l :: r => sep ++ (l ++ jtail sep r)
theorem join_jtail (sep : Str) : ∀ (r : List Str) (a : Str), Str.join sep (a :: r) = a ++ jtail sep r
  | [], a => (Str.append_empty a).symm
  | b :: r, a => by
    show a ++ sep ++ Str.join sep (b :: r) = a ++ (sep ++ (b ++ jtail sep r))
    rw [join_jtail sep r b, Str.append_assoc]
theorem jtail_map (sep ind : Str) : ∀ r : List Str, jtail (sep ++ ind) r = jtail sep (r.map fun l => ind ++ l)
  | [] => rfl
  | l :: r => by
    show sep ++ ind ++ (l ++ jtail (sep ++ ind) r) = sep ++ ((ind ++ l) ++ jtail sep (r.map fun l => ind ++ l))
    rw [jtail_map sep ind r, Str.append_assoc, Str.append_assoc]
/-- a line behind its blanks, unless it is empty -/
def indL (ind l : Str) : Str := if l == Str.ofString "" then l else ind ++ l
/-- what do_indent hands back for the text of these lines -/
def indD (ind : Str) (first blank : Bool) (ls : List Str) : Str :=
  let rv := if blank then Txt.join (nlS ++ ind) ls else match ls with
    | [] => Str.ofString ""
    | [a] => a
    | a :: b :: r => a ++ (nlS ++ Txt.join nlS ((b :: r).map (indL ind)))
  if first then ind ++ rv else rv
def foundD (mark : Str) (first blank : Bool) : List Str → List Str
  | [] => []
  | a :: r => ((if first then mark else Str.ofString "") ++ a) :: r.map fun l => (if blank || !(l == Str.ofString "") then mark else Str.ofString "") ++ l
theorem empty_is : Str.ofString "" = Str.empty := by decide +kernel
theorem indent_eq {ls : List Str} (h : ls ≠ []) (ind : Str) (first blank : Bool) : indD ind first blank ls = Txt.join nlS (foundD ind first blank ls) := by
  match ls, h with
  | a :: r, _ =>
    have e1 : ∀ x : Str, (if first = true then ind else Str.ofString "") ++ x = if first = true then ind ++ x else x := fun x => by
      cases first
      · rw [empty_is]; exact Str.empty_append x
      · rfl
    have e2 : ∀ x y : Str, (if first = true then ind ++ x else x) ++ y = if first = true then ind ++ (x ++ y) else x ++ y := fun x y => by
      cases first
      · rfl
      · exact Str.append_assoc ..
    have e3 : Txt.join nlS (foundD ind first blank (a :: r)) = if first = true then ind ++ (a ++ jtail nlS (r.map fun l => (if (blank || !(l == Str.ofString "")) = true then ind else Str.ofString "") ++ l)) else a ++ jtail nlS (r.map fun l => (if (blank || !(l == Str.ofString "")) = true then ind else Str.ofString "") ++ l) := by
      show PySem.Builtin.Str.glued nlS (foundD ind first blank (a :: r)) = _
      rw [StrLaws.glued_eq_join]
      unfold foundD
      rw [join_jtail, e1, e2]
    rw [e3]
    unfold indD
    have e4 : (if blank = true then Txt.join (nlS ++ ind) (a :: r) else match a :: r with
        | [] => Str.ofString ""
        | [a] => a
        | a :: b :: r => a ++ (nlS ++ Txt.join nlS ((b :: r).map (indL ind)))) = a ++ jtail nlS (r.map fun l => (if (blank || !(l == Str.ofString "")) = true then ind else Str.ofString "") ++ l) := by
      cases blank with
      | true =>
        simp only [if_true, Bool.true_or]
        show PySem.Builtin.Str.glued (nlS ++ ind) (a :: r) = _
        rw [StrLaws.glued_eq_join, join_jtail, jtail_map]
      | false =>
        simp only [Bool.false_eq_true, if_false, Bool.false_or]
        have e5 : (fun l : Str => (if (!(l == Str.ofString "")) = true then ind else Str.ofString "") ++ l) = indL ind := by
          funext l
          unfold indL
          cases hl : l == Str.ofString "" with
          | true => simp only [Bool.not_true, Bool.false_eq_true, if_false, if_true]; rw [empty_is]; exact Str.empty_append l
          | false => simp only [Bool.not_false, Bool.false_eq_true, if_false, if_true]
        rw [e5]
        match r with
        | [] => exact (Str.append_empty a).symm
        | b :: r =>
          show a ++ (nlS ++ PySem.Builtin.Str.glued nlS ((b :: r).map (indL ind))) = a ++ jtail nlS ((b :: r).map (indL ind))
          rw [StrLaws.glued_eq_join, List.map_cons, join_jtail]
          rfl
    simp only [e4]
theorem foundD_take {mark : Str} {first blank : Bool} {ls : List Str} {i : Nat} {l : Str} (h : ls[i]? = some l) :
    foundD mark first blank (ls.take (i + 1)) = foundD mark first blank (ls.take i) ++ [if i = 0 then (if first then mark else Str.ofString "") ++ l else (if blank || !(l == Str.ofString "") then mark else Str.ofString "") ++ l] := by
  cases ls with
  | nil => simp at h
  | cons a r =>
    cases i with
    | zero =>
      simp only [List.getElem?_cons_zero, Option.some.injEq] at h
      subst h
      rfl
    | succ i =>
      simp only [List.getElem?_cons_succ] at h
      simp only [List.take_succ_cons, foundD, List.cons_append, Nat.succ_ne_zero, if_false]
      rw [List.take_add_one, h]
      simp
end
section
local macro_rules | `(tactic| walk_at "call ref") => `(tactic| (k_here; (with_reducible show wpAny _ _ (call (Value.ref 309) _ _) _ _ _); k_dflt (refine' take_use ?B ?F ?X ?N ?T ?hk ?p1 ?p2 ?hDS ?hDr ?hSr ?hd ?hu ?hk0 ?hk1 ?ok ?_; (case B => k_asm); (case F => k_asm); (case X => k_asm); (case N => k_asm); (case T => k_asm); (case hk => first | exact rfl | assumption); (case p1 => walk_at "pick"); (case p2 => walk_at "pick"); (case hDS => (first | assumption | k_ne)); (case hDr => k_all); (case hSr => k_all); (case hd => walk_at "room"); (case hu => (have hcL9 := cLine_is; walk_at "room")); (case hk0 => first | decide | omega); (case hk1 => first | decide | omega); (case ok => assumption)); intro r9 q9 t9 u9 n9 k9 vs9 h9 tk9 ok9 rlo9 rhi9 F9 N9))
local macro_rules | `(tactic| walk_at "subscriptTail") => `(tactic| (k_here; (with_reducible show wpAny _ _ (subscriptTail _ _ (Value.ref _) (Value.int _ _)) _ _ _); (fail_if_success (with_reducible show wpAny _ _ (subscriptTail _ _ (Value.ref _) (Value.int 0 _)) _ _ _)); (fail_if_success (with_reducible show wpAny _ _ (subscriptTail _ _ (Value.ref _) (Value.int 1 _)) _ _ _)); k_dflt (refine' item_L ?N ?m ?k0 ?k1 ?z ?_ ?hs; (case N => k_asm); (case m => k_mem); (case k0 => omega); (case k1 => (try simp only [List.length_cons, List.length_nil, List.length_append]); omega); (case z => (try simp only [List.length_cons, List.length_nil, List.length_append]); omega); (case hs => with_unfolding_all rfl)); intro v9 hv9))
local macro_rules | `(tactic| walk_at "size") => `(tactic| ((try simp only [List.size_toArray, List.length_cons, List.length_nil, List.length_append, List.length_take, List.length_drop]); (try rw [sizeLine_eq]); omega))
local macro_rules | `(tactic| walk_at "call builtin:len") => `(tactic| (k_here; (with_reducible show wpAny _ _ (call (Value.builtin "len") [Value.ref _]) _ _ _); k_dflt (refine' len_L ?N ?m ?z ?_; (case N => k_asm); (case m => k_mem); (case z => walk_at "size"))))
local macro_rules | `(tactic| walk_at "subscriptTail") => `(tactic| (k_here; (with_reducible show wpAny _ _ (subscriptTail _ (PySem.Expr.Slice _ _ none _) (Value.ref _) (Value.ref _)) _ _ _); k_dflt (refine' slice_L ?F ?N ?l ?p ?q ?_ ?s ?t ?z; (case F => k_asm); (case N => k_asm); (case l => k_mem); (case p => kmk_part); (case q => kmk_part); (case s => with_unfolding_all rfl); (case t => kmk_pure); (case z => walk_at "size")); intro D9 h9 z9 hz9 hzl9 F9 N9 l1; (try k_lt l1)))
local macro_rules | `(tactic| walk_at "subscriptTail Name Slice ref ref") => `(tactic| (k_here; (with_reducible show wpAny _ _ (subscriptTail _ (PySem.Expr.Slice _ _ none _) (Value.ref _) (Value.ref _)) _ _ _); k_dflt (refine' slice_L ?F ?N ?l ?p ?q ?_ ?s ?t ?z; (case F => k_asm); (case N => k_asm); (case l => k_mem); (case p => kmk_part); (case q => kmk_part); (case s => with_unfolding_all rfl); (case t => kmk_pure); (case z => walk_at "size")); intro D9 h9 z9 hz9 hzl9 F9 N9 l1; (try k_lt l1)))
section
local macro_rules | `(tactic| walk_at "compareOp Eq ref ref") => `(tactic| (k_here; k_dflt (refine' eq_nil ?N ?a ?b ?d ?k ?u ?_; (case N => k_asm); (case a => k_mem); (case b => k_mem); (case d => with_reducible assumption); (case k => with_reducible assumption); (case u => units_room))))
local macro_rules | `(tactic| walk_at "call builtin:list.append") => `(tactic| (k_here; k_dflt (refine' append_L ?F ?N ?U ?z ?_; (case F => k_asm); (case N => k_asm); (case U => k_upd); (case z => walk_at "size")); intro h9 F9 N9))
section
theorem setL_last (x v : Value) : ∀ vs : List Value, ki_setL (vs ++ [x]) vs.length v = some (vs ++ [v])
  | [] => rfl
  | y :: vs => by
    rw [List.cons_append, List.length_cons, ki_setL, setL_last x v vs]
    rfl
section
variable {prog : Program} {w : World} {A : Around} {E : Value → Shared → Prop} {s : Shared} {h₀ : Heap} {L : Addr} {m : Str → Option Value} {news news' : List (Addr × Obj)}
theorem last_L {value slice : Expr} {l : Addr} {vs : List Value} {x : Value} {n : Nat} {u : Tok} {Q : Value → Shared → Prop} (N : News h₀ L s.heap news) (hm : (l, listOf (vs ++ [x]).toArray n) ∈ news) (hz : vs.length ≤ 1000)
    (h : Q x s) (hs : subscripted slice false (.ref l) (.int (-1) u) = operate [.ref l, .int (-1) u] (getItem (.ref l) (.int (-1) u)) := by with_unfolding_all rfl) :
    wpAny (model prog w) A (subscriptTail value slice (.ref l) (.int (-1) u)) Q E s :=
  have hL := memList N hm
  tail_any hL.typeIs slot_list_getitem.lookup (wpAny_getItem_list_neg hL (by decide) (by simp; omega) (by decide) (by
    rw [show ((-1 : Int) + ((vs ++ [x]).toArray.size : Nat)).toNat = vs.length by simp; omega]
    simp) h) hs
theorem setlast_L {D : Addr} {vs : List Value} {x v : Value} {n : Nat} {u : Tok} {Q : Unit → Shared → Prop} (F : Fr h₀ L s.heap m) (N : News h₀ L s.heap news) (U : Upd D (listOf (vs ++ [x]).toArray n) (listOf (vs ++ [v]).toArray n) news news')
    (h : ∀ h', Fr h₀ L h' m → News h₀ L h' news' → Q () { s with heap := h' }) : wpAny (model prog w) A (setItem (.ref D) (.int (-1) u) v) Q E s :=
  ki_setNeg (j := vs.length) F N (by decide) (by decide) (by
    unfold seqIndex?
    have e : ((vs ++ [x]).toArray.size : Int) = (vs.length : Int) + 1 := by simp
    rw [e]
    simp only [show (-1 : Int) < 0 by decide, if_true]
    rw [if_pos (by simp only [Bool.and_eq_true, decide_eq_true_eq]; omega)]
    congr 1
    omega) (setL_last x v vs) U h
end
section
variable {prog : Program} {w : World} {A : Around} {E : Value → Shared → Prop} {s : Shared} {h₀ : Heap} {L : Addr} {m : Str → Option Value} {news : List (Addr × Obj)}
theorem flat_rep {α : Type} (v : α) : ∀ n, (List.replicate n [v]).flatten = List.replicate n v
  | 0 => rfl
  | n + 1 => by rw [List.replicate_succ, List.flatten_cons, flat_rep v n]; rfl
theorem mul1_L {l : Addr} {v : Value} {k : Nat} {x : Int} {u : Tok} {Q : Value → Shared → Prop} (Fm : Fr h₀ L s.heap m) (N : News h₀ L s.heap news) (hm : (l, listOf [v].toArray k) ∈ news) (hlo : -100 ≤ x) (hhi : x ≤ 100)
    (h : ∀ D h', Fr h₀ L h' m → News h₀ L h' ((D, listOf (List.replicate x.toNat v).toArray 0) :: news) → (∀ p ∈ news, p.1 < D) → Q (.ref D) { s with heap := h' }) : wpAny (model prog w) A (binaryOp .Mult (.ref l) (.int x u)) Q E s :=
  KMa.mul Fm N (memList N hm) (by omega) (by omega) (by simp only [List.length_singleton]; omega) (flat_rep v _) h
theorem iadd_L {D b : Addr} {vs ws : List Value} {n n2 : Nat} {news' : List (Addr × Obj)} {Q : Value → Shared → Prop} (Fm : Fr h₀ L s.heap m) (N : News h₀ L s.heap news) (hb : (b, listOf ws.toArray n2) ∈ news) (hne : ws.length ≠ 0)
    (U : Upd D (listOf vs.toArray n) (listOf (vs ++ ws).toArray (n + 1)) news news') (hz : vs.length + ws.length ≤ 1000)
    (h : ∀ h', Fr h₀ L h' m → News h₀ L h' news' → Q (.ref D) { s with heap := h' }) : wpAny (model prog w) A (inplaceOp .Add (.ref D) (.ref b)) Q E s := by
  obtain ⟨pre, post, rfl, rfl, a, c⟩ := U.split
  have z := N (D, listOf vs.toArray n) (List.mem_append.mpr (.inr (.head _)))
  have ha : s.TypeIs (.ref D) "list" := ⟨_, z.1, rfl⟩
  have hb' : s.TypeIs (.ref b) "list" := ⟨_, (N _ hb).1, rfl⟩
  unfold inplaceOp
  refine wpAny_holding ?_
  have hfi : fillsInplaceSlot (.type "list") "add" (Operator.Add == .Add) = pure false := by
    unfold fillsInplaceSlot
    show (typeLookup (.type "list") (dunderI "add") >>= fun fi => pure (fi.isSome && !isSeqSlot fi)) = pure false
    rw [PySem.F.slot_list_iadd.lookup]
    show (pure (!isSeqSlot (some (.builtin "list.__iadd__"))) : Sem Bool) = pure false
    rw [show isSeqSlot (some (.builtin "list.__iadd__")) = true from by decide +kernel]; rfl
  have hsi : seqSlot? (.type "list") (dunderI "add") = pure (some (.builtin "list.__iadd__")) := PySem.seqSlot_of PySem.F.slot_list_iadd.lookup (by decide +kernel)
  refine wpAny_bind (wpAny_typeOf ha (wpAny_bind (wpAny_of_eq hfi ?_)))
  show wpAny _ A (if false = true then _ else _) Q E s
  rw [if_neg Bool.false_ne_true]
  refine wpAny_bind (wpAny_binaryOp1_none (nm := "add") ha hb' noFill_list_add ?_)
  refine wpAny_bind (wpAny_of_eq hsi ?_)
  refine wpAny_bind (wpAny_rule ?_)
  refine call_meets PySem.F.slot_list_iadd ha PySem.F.entry_list_iadd (PySem.F.args_list_iadd_2 _ _) (PySem.AutoSeq1.list___iadd___list_list_0 D vs.toArray n b ws.toArray n2 ?_ ?_ ?_) ⟨z.1, (N _ hb).1, h _ (Fm.change (Heap.SameBut.update ..) z.2.1 z.2.2) (kl_turn _ N a c ?_ ?_)⟩
  · simp [Builtin.List.listTooLong, sizeLine_eq]; omega
  · simp [sizeLine_eq]; omega
  · simp [sizeLine_eq]; omega
  · simp
  · simpa using hne
end
section
variable {prog : Program} {w : World} {A : Around} {E : Value → Shared → Prop} {s : Shared} {h₀ : Heap} {L : Addr} {m : Str → Option Value} {news : List (Addr × Obj)}
theorem copy_L {l : Addr} {vs : List Value} {k : Nat} {Q : Value → Shared → Prop} (F : Fr h₀ L s.heap m) (N : News h₀ L s.heap news) (hb : (l, listOf vs.toArray k) ∈ news) (hz : vs.length ≤ 1000)
    (h : ∀ D c h', Fr h₀ L h' m → News h₀ L h' ((D, listOf vs.toArray c) :: news) → (∀ q ∈ news, q.1 < D) → Q (.ref D) { s with heap := h' }) : wpAny (model prog w) A (call (.type "list") [.ref l]) Q E s :=
  kup_listOf F N hb rfl h (by simp [sizeLine_eq]; omega)
end
end
section
/-- the list of an attribute's parts, where there is no attribute -/
theorem prep_K (w : World) (news : List (Addr × Obj)) : Says w 241 5 300 [.none] news (fun news' v => ∃ P, v = .ref P ∧ news' = (P, listOf #[] 0) :: news ∧ AllLt P news) := by
  intro p loose mean mg mb dp un gd cn cs a ccd cl outer A₀ base h₀ L m s Q E B F X N T hk hd hu hret
  revert X; k_fill; intro X
  refine wpAny_call ?_
  walk_at "enter"
  k_steps
  rename_i P h' F' N' l1 kF kN kT kX
  exact hret _ _ _ _ ⟨P, rfl, rfl, allLt_of l1⟩ kF kN
theorem prep_use {w : World} {news : List (Addr × Obj)}
    {p : Program} {loose : List Str} {mean : ExcName → Option Value} {mg mb : Str → Option Value}
    {dp un : Nat} {gd : Option (List Code)} {cn : Str} {cs : Scope} {a : Addr} {ccd : Value} {cl : List (Str × Addr)} {outer : List Env} {A₀ : Around} {base h₀ : Heap} {L : Addr} {m : Str → Option Value} {s : Shared} {Q E : Value → Shared → Prop}
    (B : Below A₀ base outer h₀) (F : Fr h₀ L s.heap m) (X : (hd1.heap_39 w.params).In h₀) (N : News h₀ L s.heap news) (T : Top p loose mean mg mb h₀) (hk : cs.kind = .function) (hd : dp + 5 < recursionLimit) (hu : un + 300 < cLine)
    (ret : ∀ P h' tk', AllLt P news → Fr h₀ L h' m → News h₀ L h' ((P, listOf #[] 0) :: news) → Q (.ref P) { s with heap := h', toks := tk' }) :
    wpAny (model PySem.Challenge.rw_bb0048_01.row.prog w) (ktrTop dp un gd cn cs L a ccd cl outer) (call (.ref 241) [.none]) Q E s := by
  refine prep_K w news p loose mean mg mb dp un gd cn cs a ccd cl outer A₀ base h₀ L m s Q E B F X N T hk hd hu ?_
  rintro v' news' h' tk' ⟨P, rfl, rfl, l1⟩ F' N'
  exact ret P h' tk' l1 F' N'
end
section
/-- a goal that the walk must not step into by itself -/
structure Hold (P : Prop) : Prop where
  out : P
structure Halt (n : Nat) : Prop where
  it : True
theorem stmt_join {prog : Program} {w : World} {A : Around} {E : Value → Shared → Prop} {s : Shared} {st : Stmt} {env : Env} {Q : Flow → Shared → Prop} (P : Shared → Prop) (rest : ∀ s', P s' → Q .next s')
    (here : ∀ Q' : Flow → Shared → Prop, (∀ s', P s' → Q' .next s') → wpAny (model prog w) A (exec st env) Q' E s) : wpAny (model prog w) A (exec st env) Q E s := here Q rest
theorem carve {h₀ h : Heap} {L R : Addr} {o : Obj} {news : List (Addr × Obj)} (N : News h₀ L h news) (hm : (R, o) ∈ news) :
    ∃ rest, News h₀ L h ((R, o) :: rest) ∧ (∀ p ∈ rest, p.1 ≠ R) ∧ (∀ p ∈ news, p ∈ (R, o) :: rest) ∧ (∀ p ∈ rest, p ∈ news) := by
  refine ⟨news.filter fun p => decide (p.1 ≠ R), ?_, fun p hp => ?_, fun p hp => ?_, fun p hp => (List.mem_filter.mp hp).1⟩
  · intro p hp
    rcases List.mem_cons.mp hp with rfl | hp
    · exact N _ hm
    · exact N p (List.mem_filter.mp hp).1
  · exact of_decide_eq_true (List.mem_filter.mp hp).2
  · by_cases e : p.1 = R
    · have e1 := (N p hp).1
      rw [e, (N _ hm).1] at e1
      cases e1
      obtain ⟨p1, p2⟩ := p
      cases e
      exact .head _
    · exact .tail _ (List.mem_filter.mpr ⟨hp, decide_eq_true e⟩)
section
variable {prog : Program} {w : World} {A : Around} {E : Value → Shared → Prop} {s : Shared} {h₀ : Heap} {L : Addr} {m : Str → Option Value} {news : List (Addr × Obj)}
theorem ne_same {a b : Addr} {xs ys : List Value} {ka kb : Nat} {n₁ n₂ : List (Addr × Obj)} {ds es : List Dat} {Q : Value → Shared → Prop} (N : News h₀ L s.heap news) (ma : (a, listOf xs.toArray ka) ∈ news) (mb : (b, listOf ys.toArray kb) ∈ news)
    (Da : DatAll n₁ xs ds) (sa : ∀ p ∈ n₁, p ∈ news) (Db : DatAll n₂ ys es) (sb : ∀ p ∈ n₂, p ∈ news) (ha : ∀ d ∈ ds, kqdOk 8 d = true) (hu : A.units + 64 < cLine) (e : ds = es)
    (h : Q (.bool false) s) : wpAny (model prog w) A (compareOp .NotEq (.ref a) (.ref b)) Q E s := by
  subst e
  exact ne_LL (i := Classical.propDecidable _) N ma mb Da sa Db sb ha ha hu (by
    have e : @decide (ds = ds) (Classical.propDecidable _) = true := by simp
    rw [e]; exact h)
theorem eq_same {a b : Addr} {xs ys : List Value} {ka kb : Nat} {n₁ n₂ : List (Addr × Obj)} {ds es : List Dat} {Q : Value → Shared → Prop} (N : News h₀ L s.heap news) (ma : (a, listOf xs.toArray ka) ∈ news) (mb : (b, listOf ys.toArray kb) ∈ news)
    (Da : DatAll n₁ xs ds) (sa : ∀ p ∈ n₁, p ∈ news) (Db : DatAll n₂ ys es) (sb : ∀ p ∈ n₂, p ∈ news) (ha : ∀ d ∈ ds, kqdOk 8 d = true) (hu : A.units + 64 < cLine) (e : ds = es)
    (h : Q (.bool true) s) : wpAny (model prog w) A (compareOp .Eq (.ref a) (.ref b)) Q E s := by
  subst e
  exact eq_LL (i := Classical.propDecidable _) N ma mb Da sa Db sb ha ha hu (by
    have e : @decide (ds = ds) (Classical.propDecidable _) = true := by simp
    rw [e]; exact h)
end
theorem join_P {prog : Program} {w : World} {A : Around} {E : Value → Shared → Prop} {s : Shared} {h₀ : Heap} {L : Addr} {m : Str → Option Value} {st : Stmt} {env : Env} {Q : Flow → Shared → Prop} (_F : Fr h₀ L s.heap m) (P : Shared → (Str → Option Value) → Prop)
    (rest : ∀ s', P s' m → Q .next s')
    (here : ∀ Q' : Flow → Shared → Prop, (∀ s', P s' m → Q' .next s') → wpAny (model prog w) A (exec st env) Q' E s) : wpAny (model prog w) A (exec st env) Q E s := here Q rest
theorem rev_L {prog : Program} {w : World} {A : Around} {E : Value → Shared → Prop} {s : Shared} {h₀ : Heap} {L : Addr} {m : Str → Option Value} {news : List (Addr × Obj)} {value slice : Expr} {l : Addr} {vs : List Value} {n : Nat} {vk : Value} {ops : List Value} {Q : Value → Shared → Prop} (F : Fr h₀ L s.heap m) (N : News h₀ L s.heap news) (hm : (l, listOf vs.toArray n) ∈ news) (pk : IsPart vk (some (-1)))
    (h : ∀ D h', Fr h₀ L h' m → News h₀ L h' ((D, listOf vs.reverse.toArray 0) :: news) → (∀ p ∈ news, p.1 < D) → Q (.ref D) { s with heap := h' })
    (hs : subscripted slice false (.ref l) (.ref s.heap.objs.size) = operate ops (getItem (.ref l) (.ref s.heap.objs.size))) (ht : ∀ r, letTemporaryGo value (.ref l) r = pure ()) (hz : vs.length ≤ 1000) :
    wpAny (model prog w) A (subscriptTail value slice (.ref l) (.ref s.heap.objs.size)) Q E { s with heap := s.heap.push { cls := .type "slice", data := .fields #[.none, .none, vk] } } :=
  krv_lit (its := vs.toArray) (zs := vs.reverse) F N (memList N hm) pk rfl h hs ht (by simp [sizeLine_eq]; omega)
theorem join_L {prog : Program} {w : World} {A : Around} {E : Value → Shared → Prop} {s : Shared} {h₀ : Heap} {L : Addr} {m : Str → Option Value} {st : Stmt} {env : Env} {Q : Flow → Shared → Prop} (_F : Fr h₀ L s.heap m) (news : List (Addr × Obj))
    (rest : ∀ h' tk', Fr h₀ L h' m → News h₀ L h' news → Q .next { s with heap := h', toks := tk' })
    (here : ∀ Q' : Flow → Shared → Prop, (∀ h' tk', Fr h₀ L h' m → News h₀ L h' news → Q' .next { s with heap := h', toks := tk' }) → wpAny (model prog w) A (exec st env) Q' E s) : wpAny (model prog w) A (exec st env) Q E s := here Q rest
theorem Says.use {w : World} {f : Addr} {D U : Nat} {vs : List Value} {news : List (Addr × Obj)} {R : List (Addr × Obj) → Value → Prop} (H : Says w f D U vs news R)
    {p : Program} {loose : List Str} {mean : ExcName → Option Value} {mg mb : Str → Option Value}
    {dp un : Nat} {gd : Option (List Code)} {cn : Str} {cs : Scope} {a : Addr} {ccd : Value} {cl : List (Str × Addr)} {outer : List Env} {A₀ : Around} {base h₀ : Heap} {L : Addr} {m : Str → Option Value} {s : Shared} {Q E : Value → Shared → Prop}
    (B : Below A₀ base outer h₀) (F : Fr h₀ L s.heap m) (X : (hd1.heap_39 w.params).In h₀) (N : News h₀ L s.heap news) (T : Top p loose mean mg mb h₀) (hk : cs.kind = .function) (hd : dp + D < recursionLimit) (hu : un + U < cLine)
    (ret : ∀ v news' h' tk', R news' v → Fr h₀ L h' m → News h₀ L h' news' → Q v { s with heap := h', toks := tk' }) :
    wpAny (model PySem.Challenge.rw_bb0048_01.row.prog w) (ktrTop dp un gd cn cs L a ccd cl outer) (call (.ref f) vs) Q E s :=
  H p loose mean mg mb dp un gd cn cs a ccd cl outer A₀ base h₀ L m s Q E B F X N T hk hd hu ret
theorem is_fill {prog : Program} {w : World} {A : Around} {E : Value → Shared → Prop} {s : Shared} {fill : Value} {fd : Dat} {Q : Value → Shared → Prop}
    (hf : (fill = .none ∧ fd = .none) ∨ (∃ i t, fill = .int i t ∧ fd = .int i) ∨ (∃ x t, fill = .str x t ∧ fd = .str x))
    (h : ∀ fb : Bool, (fb = true → fd = .none) → Q (.bool fb) s) : wpAny (model prog w) A (compareOp .Is fill .none) Q E s := by
  rcases hf with ⟨rfl, rfl⟩ | ⟨i, t, rfl, rfl⟩ | ⟨x, t, rfl, rfl⟩
  · exact wpAny_is_self (by rfl) (h true fun _ => rfl)
  · exact wpAny_is_other (by rfl) (by intro x; cases x) (h false fun e => nomatch e)
  · exact wpAny_is_other (by rfl) (by intro x; cases x) (h false fun e => nomatch e)
end
section
/-- a generator at a, made of a generator expression, not yet begun: n values; the places that it writes lie at lo or above -/
def GenL (prog : Program) (w : World) (A : Around) (lo a : Addr) (n : Nat) (V : Nat → Value → Prop) (s : Shared) : Prop :=
  ∃ fp wr g St, WalksS prog w A.in4 a fp wr (GenOnlyQ g) n V St ∧ St 0 s ∧ (∀ i s', St i s' → s'.TypeIs (.ref a) "generator") ∧ a ∈ fp ∧ (∀ b ∈ fp, @LT.lt Nat _ b s.heap.objs.size) ∧ ∀ b ∈ wr, @LE.le Nat _ lo b
theorem passing_all (n : Nat) : passing (fun _ => true) n 0 = List.range n := by
  unfold passing
  rw [List.drop_zero, List.filter_eq_self]
  exact fun _ _ => rfl
section
variable {prog : Program} {w : World} {A : Around} {E : Value → Shared → Prop} {s : Shared} {h₀ : Heap} {L : Addr} {m : Str → Option Value} {news : List (Addr × Obj)}
theorem join_GL {sep : Str} {t : Tok} {lo a : Addr} {n : Nat} {V : Nat → Value → Prop} {tx : Nat → Str} {Q : Value → Shared → Prop} (F : Fr h₀ L s.heap m) (N : News h₀ L s.heap news) (G : AllBare s.gens) (X : GenL prog w A lo a n V s) (hL : @LT.lt Nat _ L lo) (hlo : ∀ p ∈ news, @LT.lt Nat _ p.1 lo)
    (htx : ∀ j v, V j v → ∃ u, v = .str (tx j) u) (hok : JoinOk sep ((List.range n).map tx) = true) (hsz : n ≤ 1000)
    (h : ∀ h' tk gs t', Fr h₀ L h' m → News h₀ L h' news → AllBare gs → Q (.str (Txt.join sep ((List.range n).map tx)) t') { s with heap := h', toks := tk, gens := gs }) :
    wpAny (model prog w) A (call (.builtin "str.join") [.str sep t, .ref a]) Q E s := by
  obtain ⟨fp, wr, g, St, W, hst, hT, ha, hfp, hwr⟩ := X
  have W := W.in4_2
  refine SC.joinGen W hT hst hfp ha (fun j v hv => let ⟨u, e⟩ := htx j v hv; ⟨_, u, e⟩) (fun s' lt hm hacc => ?_) (by rw [sizeLine_eq]; omega)
  have hl : lt.map (·.1) = (List.range n).map tx := by
    apply List.ext_getElem?
    intro j
    have hsz : lt.length = n := by simpa [strValues] using hacc.1
    by_cases hj : j < n
    · have hj' : j < lt.length := hsz ▸ hj
      obtain ⟨u, hv⟩ := htx j _ (hacc.2 j (.str lt[j].1 lt[j].2) (by simp [strValues, List.getElem?_eq_getElem hj']))
      injection hv with h1 _
      simp [List.getElem?_eq_getElem hj', hj, h1]
    · rw [List.getElem?_eq_none (by simpa [hsz] using Nat.le_of_not_lt hj), List.getElem?_eq_none (by simpa using Nat.le_of_not_lt hj)]
  rw [hl]
  have f1 := F.moved hm fun b hb => Nat.lt_of_lt_of_le hL (hwr b hb)
  have g1 := G.movedS hm
  have n1 : News h₀ L s'.heap news := fun p hp => ⟨hm.heap _ _ (fun hb => Nat.lt_irrefl _ (Nat.lt_of_lt_of_le (hlo p hp) (hwr _ hb))) (N p hp).1, (N p hp).2⟩
  have o1 := hm.os
  have d1 := hm.drawn
  refine ⟨hok, fun t' k => ?_⟩
  obtain ⟨h', gs, dr, tk, os⟩ := s'
  cases o1
  cases d1
  exact h h' k gs t' f1 n1 g1
end
section
variable {prog : Program} {w : World} {A : Around} {E : Value → Shared → Prop} {s : Shared} {h₀ : Heap} {L : Addr} {m : Str → Option Value} {p : Program} {loose : List Str} {mean : ExcName → Option Value} {mg mb : Str → Option Value}
theorem genexp_L {env : Env} {elt : Expr} {x lx : Str} {px lp : Pos} {scope : Scope} {cl : List (Str × Addr)} {pos : Pos} {c P ax : Addr} {ps : Array Value} {vs : List Value} {k : Nat} {rest : List (Addr × Obj)} {tx : Nat → Str} {Q : Value → Shared → Prop}
    (hh : A.handled = none) (hco : scope.isCoroutine = false) (hclos : closureFor scope env = pure cl) (hcell : ∀ y ∈ scope.names, y.2 ≠ .cell) (h0 : scope.names.lookup (".0" : Str) = some NameKind.local)
    (hx : scope.names.lookup x = some .local) (hkind : scope.kind = .function) (hroom : A.depth < recursionLimit)
    (F : Fr h₀ L s.heap m) (N : News h₀ L s.heap ((P, tabObj ps) :: rest)) (G : AllBare s.gens) (T : Top p loose mean mg mb h₀) (C : CodeHd h₀ c P) (hcode : env.code = .ref c) (hge : env.globals = mainGlobals) (hP : ∀ q ∈ rest, q.1 ≠ P)
    (hLe : env.locals = L) (hek : env.scope.kind = .function) (hlx : env.kindOf lx = some .local) (hdb : (lx == ("__debug__" : Str)) = false) (hv : m lx = some (.ref ax)) (hax : (ax, listOf vs.toArray k) ∈ rest) (hsz : vs.length ≤ 1000)
    (hps : ps = #[] ∨ ∃ c', ps = #[rawInt pos.line, rawInt pos.col, .ref c'])
    (quiet : ∀ C' code bi A' E' i v s₂ m₂, A'.handled = none → vs[i]? = some v → s₂.heap.Ns C' m₂ → m₂ x = some v → (∀ q ∈ rest, s₂.heap.get? q.1 = some q.2) →
      wpAny (model prog w) A' (eval elt (genEnv scope cl C' code bi env)) (fun y s₃ => (∃ u, y = .str (tx i) u) ∧ Keeps s₂ s₃) E' s₂)
    (ret : ∀ a lo c' h' tk gs, @LT.lt Nat _ L lo → (∀ q ∈ (P, tabObj #[rawInt pos.line, rawInt pos.col, .ref c']) :: rest, @LT.lt Nat _ q.1 lo) → Fr h₀ L h' m → News h₀ L h' ((P, tabObj #[rawInt pos.line, rawInt pos.col, .ref c']) :: rest) → AllBare gs →
      GenL prog w A lo a vs.length (fun j y => ∃ i, (List.range vs.length)[j]? = some i ∧ ∃ u, y = .str (tx i) u) { s with heap := h', toks := tk, gens := gs } → Q (.ref a) { s with heap := h', toks := tk, gens := gs })
    (hs : ∀ x, genFold (.Name lx lp) env x = pure x) :
    wpAny (model prog w) A (eval (.GeneratorExp elt [⟨.Name x px, .Name lx lp, [], 0⟩] scope pos) env) Q E s := by
  subst hLe
  refine wpAny_GeneratorExp_walksQ hh hco hclos hcell h0 hx hkind hroom ?_ hs
  refine wpAny_Name (wpAny_loadName_local hek hlx F.ns hv ?_) hdb
  have hl := memList N (.tail _ hax)
  refine wpAny_pyIter_list hl ?_
  have nl0 : s.heap.NoLimit := T.nolimit.keeps F.keep
  have hcs : cStatics < s.heap.objs.size := let ⟨_, hn, _⟩ := nl0; hn.lt
  have hax' : ax < s.heap.objs.size := Heap.lt_size (N _ (.tail _ hax)).1
  have hLs : env.locals < s.heap.objs.size := F.ns.lt
  refine ⟨nl0.push _, ?_⟩
  have up : ∀ b o, s.heap.get? b = some o → (s.heap.push { cls := .type "list_iterator", data := .fields #[.ref ax, .int 0 0] }).get? b = some o := fun b o e => Heap.get?_push_of_some _ e
  have hPt := (N _ (.head _)).1
  have hP0 : h₀.get? P = none := (N _ (.head _)).2.2
  have ht : TriplesOk ps.toList := by
    rcases hps with rfl | ⟨c', rfl⟩
    · exact True.intro
    · simp [TriplesOk, rawInt]
  have C1 : CodeHd (s.heap.push { cls := .type "list_iterator", data := .fields #[.ref ax, .int 0 0] }) c P := (C.keeps F.keep).keeps up
  have hIt : (s.heap.push { cls := .type "list_iterator", data := .fields #[.ref ax, .int 0 0] }).get? s.heap.objs.size = some { cls := .type "list_iterator", data := .fields #[.ref ax, .int 0 0] } := Heap.get?_push_size _ rfl
  have hIP : s.heap.objs.size ≠ P := Nat.ne_of_gt (Heap.lt_size hPt)
  -- what follows the code
  have fin : ∀ (cv : Value) (c' : Addr) (h₃ : Heap) (tk₃ : Nat), (∀ b o, b ≠ P → (s.heap.push { cls := .type "list_iterator", data := .fields #[.ref ax, .int 0 0] }).get? b = some o → h₃.get? b = some o) →
      h₃.get? P = some (tabObj #[rawInt pos.line, rawInt pos.col, .ref c']) → s.heap.objs.size < h₃.objs.size →
      wpAny (model prog w) A (builtinsFor env.globals env.builtins) (fun bi s₄ =>
        ∃ I fp wr n₀ Pi St₀ pz V, (Value.ref s.heap.objs.size) = .ref I ∧ (∀ A' : Around, A'.handled = none → Walks prog w A' I fp wr n₀ Pi St₀) ∧ St₀ 0 s₄.heap ∧ (∀ b ∈ fp, b < s₄.heap.objs.size) ∧ s₄.heap.NoLimit ∧ cStatics ∉ wr ∧
          (∀ href : Heap, (∀ b o, s₄.heap.get? b = some o → href.get? b = some o) →
            QuietGen prog w (genEnv scope cl s₄.heap.objs.size cv bi env) x [] elt (List.range s₄.heap.objs.size) wr Pi pz V href) ∧
          (∀ a h₅ tk gs, gs.bare = true → s₄.heap.objs.size < a → h₅.objs.size = a + 1 → (∀ b o, s₄.heap.get? b = some o → h₅.get? b = some o) →
            WalksS prog w A.in4 a (a :: s₄.heap.objs.size :: List.range s₄.heap.objs.size) (s₄.heap.objs.size :: wr) (GenOnlyQ s₄.gens.size) (passing pz n₀ 0).length
              (fun j y => ∃ i, (passing pz n₀ 0)[j]? = some i ∧ V i y) (GenAt prog w A.in4 a s₄.gens.size s₄.heap.objs.size (List.range s₄.heap.objs.size) wr pz n₀ V) →
            GenAt prog w A.in4 a s₄.gens.size s₄.heap.objs.size (List.range s₄.heap.objs.size) wr pz n₀ V 0 { s₄ with gens := s₄.gens.push gs, toks := tk, heap := h₅ } →
            Q (.ref a) { s₄ with gens := s₄.gens.push gs, toks := tk, heap := h₅ })) E { s with heap := h₃, toks := tk₃ } := by
    intro cv c' h₃ tk₃ k₃ hP₃ hsz₃
    have k0 : ∀ b o, b ≠ P → s.heap.get? b = some o → h₃.get? b = some o := fun b o hb e => k₃ b o hb (up b o e)
    have old : ∀ b o, h₀.get? b = some o → h₃.get? b = some o := fun b o e => k0 b o (fun q => by rw [q, hP0] at e; cases e) (F.keep b o e)
    obtain ⟨bm, ob, b1, b2, b3, b4, b5, b6⟩ := T.bmain
    have hLP : env.locals ≠ P := Ne.symm (N _ (.head _)).2.1
    have F₃ : Fr h₀ env.locals h₃ m := ⟨F.ns.at fun o e => k0 _ o hLP e, old, F.above⟩
    have N₃ : News h₀ env.locals h₃ ((P, tabObj #[rawInt pos.line, rawInt pos.col, .ref c']) :: rest) := fun q hq => by
      rcases List.mem_cons.mp hq with rfl | hq
      · exact ⟨hP₃, (N _ (.head _)).2⟩
      · exact ⟨k0 _ _ (hP q hq) (N q (.tail _ hq)).1, (N q (.tail _ hq)).2⟩
    rw [hge]
    refine wpAny_builtinsFor (T.g.keeps old) b1 b2 (old _ _ b3) b4 b5 b6 ?_
    refine ⟨s.heap.objs.size, [s.heap.objs.size, ax], [s.heap.objs.size], vs.length, fun i v => vs[i]? = some v, fun i h => h.IsListIter s.heap.objs.size ax i ∧ h.IsList ax vs.toArray, fun _ => true, fun i v => ∃ u, v = .str (tx i) u, rfl, fun A' hA' => ?_, ?_, ?_, T.nolimit.keeps old, ?_, fun href hr => ?_, fun a h₅ tk gs hgb hag hsz₅ hk₅ W hat => ?_⟩
    · have W := Walks.list (prog := prog) (w := w) hA' s.heap.objs.size ax (Nat.ne_of_lt hax') vs.toArray
      rw [show vs.toArray.size = vs.length by simp] at W
      exact { sub := W.sub, frame := W.frame, done := W.done, self := W.self, item := fun i s Q E hi st hQ => W.item i s Q E hi st fun v h' tk hP => hQ v h' tk (by simpa using hP) }
    · exact ⟨⟨_, k₃ _ _ hIP hIt, rfl, rfl⟩, memList N₃ (.tail _ hax)⟩
    · intro b hb
      rcases List.mem_cons.mp hb with rfl | hb
      · exact hsz₃
      · rw [List.mem_singleton.mp hb]; exact Nat.lt_trans hax' hsz₃
    · intro hb
      exact Nat.ne_of_lt hcs (List.mem_singleton.mp hb)
    · refine ⟨fun A' E' i v s₂ m₂ _ _ _ _ _ => wpAny_pure ⟨rfl, s₂.heap, s₂.toks, rfl, fun _ _ e => e⟩, fun A' E' i v s₂ m₂ hA' hPv _ hn hm hkp => ?_⟩
      refine quiet _ _ _ A' E' i v s₂ m₂ hA' hPv hn hm fun q hq => ?_
      have z := N₃ q (.tail _ hq)
      refine hkp q.1 (List.mem_range.mpr (Heap.lt_size z.1)) (fun hb => ?_) q.2 (hr _ _ z.1)
      exact Nat.ne_of_lt (Heap.lt_size (N q (.tail _ hq)).1) (List.mem_singleton.mp hb)
    · rw [passing_all, List.length_range] at W
      refine ret a s.heap.objs.size c' h₅ tk (s.gens.push gs) hLs (fun q hq => ?_) (F₃.keeps hk₅) (fun q hq => ⟨hk₅ _ _ (N₃ q hq).1, (N₃ q hq).2⟩) (G.push hgb) ⟨_, _, _, _, W, hat, (fun i s' st => st.1.typeIs), List.mem_cons_self, ?_, ?_⟩
      · rcases List.mem_cons.mp hq with rfl | hq
        · exact Heap.lt_size hPt
        · exact Heap.lt_size (N q (.tail _ hq)).1
      · intro b hb
        show b < h₅.objs.size
        rw [hsz₅]
        rcases List.mem_cons.mp hb with rfl | hb
        · exact Nat.lt_succ_self _
        · rcases List.mem_cons.mp hb with rfl | hb
          · exact Nat.lt_succ_of_lt hag
          · exact Nat.lt_succ_of_lt (Nat.lt_trans (List.mem_range.mp hb) hag)
      · intro b hb
        rcases List.mem_cons.mp hb with rfl | hb
        · exact Nat.le_of_lt hsz₃
        · rw [List.mem_singleton.mp hb]; exact Nat.le_refl _
  rcases hps with rfl | ⟨c', rfl⟩
  · refine wpAny_genexprCodeX hcode (C1.code (up _ _ hPt) ht) (C1.tab (up _ _ hPt)) rfl fun c' h₃ tk₃ hx₃ hge₃ hlt _ _ htab₃ _ => ?_
    exact fin _ c' h₃ tk₃ (fun b o hb e => hx₃ b o hb e) htab₃.2 (Nat.lt_of_le_of_lt (by rw [Heap.size_push] at hge₃; exact Nat.le_of_succ_le hge₃) hlt)
  · refine wpAny_genexprCode_hit hcode (C1.code (up _ _ hPt) ht) (c' := .ref c') (by simp [codeAmong, rawInt]) ?_
    exact fin _ c' _ _ (fun b o _ e => e) (up _ _ hPt) (by rw [Heap.size_push]; exact Nat.lt_succ_self _)
end
end
section
theorem item_S {prog : Program} {w : World} {A : Around} {E : Value → Shared → Prop} {s : Shared} {h₀ : Heap} {L : Addr} {news : List (Addr × Obj)} {value slice : Expr} {l : Addr} {vs : List Value} {ls : List Str} {n : Nat} {k : Int} {u : Tok} {Q : Value → Shared → Prop} (N : News h₀ L s.heap news) (hm : (l, listOf vs.toArray n) ∈ news) (hd : DatAll [] vs (ls.map .str)) (hB : ∀ l ∈ ls, l.length ≤ 9) (h0 : 0 ≤ k) (h1 : k < ls.length) (hz : ls.length ≤ 4)
    (h : ∀ x t, ls[k.toNat]? = some x → x.length ≤ 9 → Q (.str x t) s) (hs : subscripted slice false (.ref l) (.int k u) = operate [.ref l, .int k u] (getItem (.ref l) (.int k u)) := by with_unfolding_all rfl) :
    wpAny (model prog w) A (subscriptTail value slice (.ref l) (.int k u)) Q E s := by
  have hl := hd.length
  rw [List.length_map] at hl
  refine item_L N hm h0 (by omega) (by omega) (fun v hv => ?_) hs
  obtain ⟨d, hd1, hdv⟩ := datAt hd hv
  rw [List.getElem?_map] at hd1
  cases hc : ls[k.toNat]? with
  | none => rw [hc] at hd1; simp at hd1
  | some x =>
    rw [hc] at hd1
    simp only [Option.map_some, Option.some.injEq] at hd1
    subst hd1
    cases hdv with
    | str _ t => exact h x t hc (hB x (List.mem_of_getElem? hc))
theorem strsAre_of : ∀ {vs : List Value} {ls : List Str}, DatAll [] vs (ls.map .str) → StrsAre vs ls
  | _, [], h => by cases h; exact .nil
  | _, x :: ls, h => by
    cases h with
    | cons h1 h2 =>
    cases h1 with
    | str _ t => exact .cons x t (strsAre_of h2)
theorem sum_len {B : Nat} : ∀ {l : List Str}, (∀ x ∈ l, x.length ≤ B) → (l.map (·.length)).sum ≤ l.length * B
  | [], _ => by simp
  | x :: r, h => by
    have z := sum_len (l := r) (B := B) fun y hy => h y (.tail _ hy)
    have z2 := h x (.head _)
    simp only [List.map_cons, List.sum_cons, List.length_cons, Nat.succ_mul]
    omega
theorem join_S {prog : Program} {w : World} {A : Around} {E : Value → Shared → Prop} {s : Shared} {h₀ : Heap} {L : Addr} {news : List (Addr × Obj)} {l : Addr} {vs : List Value} {ls : List Str} {n : Nat} {sep : Str} {t : Tok} {Q : Value → Shared → Prop} (N : News h₀ L s.heap news) (hm : (l, listOf vs.toArray n) ∈ news) (hd : DatAll [] vs (ls.map .str)) (hB : ∀ l ∈ ls, l.length ≤ 100) (hz : ls.length ≤ 4) (hsep : sep.length ≤ 64)
    (h : ∀ t' k, Q (.str (Txt.join sep ls) t') { s with toks := k }) : wpAny (model prog w) A (call (.builtin "str.join") [.str sep t, .ref l]) Q E s := by
  have z := sum_len hB
  exact join_listC (memList N hm) (strsAre_of hd) hsep (by omega) h
theorem foundD_length (mark : Str) (first blank : Bool) : ∀ ls : List Str, (foundD mark first blank ls).length = ls.length
  | [] => rfl
  | a :: r => by simp [foundD]
theorem foundD_bound {mark : Str} {first blank : Bool} (hm : mark.length ≤ 10) {ls : List Str} (hB : ∀ l ∈ ls, l.length ≤ 9) : ∀ l ∈ foundD mark first blank ls, l.length ≤ 100 := by
  have e0 : (Str.ofString "").length = 0 := by decide +kernel
  cases ls with
  | nil => intro l hl; exact nomatch hl
  | cons a r =>
    intro l hl
    rcases List.mem_cons.mp hl with rfl | hl
    · have := hB a (.head _)
      rw [Str.length_append]
      cases first
      · simp only [Bool.false_eq_true, if_false]; omega
      · simp only [if_true]; omega
    · obtain ⟨x, hx, rfl⟩ := List.mem_map.mp hl
      have := hB x (.tail _ hx)
      rw [Str.length_append]
      split <;> omega
theorem len_ne (l : Str) : ((l.length : Int) != 0) = !(l == Str.ofString "") := by
  by_cases h : l = Str.ofString ""
  · subst h
    decide +kernel
  · have h1 : (l == Str.ofString "") = false := by simpa using h
    have h2 : l.length ≠ 0 := fun e => h (by
      rw [empty_is]
      refine Str.ext' ?_
      exact Array.eq_empty_of_size_eq_zero e)
    rw [h1]
    simp [h2]
theorem indL_len {ind l : Str} (hi : ind.length ≤ 10) (hl : l.length ≤ 9) : (indL ind l).length ≤ 100 := by
  unfold indL
  split
  · omega
  · rw [Str.length_append]; omega
end
end
section
local macro_rules | `(tactic| walk_at "call ref") => `(tactic| (k_here; (with_reducible show wpAny _ _ (call (Value.ref 328) _ _) _ _ _); k_dflt (refine' kind_use ?B ?F ?X ?N ?T ?hk ?hd ?hu ?hv ?hk2 ?hl ?_; (case B => k_asm); (case F => k_asm); (case X => k_asm); (case N => k_asm); (case T => k_asm); (case hk => first | exact rfl | assumption); (case hd => walk_at "room"); (case hu => (have hcL9 := cLine_is; walk_at "room")); (case hv => with_reducible assumption); (case hk2 => with_reducible assumption); (case hl => with_reducible assumption)); intro v9 h9 tk9 hv9 hk9 F9 N9))
local macro_rules | `(tactic| walk_at "compareOp LtE") => `(tactic| (k_here; refine' le_D ?a ?b ?c ?d ?_; (case a => with_reducible assumption); (case b => with_reducible assumption); (case c => with_reducible assumption); (case d => with_reducible assumption)))
local macro_rules | `(tactic| walk_at "compareOp Eq") => `(tactic| (k_here; refine' eq_D ?a ?b ?c ?d ?_; (case a => with_reducible assumption); (case b => with_reducible assumption); (case c => with_reducible assumption); (case d => with_reducible assumption)))
section
local macro_rules | `(tactic| walk_at "compareOp Eq ref ref") => `(tactic| (k_here; k_dflt (refine' eq_nil ?N ?a ?b ?d ?k ?u ?_; (case N => k_asm); (case a => k_mem); (case b => k_mem); (case d => with_reducible assumption); (case k => with_reducible assumption); (case u => units_room))))
local macro_rules | `(tactic| walk_at "call builtin:list.append") => `(tactic| (k_here; k_dflt (refine' append_L ?F ?N ?U ?z ?_; (case F => k_asm); (case N => k_asm); (case U => k_upd); (case z => walk_at "size")); intro h9 F9 N9))
section
/-- the set at hand keeps the kinds of found -/
def SetD (prog : Program) (w : World) (kb b : Bool) (found : List Dat) (so : Obj) : Prop := match kb with
  | true => ∃ n, n ≤ found.length ∧ so.SetObjOf (PySem.strKind prog w) (fun x => !(found.filter fun one => eqD (kindD b one) (.str x)).isEmpty) n
  | false => ∃ n, n ≤ found.length ∧ so.SetObjOf (PySem.intKind prog w) (fun x => !(found.filter fun one => eqD (kindD b one) (.int x)).isEmpty) n
theorem SetD.new {prog : Program} {w : World} {kb b : Bool} {so : Obj} (hi : so.SetObjOf (PySem.intKind prog w) (fun _ => false) 0) (hs : so.SetObjOf (PySem.strKind prog w) (fun _ => false) 0) : SetD prog w kb b [] so := by
  cases kb
  · exact ⟨0, Nat.le_refl _, hi⟩
  · exact ⟨0, Nat.le_refl _, hs⟩
theorem notEmpty_snoc (p : Dat → Bool) (l : List Dat) (d : Dat) : (!((l ++ [d]).filter p).isEmpty) = ((!(l.filter p).isEmpty) || p d) := by
  rw [List.filter_append]
  cases h : p d <;> simp [h]
section
variable {prog : Program} {w : World} {A : Around} {E : Value → Shared → Prop} {s : Shared} {h₀ : Heap} {L sa : Addr} {m : Str → Option Value} {news : List (Addr × Obj)} {g : Obj → List (Addr × Obj)} {so : Obj} {kb b : Bool} {found : List Dat}
theorem setD_method {pl : Sem Bool} {Q : Value × List Value → Shared → Prop} (N : News h₀ L s.heap news) (U : UpdF sa so news g) (hso : SetD prog w kb b found so) (hb : found.length < 100) (h : Q (.builtin "set.add", [.ref sa]) s) :
    wpAny (model prog w) A (getMethod (.ref sa) "add" pl) Q E s := by
  cases kb
  · obtain ⟨n, hn, hs⟩ := hso
    exact kse_method N U hs (by unfold scanBound; omega) h
  · obtain ⟨n, hn, hs⟩ := hso
    exact kse_method N U hs (by unfold scanBound; omega) h
theorem notin_D {v : Value} {d : Dat} {Q : Value → Shared → Prop} (N : News h₀ L s.heap news) (U : UpdF sa so news g) (hso : SetD prog w kb b found so) (hb : found.length < 100) (hv : DatIn [] v d) (hk : KB kb d)
    (h : Q (.bool (found.filter fun one => eqD (kindD b one) d).isEmpty) { s with toks := s.toks + 1 }) : wpAny (model prog w) A (compareOp .NotIn v (.ref sa)) Q E s := by
  cases hk with
  | str x =>
    cases hv
    obtain ⟨n, hn, hs⟩ := hso
    refine kse_notin (knd := PySem.strKind _ _) (k := x) N U hs (by unfold scanBound; omega) (strKind_is _ _ _ _) rfl ?_
    rw [Bool.not_not]; exact h
  | int x =>
    cases hv
    obtain ⟨n, hn, hs⟩ := hso
    refine kse_notin (knd := PySem.intKind _ _) (k := x) N U hs (by unfold scanBound; omega) (intKind_is _ _ _ _) rfl ?_
    rw [Bool.not_not]; exact h
theorem add_D {v : Value} {d : Dat} {Q : Value → Shared → Prop} (F : Fr h₀ L s.heap m) (N : News h₀ L s.heap news) (U : UpdF sa so news g) (hso : SetD prog w kb b found so) (hb : found.length < 100) (hv : DatIn [] v (kindD b d)) (hk : KB kb (kindD b d))
    (h : ∀ h' so', Fr h₀ L h' m → News h₀ L h' (g so') → SetD prog w kb b (found ++ [d]) so' → Q .none { s with heap := h', toks := s.toks + 1 }) :
    wpAny (model prog w) A (call (.builtin "set.add") [.ref sa, v]) Q E s := by
  generalize hd : kindD b d = e at hv hk
  cases hk with
  | str x =>
    cases hv
    obtain ⟨n, hn, hs⟩ := hso
    refine kse_add (knd := PySem.strKind _ _) (k := x) F N U hs (by unfold scanBound; omega) (strKind_is _ _ _ _) rfl fun h' so' F' N' hs' => h h' so' F' N' ⟨if (!(found.filter fun one => eqD (kindD b one) (.str x)).isEmpty) = true then n else n + 1, ?_, ?_⟩
    · rw [List.length_append, List.length_singleton]; split <;> omega
    · refine Eq.mp (congrArg (fun f => so'.SetObjOf (PySem.strKind prog w) f _) (funext fun y => ?_)) hs'
      rw [notEmpty_snoc, hd]
      congr 1
      simp only [eqD]
      by_cases e : y = x
      · subst e; simp
      · have e' : ¬ x = y := fun q => e q.symm
        simp [e, e']
  | int x =>
    cases hv
    obtain ⟨n, hn, hs⟩ := hso
    refine kse_add (knd := PySem.intKind _ _) (k := x) F N U hs (by unfold scanBound; omega) (intKind_is _ _ _ _) rfl fun h' so' F' N' hs' => h h' so' F' N' ⟨if (!(found.filter fun one => eqD (kindD b one) (.int x)).isEmpty) = true then n else n + 1, ?_, ?_⟩
    · rw [List.length_append, List.length_singleton]; split <;> omega
    · refine Eq.mp (congrArg (fun f => so'.SetObjOf (PySem.intKind prog w) f _) (funext fun y => ?_)) hs'
      rw [notEmpty_snoc, hd]
      congr 1
      simp only [eqD]
      by_cases e : y = x
      · subst e; simp
      · have e' : ¬ x = y := fun q => e q.symm
        simp [e, e']
end
end
end
end
section
local macro_rules | `(tactic| walk_at "eval ListComp") => `(tactic| (k_here; k_dflt (refine listComp_J (_F := by k_asm) (by with_unfolding_all rfl) (by decide) (by rfl) (by decide) (by rfl) ?_)))
local macro_rules | `(tactic| walk_at "exec Assign cons ListComp") => `(tactic| (k_here; k_dflt (refine assignComp_J (_F := by k_asm) (by rfl) (by with_unfolding_all rfl) (by with_unfolding_all rfl) (by decide) (by rfl) (by decide) (by rfl) (by rfl) (by rfl) ?_)))
section
local macro_rules | `(tactic| walk_at "exec For") => `(tactic| (k_here; (with_reducible show wpAny _ _ (exec (Stmt.For (Expr.Name _ _) _ _ _ _) _) _ _ _); k_dflt (refine for_J (_F := by k_asm) ?_ (by intro _; rfl) (by passes_own))))
local macro_rules | `(tactic| walk_at "exec For Name Name cons nil") => `(tactic| (k_here; k_dflt (refine for_J (_F := by k_asm) ?_ (by intro _; rfl) (by passes_own))))
local macro_rules | `(tactic| walk_at "exec For Name Call cons nil") => `(tactic| (k_here; k_dflt (refine for_J (_F := by k_asm) ?_ (by intro _; rfl) (by passes_own))))
local macro_rules | `(tactic| walk_at "PostF") => `(tactic| (dsimp only [PostF]))
section
local macro_rules | `(tactic| walk_at "call ref") => `(tactic| (k_here; (with_reducible show wpAny _ _ (call (Value.ref 328) _ _) _ _ _); k_dflt (refine' kind_use ?B ?F ?X ?N ?T ?hk ?hd ?hu ?hv ?hk2 ?hl ?_; (case B => k_asm); (case F => k_asm); (case X => k_asm); (case N => k_asm); (case T => k_asm); (case hk => first | exact rfl | assumption); (case hd => walk_at "room"); (case hu => (have hcL9 := cLine_is; walk_at "room")); (case hv => with_reducible assumption); (case hk2 => with_reducible assumption); (case hl => with_reducible assumption)); intro v9 h9 tk9 hv9 hk9 F9 N9))
local macro_rules | `(tactic| walk_at "compareOp LtE") => `(tactic| (k_here; refine' le_D ?a ?b ?c ?d ?_; (case a => with_reducible assumption); (case b => with_reducible assumption); (case c => with_reducible assumption); (case d => with_reducible assumption)))
local macro_rules | `(tactic| walk_at "compareOp Eq") => `(tactic| (k_here; refine' eq_D ?a ?b ?c ?d ?_; (case a => with_reducible assumption); (case b => with_reducible assumption); (case c => with_reducible assumption); (case d => with_reducible assumption)))
section
local macro_rules | `(tactic| walk_at "compareOp Eq ref ref") => `(tactic| (k_here; k_dflt (refine' eq_nil ?N ?a ?b ?d ?k ?u ?_; (case N => k_asm); (case a => k_mem); (case b => k_mem); (case d => with_reducible assumption); (case k => with_reducible assumption); (case u => units_room))))
local macro_rules | `(tactic| walk_at "call builtin:list.append") => `(tactic| (k_here; k_dflt (refine' append_L ?F ?N ?U ?z ?_; (case F => k_asm); (case N => k_asm); (case U => k_upd); (case z => walk_at "size")); intro h9 F9 N9))
section
def insD (b : Bool) (found : List Dat) (item : Dat) : List Dat :=
  found.take (found.filter fun one => leD (kindD b one) (kindD b item)).length ++ [item] ++ found.drop (found.filter fun one => leD (kindD b one) (kindD b item)).length
def sortedD (b : Bool) (row : List Dat) : List Dat := row.foldl (insD b) []
theorem insD_length (b : Bool) (found : List Dat) (item : Dat) : (insD b found item).length = found.length + 1 := by
  simp only [insD, List.length_append, List.length_take, List.length_drop, List.length_singleton]
  omega
theorem sortedD_length (b : Bool) (row : List Dat) : ∀ found, (row.foldl (insD b) found).length = found.length + row.length := by
  induction row with
  | nil => intro f; rfl
  | cons d r ih => intro f; rw [List.foldl_cons, ih, insD_length, List.length_cons]; omega
theorem mem_insD {b : Bool} {fs : List Dat} {d e : Dat} (h : e ∈ insD b fs d) : e ∈ fs ∨ e = d := by
  simp only [insD, List.mem_append, List.mem_singleton] at h
  rcases h with (h | h) | h
  · exact .inl (List.mem_of_mem_take h)
  · exact .inr h
  · exact .inl (List.mem_of_mem_drop h)
theorem mem_sortedD {b : Bool} : ∀ {row fs : List Dat} {e : Dat}, e ∈ row.foldl (insD b) fs → e ∈ fs ∨ e ∈ row
  | [], _, _, h => .inl h
  | d :: r, fs, e, h => by
    rw [List.foldl_cons] at h
    rcases mem_sortedD h with h | h
    · rcases mem_insD h with h | rfl
      · exact .inl h
      · exact .inr (.head _)
    · exact .inr (.tail _ h)
theorem sorted_K (w : World) (rest : List (Addr × Obj)) (R : Addr) (rvs : List Value) (n : Nat) (ds : List Dat) (b kb : Bool) (hR : DatAll [] rvs ds) (hk' : ∀ d ∈ ds, KB kb d) (hl : ∀ d ∈ ds, b = false → LenD d) (hlen : ds.length ≤ 20) (hRr : ∀ p ∈ rest, p.1 ≠ R) :
    Says w 352 20 1200 [.ref R, .bool b] ((R, listOf rvs.toArray n) :: rest) (fun news' v' => ∃ J vs k, v' = .ref J ∧ news' = (J, listOf vs.toArray k) :: (R, listOf rvs.toArray n) :: rest ∧ @Ne Nat R J ∧ (∀ p ∈ rest, p.1 ≠ J) ∧ DatAll [] vs (sortedD b ds)) := by
  intro p loose mean mg mb dp un gd cn cs a ccd cl outer A₀ base h₀ L m s Q E B F X N T hk hd hu hret
  revert X; k_fill; intro X
  refine wpAny_call ?_
  walk_at "enter"
  k_steps
  rename_i g' L' hA tkA FG B' X' T' la lb lc ld c1 c2 dc1 dc2 f0 hh l1 h' F' N'
  obtain ⟨m0, F''⟩ : ∃ m0 : Str → Option Value, Fr _ _ _ (fun y => if y = Str.ofString "found" then some (Value.ref f0) else m0 y) := ⟨_, F'⟩
  refine SrcF.list (J := fun i m₁ nw => ∃ u f vs kk oi vi, m₁ = (fun z => if z = Str.ofString "at" then u else if z = Str.ofString "found" then some (Value.ref f) else m0 z) ∧ nw = (f, listOf (List.toArray vs) kk) :: (L' + 1 + 1, oi) :: (L' + 1, c2) :: (R, listOf rvs.toArray n) :: rest ∧ oi.data = .cell vi ∧ (@LT.lt Nat _ (L' + 1 + 1) f ∧ AllLt f rest) ∧ DatAll [] vs ((ds.take i).foldl (insD b) [])) rfl F'' N' (by k_mem) ?_ ⟨_, f0, [], 0, c1, _, mapSelf _ _, rfl, dc1, ⟨l1.1, by tbn_find⟩, .nil⟩ ?_ ?_
  · rintro j m₁ nw ⟨u, f, vs, kk, oi, vi, rfl, rfl, hoi, hlt, hvs⟩
    k_mem
  · intro g i v I oI h tk m₁ nw hi hv ⟨u, f, vs, kk, oi, vi, hm₁, hnw, hoi, hlt, hvs⟩ F₁ N₁ off
    subst hm₁ hnw
    have offr : ∀ p ∈ rest, p.1 ≠ I := fun p hp => off p (by k_mem)
    have off' := gnNe_of off
    simp only [GnNe] at off'
    clear F' F'' N' hh
    obtain ⟨d, hd1, hdv⟩ := datAt hR hv
    have hdk := hk' d (List.mem_of_getElem? hd1)
    have hdl := hl d (List.mem_of_getElem? hd1)
    have htk : (ds.take (i + 1)).foldl (insD b) [] = insD b ((ds.take i).foldl (insD b) []) d := by
      rw [List.take_add_one, hd1]; simp
    have hin : ∀ e ∈ (ds.take i).foldl (insD b) [], e ∈ ds := fun e he => List.mem_of_mem_take ((mem_sortedD he).resolve_left (by simp))
    have hfl : ((ds.take i).foldl (insD b) []).length ≤ 20 := by
      rw [sortedD_length, List.length_take, List.length_nil]; omega
    generalize (ds.take i).foldl (insD b) [] = fs at hvs htk hin hfl
    have hvl := hvs.length
    k_steps
    rename_i tka tkb hb ob F2 N2 db
    refine SrcJ.list (J := fun j ys nw => nw = (I, oI) :: (f, listOf (List.toArray vs) kk) :: (L' + 1 + 1, ob) :: (L' + 1, c2) :: (R, listOf rvs.toArray n) :: rest ∧ DatAll [] ys ((fs.take j).filter fun one => leD (kindD b one) (kindD b d))) rfl F2 N2 (by k_mem) (by omega) ?_ ⟨rfl, .nil⟩ ?_ ?_
    · rintro j ys nw ⟨rfl, _⟩
      k_mem
    · intro g2 j v2 I2 oI2 C oC D m₂ h2 tk2 ys nw E' hj hyl hv2 ⟨hnw, hys⟩ hoC hm₂ F3 N3 off2 hne
      subst hnw
      obtain ⟨e, he1, hev⟩ := datAt hvs hv2
      have hek := hk' e (hin e (List.mem_of_getElem? he1))
      have hel := hl e (hin e (List.mem_of_getElem? he1))
      refine wpAny_tests_one ?_
      k_steps
      all_goals (refine TurnJ.intro ((I, oI) :: (f, listOf vs.toArray kk) :: (L' + 1 + 1, ob) :: (L' + 1, c2) :: (R, listOf rvs.toArray n) :: rest) (by with_reducible assumption) (by with_reducible assumption) (by k_sub) off2 ⟨rfl, ?_⟩)
      all_goals (with_reducible rename (leD _ _ = _) => hle)
      · rw [filterTake _ he1]
        simp only [hle, if_true]
        exact hys.append (.one hev)
      · rw [filterTake _ he1]
        simp only [hle, Bool.false_eq_true, if_false, List.append_nil]
        exact hys
    · rintro D ys nw h2 tk2 F3 N3 o1 ⟨rfl, hys⟩
      rw [hvl, List.take_length] at hys
      simp only [Off1] at o1
      have o1r := off1_ne o1.2.2.2.2.2
      have hyl := hys.length
      have hfle := List.length_filter_le (fun one => leD (kindD b one) (kindD b d)) fs
      k_steps
      with_reducible rename (_ = kms_pick _ none _) => hz1
      with_reducible rename (_ = kms_pick _ _ none) => hz2
      rw [pick_upto _ (by omega)] at hz1
      rw [pick_from _ (by omega)] at hz2
      refine' TurnF.intro ((_, listOf (List.toArray (_ ++ _ ++ _)) _) :: (L' + 1 + 1, ob) :: (L' + 1, c2) :: (R, listOf rvs.toArray n) :: rest) (by with_reducible assumption) (by with_reducible assumption) ?sub ?off ?k
      case sub => k_sub
      case off => (refine List.forall_mem_cons.mpr ⟨by k_ne, List.forall_mem_cons.mpr ⟨by k_ne, List.forall_mem_cons.mpr ⟨by k_ne, List.forall_mem_cons.mpr ⟨by k_ne, offr⟩⟩⟩⟩)
      case k =>
        refine ⟨_, _, _, _, _, _, mapNorm1 (by decide) _ _ _ _ _, rfl, db, ⟨by omega, by tbn_find⟩, ?_⟩
        rw [htk, hz1, hz2, hyl]
        simp only [Int.toNat_natCast]
        exact ((datTake hvs _).append (.one hdv)).append (datDrop hvs _)
  · rintro m₁ nw h tk F₁ N₁ ⟨u, f, vs, kk, oi, vi, rfl, rfl, hoi, hlt, hvs⟩
    k_steps
    have hrl := hR.length
    rw [hrl, List.take_length] at hvs
    exact hret _ ((f, listOf vs.toArray kk) :: (R, listOf rvs.toArray n) :: rest) _ _ ⟨f, vs, kk, rfl, rfl, by omega, allLt_ne hlt.2, hvs⟩ (by with_reducible assumption) (cb_drop (by with_reducible assumption) (by k_sub))
end
section
def fstD (b : Bool) (found : List Dat) (item : Dat) : List Dat :=
  if (found.filter fun one => eqD (kindD b one) (kindD b item)).isEmpty then found ++ [item] else found
def firstD (b : Bool) (row : List Dat) : List Dat := row.foldl (fstD b) []
theorem mem_fstD {b : Bool} {fs : List Dat} {d e : Dat} (h : e ∈ fstD b fs d) : e ∈ fs ∨ e = d := by
  unfold fstD at h
  split at h
  · rcases List.mem_append.mp h with h | h
    · exact .inl h
    · exact .inr (List.mem_singleton.mp h)
  · exact .inl h
theorem mem_firstD {b : Bool} : ∀ {row fs : List Dat} {e : Dat}, e ∈ row.foldl (fstD b) fs → e ∈ fs ∨ e ∈ row
  | [], _, _, h => .inl h
  | d :: r, fs, e, h => by
    rw [List.foldl_cons] at h
    rcases mem_firstD h with h | h
    · rcases mem_fstD h with h | rfl
      · exact .inl h
      · exact .inr (.head _)
    · exact .inr (.tail _ h)
theorem fstD_length (b : Bool) (found : List Dat) (item : Dat) : (fstD b found item).length ≤ found.length + 1 := by
  unfold fstD
  split
  · simp
  · omega
theorem firstD_length (b : Bool) (row : List Dat) : ∀ found, (row.foldl (fstD b) found).length ≤ found.length + row.length := by
  induction row with
  | nil => intro f; simp
  | cons d r ih => intro f; rw [List.foldl_cons, List.length_cons]; have := ih (fstD b f d); have := fstD_length b f d; omega
theorem first_K (w : World) (rest : List (Addr × Obj)) (R : Addr) (rvs : List Value) (n : Nat) (ds : List Dat) (b kb : Bool) (hR : DatAll [] rvs ds) (hk' : ∀ d ∈ ds, KB kb d) (hl : ∀ d ∈ ds, b = false → LenD d) (hok : ∀ d ∈ ds, kqdOk 8 d = true) (hlen : ds.length ≤ 20) (hRr : ∀ p ∈ rest, p.1 ≠ R) :
    Says w 357 20 1200 [.ref R, .bool b] ((R, listOf rvs.toArray n) :: rest) (fun news' v' => ∃ J vs k, v' = .ref J ∧ news' = (J, listOf vs.toArray k) :: (R, listOf rvs.toArray n) :: rest ∧ @Ne Nat R J ∧ (∀ p ∈ rest, p.1 ≠ J) ∧ DatAll [] vs (firstD b ds)) := by
  intro p loose mean mg mb dp un gd cn cs a ccd cl outer A₀ base h₀ L m s Q E B F X N T hk hd hu hret
  revert X; k_fill; intro X
  refine wpAny_call ?_
  walk_at "enter"
  k_steps
  rename_i g' L' hA tkA FG B' X' T' la lb lc ld c1 c2 dc1 dc2 f0 hh l1 h' F' N'
  obtain ⟨m0, F''⟩ : ∃ m0 : Str → Option Value, Fr _ _ _ (fun y => if y = Str.ofString "found" then some (Value.ref f0) else m0 y) := ⟨_, F'⟩
  refine SrcF.list (J := fun i m₁ nw => ∃ vs kk oi vi, m₁ = (fun y => if y = Str.ofString "found" then some (Value.ref f0) else m0 y) ∧ nw = (f0, listOf (List.toArray vs) kk) :: (L' + 1 + 1, oi) :: (L' + 1, c2) :: (R, listOf rvs.toArray n) :: rest ∧ oi.data = .cell vi ∧ DatAll [] vs ((ds.take i).foldl (fstD b) [])) rfl F'' N' (by k_mem) ?_ ⟨[], 0, c1, _, rfl, rfl, dc1, .nil⟩ ?_ ?_
  · rintro j m₁ nw ⟨vs, kk, oi, vi, rfl, rfl, hoi, hvs⟩
    k_mem
  · intro g i v I oI h tk m₁ nw hi hv ⟨vs, kk, oi, vi, hm₁, hnw, hoi, hvs⟩ F₁ N₁ off
    subst hm₁ hnw
    have off' := gnNe_of off
    have offr : ∀ p ∈ rest, p.1 ≠ I := fun p hp => off p (by k_mem)
    simp only [GnNe] at off'
    clear F' F'' N' hh
    obtain ⟨d, hd1, hdv⟩ := datAt hR hv
    have hdk := hk' d (List.mem_of_getElem? hd1)
    have hdl := hl d (List.mem_of_getElem? hd1)
    have htk : (ds.take (i + 1)).foldl (fstD b) [] = fstD b ((ds.take i).foldl (fstD b) []) d := by
      rw [List.take_add_one, hd1]; simp
    have hin : ∀ e ∈ (ds.take i).foldl (fstD b) [], e ∈ ds := fun e he => List.mem_of_mem_take ((mem_firstD he).resolve_left (by simp))
    have hfl : ((ds.take i).foldl (fstD b) []).length ≤ 20 := by
      have := firstD_length b (ds.take i) []
      rw [List.length_take, List.length_nil] at this; omega
    generalize (ds.take i).foldl (fstD b) [] = fs at hvs htk hin hfl
    have hvl := hvs.length
    k_steps
    rename_i tka tkb hb ob F2 N2 db
    refine SrcJ.list (J := fun j ys nw => nw = (I, oI) :: (f0, listOf (List.toArray vs) kk) :: (L' + 1 + 1, ob) :: (L' + 1, c2) :: (R, listOf rvs.toArray n) :: rest ∧ DatAll [] ys ((fs.take j).filter fun one => eqD (kindD b one) (kindD b d))) rfl F2 N2 (by k_mem) (by omega) ?_ ⟨rfl, .nil⟩ ?_ ?_
    · rintro j ys nw ⟨rfl, _⟩
      k_mem
    · intro g2 j v2 I2 oI2 C oC D m₂ h2 tk2 ys nw E' hj hyl hv2 ⟨hnw, hys⟩ hoC hm₂ F3 N3 off2 hne
      subst hnw
      obtain ⟨e, he1, hev⟩ := datAt hvs hv2
      have hek := hk' e (hin e (List.mem_of_getElem? he1))
      have hel := hl e (hin e (List.mem_of_getElem? he1))
      refine wpAny_tests_one ?_
      k_steps
      all_goals (refine TurnJ.intro ((I, oI) :: (f0, listOf vs.toArray kk) :: (L' + 1 + 1, ob) :: (L' + 1, c2) :: (R, listOf rvs.toArray n) :: rest) (by with_reducible assumption) (by with_reducible assumption) (by k_sub) off2 ⟨rfl, ?_⟩)
      all_goals (with_reducible rename (eqD _ _ = _) => hle)
      · rw [filterTake _ he1]
        simp only [hle, if_true]
        exact hys.append (.one hev)
      · rw [filterTake _ he1]
        simp only [hle, Bool.false_eq_true, if_false, List.append_nil]
        exact hys
    · rintro D ys nw h2 tk2 F3 N3 o1 ⟨rfl, hys⟩
      rw [hvl, List.take_length] at hys
      simp only [Off1] at o1
      have o1r := off1_ne o1.2.2.2.2.2
      have hok2 : ∀ e ∈ (fs.filter fun one => eqD (kindD b one) (kindD b d)), kqdOk 8 e = true := fun e he => hok e (hin e (List.mem_filter.mp he).1)
      k_steps
      all_goals (with_reducible rename (List.isEmpty _ = _) => hem)
      · refine TurnF.intro ((f0, listOf (List.toArray (vs ++ [v])) (kk + 1)) :: (L' + 1 + 1, ob) :: (L' + 1, c2) :: (R, listOf rvs.toArray n) :: rest) (by with_reducible assumption) (by with_reducible assumption) (by k_sub) ?_ ⟨_, _, _, _, rfl, rfl, db, ?_⟩
        · simp only [List.forall_mem_cons] at off ⊢; exact off
        · rw [htk, fstD, if_pos hem]
          exact hvs.append (.one hdv)
      · refine TurnF.intro ((f0, listOf (List.toArray vs) kk) :: (L' + 1 + 1, ob) :: (L' + 1, c2) :: (R, listOf rvs.toArray n) :: rest) (by with_reducible assumption) (by with_reducible assumption) (by k_sub) ?_ ⟨_, _, _, _, rfl, rfl, db, ?_⟩
        · simp only [List.forall_mem_cons] at off ⊢; exact off
        · rw [htk, fstD, if_neg (by rw [hem]; exact Bool.false_ne_true)]
          exact hvs
  · rintro m₁ nw h tk F₁ N₁ ⟨vs, kk, oi, vi, rfl, rfl, hoi, hvs⟩
    k_steps
    have hrl := hR.length
    rw [hrl, List.take_length] at hvs
    exact hret _ ((f0, listOf vs.toArray kk) :: (R, listOf rvs.toArray n) :: rest) _ _ ⟨f0, vs, kk, rfl, rfl, by omega, allLt_ne (by tbn_find), hvs⟩ (by with_reducible assumption) (cb_drop (by with_reducible assumption) (by k_sub))
end
end
end
end
end
end
section
local macro_rules | `(tactic| walk_at "call ref") => `(tactic| (k_here; (with_reducible show wpAny _ _ (call (Value.ref 328) _ _) _ _ _); k_dflt (refine' kind_use ?B ?F ?X ?N ?T ?hk ?hd ?hu ?hv ?hk2 ?hl ?_; (case B => k_asm); (case F => k_asm); (case X => k_asm); (case N => k_asm); (case T => k_asm); (case hk => first | exact rfl | assumption); (case hd => walk_at "room"); (case hu => (have hcL9 := cLine_is; walk_at "room")); (case hv => with_reducible assumption); (case hk2 => with_reducible assumption); (case hl => with_reducible assumption)); intro v9 h9 tk9 hv9 hk9 F9 N9))
local macro_rules | `(tactic| walk_at "compareOp LtE") => `(tactic| (k_here; refine' le_D ?a ?b ?c ?d ?_; (case a => with_reducible assumption); (case b => with_reducible assumption); (case c => with_reducible assumption); (case d => with_reducible assumption)))
local macro_rules | `(tactic| walk_at "compareOp Eq") => `(tactic| (k_here; refine' eq_D ?a ?b ?c ?d ?_; (case a => with_reducible assumption); (case b => with_reducible assumption); (case c => with_reducible assumption); (case d => with_reducible assumption)))
section
def ltD : Dat → Dat → Bool
  | .str x, .str y => decide (x.cps.toList < y.cps.toList)
  | .int a, .int b => decide (a < b)
  | _, _ => false
theorem leD_lt {k : Bool} {x y : Dat} (hx : KB k x) (hy : KB k y) : leD x y = !ltD y x := by
  cases hx <;> cases hy <;> simp only [leD, ltD]
  rename_i a b
  by_cases h : a ≤ b
  · simp [h]
  · simp [h]; omega
theorem ltD_irr {k : Bool} {x : Dat} (hx : KB k x) : ltD x x = false := by
  cases hx with
  | str x => simp only [ltD, decide_eq_false_iff_not]; exact List.lt_irrefl _
  | int a => simp [ltD]
theorem ltD_tr {k : Bool} {x y z : Dat} (hx : KB k x) (hy : KB k y) (hz : KB k z) (h1 : ltD x y = true) (h2 : ltD y z = true) : ltD x z = true := by
  cases hx <;> cases hy <;> cases hz <;> simp only [ltD, decide_eq_true_eq] at h1 h2 ⊢
  · exact List.lt_trans h1 h2
  · omega
theorem ltD_nt {k : Bool} {x y z : Dat} (hx : KB k x) (hy : KB k y) (hz : KB k z) (h1 : ltD x y = false) (h2 : ltD y z = false) : ltD x z = false := by
  cases hx <;> cases hy <;> cases hz <;> simp only [ltD, decide_eq_false_iff_not] at h1 h2 ⊢
  · exact List.not_lt.mpr (List.le_trans (List.not_lt.mp h2) (List.not_lt.mp h1))
  · omega
theorem ltD_weak {k : Bool} {κ : Nat → Dat} (hk : ∀ i, KB k (κ i)) : Weak fun i j => ltD (κ i) (κ j) :=
  ⟨fun i => ltD_irr (hk i), fun i j l => ltD_tr (hk i) (hk j) (hk l), fun i j l => ltD_nt (hk i) (hk j) (hk l)⟩
/-- a stable insertion by a key -/
def insG (g : Dat → Dat) (found : List Dat) (item : Dat) : List Dat :=
  found.take (found.filter fun one => leD (g one) (g item)).length ++ [item] ++ found.drop (found.filter fun one => leD (g one) (g item)).length
def sortG (g : Dat → Dat) (row : List Dat) : List Dat := row.foldl (insG g) []
theorem sortedD_G (b : Bool) (row : List Dat) : sortedD b row = sortG (kindD b) row := rfl
def insI (lt : Nat → Nat → Bool) (found : List Nat) (i : Nat) : List Nat :=
  found.take (found.filter fun j => !lt i j).length ++ [i] ++ found.drop (found.filter fun j => !lt i j).length
theorem take_filter {α : Type} {p : α → Bool} : ∀ {l : List α}, (l.Pairwise fun a b => p b = true → p a = true) → l.take (l.filter p).length = l.filter p ∧ l.drop (l.filter p).length = l.filter fun a => !p a
  | [], _ => ⟨rfl, rfl⟩
  | a :: r, h => by
    obtain ⟨h1, h2⟩ := List.pairwise_cons.mp h
    have ih := take_filter h2
    cases hp : p a with
    | true =>
      simp only [List.filter_cons, hp, if_true, List.length_cons, List.take_succ_cons, List.drop_succ_cons, Bool.not_true, Bool.false_eq_true, if_false]
      exact ⟨by rw [ih.1], ih.2⟩
    | false =>
      have hr : r.filter p = [] := List.filter_eq_nil_iff.mpr fun b hb hpb => by have := h1 b hb hpb; rw [hp] at this; cases this
      have hr' : (r.filter fun a => !p a) = r := List.filter_eq_self.mpr fun b hb => by
        cases e : p b with
        | false => rfl
        | true => have := h1 b hb e; rw [hp] at this; cases this
      simp [List.filter_cons, hp, hr, hr']
theorem insI_ok {lt : Nat → Nat → Bool} (W : Weak lt) {found : List Nat} {m : Nat} (hp : found.Perm (List.range m)) (hs : found.Pairwise (Bef lt)) : (insI lt found m).Perm (List.range (m + 1)) ∧ (insI lt found m).Pairwise (Bef lt) := by
  have hlow : ∀ j ∈ found, j < m := fun j hj => by simpa using hp.mem_iff.mp hj
  have hmono : found.Pairwise fun a b => (!lt m b) = true → (!lt m a) = true := hs.imp fun {a b} hab hb => by
    cases e : lt m a with
    | false => rfl
    | true => rw [W.lt_of_lt_of_not e (W.bef_not hab)] at hb; cases hb
  obtain ⟨h1, h2⟩ := take_filter hmono
  rw [insI, h1, h2]
  constructor
  · have h3 : (found.filter (fun j => !lt m j) ++ [m] ++ found.filter fun a => !!lt m a).Perm (found ++ [m]) := by
      have h4 := (List.filter_append_perm (fun j => !lt m j) found)
      refine List.Perm.trans ?_ (h4.append_right [m])
      rw [List.append_assoc, List.append_assoc]
      exact List.Perm.append_left _ List.perm_append_comm
    rw [List.range_succ]
    exact h3.trans (hp.append_right [m])
  · rw [List.pairwise_append, List.pairwise_append]
    refine ⟨⟨hs.filter _, List.pairwise_singleton _ _, fun a ha c hc => ?_⟩, hs.filter _, fun a ha c hc => ?_⟩
    · rw [List.mem_singleton.mp hc]
      obtain ⟨ha1, ha2⟩ := List.mem_filter.mp ha
      exact .inr ⟨by simpa using ha2, hlow a ha1⟩
    · obtain ⟨hc1, hc2⟩ := List.mem_filter.mp hc
      have hmc : Bef lt m c := .inl (by simpa using hc2)
      rcases List.mem_append.mp ha with ha | ha
      · obtain ⟨ha1, ha2⟩ := List.mem_filter.mp ha
        exact W.bef_tr (.inr ⟨by simpa using ha2, hlow a ha1⟩) hmc
      · rw [List.mem_singleton.mp ha]; exact hmc
theorem sortI_ok {lt : Nat → Nat → Bool} (W : Weak lt) : ∀ m, ((List.range m).foldl (insI lt) []).Perm (List.range m) ∧ ((List.range m).foldl (insI lt) []).Pairwise (Bef lt)
  | 0 => ⟨.refl _, .nil⟩
  | m + 1 => by
    have ih := sortI_ok W m
    rw [List.range_succ, List.foldl_append, ← List.range_succ]
    exact insI_ok W ih.1 ih.2
theorem uniq {lt : Nat → Nat → Bool} (W : Weak lt) : ∀ {l r : List Nat}, l.Perm r → l.Pairwise (Bef lt) → r.Pairwise (Bef lt) → l = r
  | [], r, h, _, _ => h.symm.eq_nil.symm
  | a :: l, [], h, _, _ => by have := h.length_eq; simp at this
  | a :: l, c :: r, h, h1, h2 => by
    obtain ⟨h1a, h1b⟩ := List.pairwise_cons.mp h1
    obtain ⟨h2a, h2b⟩ := List.pairwise_cons.mp h2
    have e : a = c := by
      rcases List.mem_cons.mp (h.mem_iff.mp (List.mem_cons_self ..)) with e | e
      · exact e
      · rcases List.mem_cons.mp (h.mem_iff.mpr (List.mem_cons_self ..)) with e' | e'
        · exact e'.symm
        · exact (W.bef_irr (W.bef_tr (h1a c e') (h2a a e))).elim
    subst e
    rw [uniq W (List.Perm.cons_inv h) h1b h2b]
theorem sortI_map {k : Bool} {g : Dat → Dat} {ds : List Dat} {d0 : Dat} (hk : ∀ i, KB k (g (ds.getD i d0))) : ∀ m, m ≤ ds.length →
    ((List.range m).foldl (insI fun i j => ltD (g (ds.getD i d0)) (g (ds.getD j d0))) []).map (fun i => ds.getD i d0) = (ds.take m).foldl (insG g) []
  | 0, _ => rfl
  | m + 1, h => by
    have ih := sortI_map hk m (by omega)
    have hm : ds[m]? = some (ds.getD m d0) := by
      have : m < ds.length := by omega
      simp [this]
    have et : ds.take (m + 1) = ds.take m ++ [ds.getD m d0] := by rw [List.take_add_one, hm]; rfl
    rw [List.range_succ, List.foldl_append, et, List.foldl_append, ← ih]
    generalize (List.range m).foldl (insI fun i j => ltD (g (ds.getD i d0)) (g (ds.getD j d0))) [] = found
    simp only [List.foldl_cons, List.foldl_nil, insI, insG]
    have ef : ((found.map fun i => ds.getD i d0).filter fun one => leD (g one) (g (ds.getD m d0))).length = (found.filter fun j => !ltD (g (ds.getD m d0)) (g (ds.getD j d0))).length := by
      rw [List.filter_map, List.length_map]
      congr 1
      refine List.filter_congr fun j _ => ?_
      exact leD_lt (hk j) (hk m)
    rw [ef]
    simp only [List.map_append, List.map_take, List.map_drop, List.map_cons, List.map_nil]
theorem srt_out {k : Bool} {g : Dat → Dat} {ds : List Dat} {d0 : Dat} {p : Array Nat} (hk : ∀ i, KB k (g (ds.getD i d0))) (S : Srt (fun i j => ltD (g (ds.getD i d0)) (g (ds.getD j d0))) ds.length p) :
    p.toList.map (fun i => ds.getD i d0) = sortG g ds := by
  have W := ltD_weak (κ := fun i => g (ds.getD i d0)) hk
  have h1 := sortI_ok W ds.length
  have hp : p.toList.Perm (List.range ds.length) := Array.perm_iff_toList_perm.mp S.perm
  have hs : p.toList.Pairwise (Bef fun i j => ltD (g (ds.getD i d0)) (g (ds.getD j d0))) := by
    rw [List.pairwise_iff_getElem]
    intro i j hi hj hij
    rw [Array.length_toList] at hi hj
    have z := S.sorted i j hij (by rw [← S.size]; exact hj)
    simpa [Array.getD, hi, hj] using z
  rw [uniq W (hp.trans h1.1.symm) hs h1.2, sortI_map hk _ (Nat.le_refl _), List.take_length]
  rfl
theorem datMap {l : List (Addr × Obj)} {vs : List Value} {ds : List Dat} {v0 : Value} {d0 : Dat} (h : DatAll l vs ds) : ∀ {is : List Nat}, (∀ i ∈ is, i < vs.length) → DatAll l (is.map fun i => vs.getD i v0) (is.map fun i => ds.getD i d0)
  | [], _ => .nil
  | i :: is, hi => by
    have h1 := hi i (List.mem_cons_self ..)
    have e1 : vs[i]? = some (vs.getD i v0) := by simp [h1]
    obtain ⟨d, e2, hd⟩ := datAt h e1
    have e3 : ds.getD i d0 = d := by rw [List.getD_eq_getElem?_getD, e2]; rfl
    refine .cons ?_ (datMap h fun j hj => hi j (List.mem_cons_of_mem _ hj))
    show DatIn l (vs.getD i v0) (ds.getD i d0)
    rw [e3]; exact hd
theorem datRev {l : List (Addr × Obj)} : ∀ {vs : List Value} {ds : List Dat}, DatAll l vs ds → DatAll l vs.reverse ds.reverse
  | _, _, .nil => .nil
  | _, _, .cons h r => by
    rw [List.reverse_cons, List.reverse_cons]
    exact (datRev r).append (.one h)
/-- what sorted hands back, as data -/
def outG (b : Bool) (g : Dat → Dat) (ds : List Dat) : List Dat := if b then (sortG g ds.reverse).reverse else sortG g ds
theorem sortOut_dat {l : List (Addr × Obj)} {b k : Bool} {g : Dat → Dat} {vs out : List Value} {ds : List Dat} {d0 : Dat} (hd : DatAll l vs ds) (hk : ∀ i, KB k (g (ds.getD i d0)))
    (h : SortOut b (fun i j => ltD (g (ds.getD i d0)) (g (ds.getD j d0))) vs out) : DatAll l out (outG b g ds) := by
  obtain ⟨p, S, rfl⟩ := h
  have hl := hd.length
  have hlow : ∀ i ∈ p.toList, i < vs.length := fun i hi => by
    have := (Array.perm_iff_toList_perm.mp S.perm).mem_iff.mp hi
    simpa using this
  cases b with
  | false =>
    simp only [Bool.false_eq_true, if_false] at S ⊢
    rw [hl] at S
    have e := srt_out hk S
    show DatAll l _ (sortG g ds)
    rw [← e]
    exact datMap hd hlow
  | true =>
    simp only [if_true] at S ⊢
    have hk' : ∀ i, KB k (g (ds.reverse.getD i d0)) := fun i => by
      by_cases hi : i < ds.length
      · have e : ds.reverse.getD i d0 = ds.getD (ds.length - 1 - i) d0 := by
          have h1 : ds.length - 1 - i < ds.length := by omega
          simp [hi, h1]
        rw [e]; exact hk _
      · have e : ds.reverse.getD i d0 = ds.getD ds.length d0 := by simp [Nat.le_of_not_lt hi]
        rw [e]; exact hk _
    have e : ∀ i, i < vs.length → ds.reverse.getD i d0 = ds.getD (vs.length - 1 - i) d0 := fun i hi => by
      have h0 : i < ds.length := by omega
      have h1 : ds.length - 1 - i < ds.length := by omega
      simp [h0, h1, hl]
    have hgp : ∀ i, i < vs.length → p.getD i 0 < vs.length := fun i hi => by
      have h1 : i < p.size := by rw [S.size]; exact hi
      have e1 : p.getD i 0 = p[i] := by simp [Array.getD, h1]
      rw [e1]
      exact hlow _ (by simp)
    have S' : Srt (fun i j => ltD (g (ds.reverse.getD i d0)) (g (ds.reverse.getD j d0))) ds.reverse.length p := by
      rw [List.length_reverse, ← hl]
      refine ⟨S.size, S.perm, fun i j hij hj => ?_⟩
      have z := S.sorted i j hij hj
      have z1 := hgp i (by omega)
      have z2 := hgp j hj
      unfold Bef at z ⊢
      dsimp only
      rw [e _ z1, e _ z2]
      exact z
    have e2 := srt_out hk' S'
    show DatAll l _ (sortG g ds.reverse).reverse
    rw [← e2]
    exact datRev (datMap (datRev hd) fun i hi => by rw [List.length_reverse]; exact hlow i hi)
end
section
open PySem.SeqAt PySem.MeetsSeq PySem.MeetsSeq2 PySem.MeetsSeq3 PySem.SeqRoads2
open PySem.AutoSeq1 (wpAny_loadPart')
def LtAt (A : Around) (s : Shared) (x y : Value) (c : Bool) : Prop :=
  ∀ (prog : Program) (w : World) (E : Value → Shared → Prop) (Q : Value → Shared → Prop), Q (.bool c) s → wpAny (model prog w) A (richCompare .Lt x y) Q E s
theorem lt_loop1 (l b : Addr) (x y : Value) (items items2 : Array Value) (q1 : items = #[x]) (q2 : items2 = #[y]) (n n2 : Nat) (dd dd2 : Option Addr) (sl sl2 : Array (Option Value)) (c : Bool) :
    Meets (Builtin.«list.__eq__.loop» ⟨[.ref l, .ref b, rawInt (1 : Nat), rawInt 0], []⟩)
      (fun A R s => s.heap.get? l = some { cls := .type "list", dict := dd, data := .seq items n, slots := sl } ∧ s.heap.get? b = some { cls := .type "list", dict := dd2, data := .seq items2 n2, slots := sl2 } ∧
        R (.ok (.ret (.bool false))) s) := by
  intro prog w A R s h
  obtain ⟨hp, g, d, tk, os⟩ := s; obtain ⟨hl, hb, h⟩ := h
  wp_walk using wpAny_loadPart' hl, wpAny_loadPart' hb
  have hi1 : items[((1 : Nat) : Int).toNat]? = none := by subst q1 q2; simp
  have hi2 : items2[((1 : Nat) : Int).toNat]? = none := by subst q1 q2; simp
  rw [hi1, hi2]
  wp_walk using wpAny_loadPart' hl, wpAny_loadPart' hb
  subst q1 q2
  exact h
theorem lt_loop0 (l b : Addr) (x y : Value) (items items2 : Array Value) (q1 : items = #[x]) (q2 : items2 = #[y]) (n n2 : Nat) (dd dd2 : Option Addr) (sl sl2 : Array (Option Value)) (e c : Bool) :
    Meets (Builtin.«list.__eq__.loop» ⟨[.ref l, .ref b, rawInt (0 : Nat), rawInt 0], []⟩)
      (fun A R s => s.heap.get? l = some { cls := .type "list", dict := dd, data := .seq items n, slots := sl } ∧ s.heap.get? b = some { cls := .type "list", dict := dd2, data := .seq items2 n2, slots := sl2 } ∧
        EqAt A.in1 s x y e ∧ LtAt A.in1 s x y c ∧ R (.ok (.ret (.bool (!e && c)))) s) := by
  intro prog w A R s h
  obtain ⟨hp, g, d, tk, os⟩ := s; obtain ⟨hl, hb, he, hc, h⟩ := h
  wp_walk using wpAny_loadPart' hl, wpAny_loadPart' hb
  have hi1 : items[((0 : Nat) : Int).toNat]? = some x := by subst q1 q2; simp
  have hi2 : items2[((0 : Nat) : Int).toNat]? = some y := by subst q1 q2; simp
  rw [hi1, hi2]
  refine wpAny_bind (he prog w _ _ ?_)
  cases e with
  | true =>
    wp_walk
    exact ⟨plainId_quiet plain_eq_loop _, codeAny_builtin entry_eq_loop (by
      rw [Around.under_plainId plain_eq_loop _]
      exact lt_loop1 l b x y items items2 q1 q2 n n2 dd dd2 sl sl2 c prog w A R _ ⟨hl, hb, h⟩)⟩
  | false =>
    wp_walk using wpAny_loadPart' hl, wpAny_loadPart' hb
    rw [hi1, hi2]
    refine wpAny_bind (hc prog w _ _ ?_)
    wp_walk
    exact h
theorem list_lt1 (l b : Addr) (x y : Value) (items items2 : Array Value) (q1 : items = #[x]) (q2 : items2 = #[y]) (n n2 : Nat) (dd dd2 : Option Addr) (sl sl2 : Array (Option Value)) (e c : Bool) :
    Meets (Builtin.«list.__lt__» ⟨[.ref l, .ref b], []⟩)
      (fun A R s => s.heap.get? l = some { cls := .type "list", dict := dd, data := .seq items n, slots := sl } ∧ s.heap.get? b = some { cls := .type "list", dict := dd2, data := .seq items2 n2, slots := sl2 } ∧
        EqAt A.in1 s x y e ∧ LtAt A.in1 s x y c ∧ R (.ok (.ret (.bool (!e && c)))) s) := by
  intro prog w A R s h
  obtain ⟨hp, g, d, tk, os⟩ := s; obtain ⟨hl, hb, he, hc, h⟩ := h
  have f3 := AutoSeq1.sub_list_list
  wp_walk using wpAny_loadPart' hl, wpAny_loadPart' hb
  exact ⟨plainId_quiet plain_eq_loop _, codeAny_builtin entry_eq_loop (by
    rw [Around.under_plainId plain_eq_loop _]
    exact lt_loop0 l b x y items items2 q1 q2 n n2 dd dd2 sl sl2 e c prog w A R _ ⟨hl, hb, he, hc, h⟩)⟩
section
variable {prog : Program} {w : World} {A : Around} {E : Value → Shared → Prop} {s : Shared}
theorem keyLt_list {a b : Addr} {x y : Value} {n n2 : Nat} {e c : Bool} {Q : Bool → Shared → Prop} (hu : A.units + 10 < cLine) (ha : s.heap.get? a = some (listOf #[x] n)) (hb : s.heap.get? b = some (listOf #[y] n2))
    (he : ∀ A, EqAt A s x y e) (hc : ∀ A, LtAt A s x y c) (h : Q (!e && c) s) : wpAny (model prog w) A (keyLt' oneType' (.ref a) (.ref b)) Q E s := by
  rw [keyLt'_oneType, oneLt'_eq]
  simp only [if_true]
  refine wpAny_bind (wpAny_cRoomFor (by omega) ?_)
  refine wpAny_bind (wpAny_callSpecialIfBound?_slot ⟨_, ha, rfl⟩ F.slot_list_lt (call_meets F.slot_list_lt ⟨_, ha, rfl⟩ F.entry_list_lt (F.args_list_lt_2 _ _) (list_lt1 a b x y _ _ rfl rfl n n2 none none #[] #[] e c) ⟨ha, hb, he _, hc _, ?_⟩))
  exact wpAny_truthy_bool h
theorem eqAt_D {v1 v2 : Value} {d1 d2 : Dat} {k : Bool} (h1 : DatIn [] v1 d1) (h2 : DatIn [] v2 d2) (k1 : KB k d1) (k2 : KB k d2) (A : Around) : EqAt A s v1 v2 (eqD d1 d2) := by
  intro prog w E Q hq
  cases k1 <;> cases k2 <;> cases h1 <;> cases h2
  · rename_i x y _ _
    refine (PySem.strKind prog w).eqBool (a := x) (b := y) (strKind_is _ _ _ _) (strKind_is _ _ _ _) ?_
    have e : decide (x = y) = eqD (.str x) (.str y) := by
      show decide (x = y) = (x == y)
      by_cases h : x = y
      · subst h; simp
      · simp [h]
    rw [e]; exact hq
  · rename_i x y _ _
    refine (PySem.intKind prog w).eqBool (a := x) (b := y) (intKind_is _ _ _ _) (intKind_is _ _ _ _) ?_
    have e : decide (x = y) = eqD (.int x) (.int y) := by
      show decide (x = y) = (x == y)
      by_cases h : x = y
      · subst h; simp
      · simp [h]
    rw [e]; exact hq
theorem ltAt_D {v1 v2 : Value} {d1 d2 : Dat} {k : Bool} (h1 : DatIn [] v1 d1) (h2 : DatIn [] v2 d2) (k1 : KB k d1) (k2 : KB k d2) (A : Around) : LtAt A s v1 v2 (ltD d1 d2) := by
  intro prog w E Q hq
  cases k1 <;> cases k2 <;> cases h1 <;> cases h2
  · exact PyProof.Rows.lt_str (prog := prog) (w := w) (A := A) (E := E) hq
  · exact PyProof.Rows.lt_int (prog := prog) (w := w) (A := A) (E := E) hq
theorem keyLt_D {v1 v2 : Value} {d1 d2 : Dat} {k : Bool} {Q : Bool → Shared → Prop} (h1 : DatIn [] v1 d1) (h2 : DatIn [] v2 d2) (k1 : KB k d1) (k2 : KB k d2) (h : Q (ltD d1 d2) s) : wpAny (model prog w) A (keyLt' oneType' v1 v2) Q E s := by
  cases k1 <;> cases k2 <;> cases h1 <;> cases h2
  · rw [keyLt'_oneType]; exact oneLt_str h
  · rw [keyLt'_oneType]; exact oneLt_int h
theorem eq_lt {d1 d2 : Dat} {k : Bool} (k1 : KB k d1) (k2 : KB k d2) : (!eqD d1 d2 && ltD d1 d2) = ltD d1 d2 := by
  cases h : ltD d1 d2 with
  | false => simp
  | true =>
    have : eqD d1 d2 = false := by
      cases e : eqD d1 d2 with
      | false => rfl
      | true =>
        have hh : d1 = d2 := by
          cases k1 <;> cases k2 <;> simp only [eqD, beq_iff_eq] at e <;> rw [e]
        rw [hh, ltD_irr k2] at h; cases h
    rw [this]; rfl
end
end
section
theorem revInd {α : Type} {P : List α → Prop} (h0 : P []) (h1 : ∀ l a, P l → P (l ++ [a])) (l : List α) : P l := by
  have : ∀ r : List α, P r.reverse := fun r => by
    induction r with
    | nil => exact h0
    | cons a r ih => rw [List.reverse_cons]; exact h1 _ _ ih
  have z := this l.reverse
  rwa [List.reverse_reverse] at z
theorem eqD_iff {k : Bool} {x y : Dat} (hx : KB k x) (hy : KB k y) : eqD x y = true ↔ x = y := by
  cases hx <;> cases hy <;> simp [eqD]
theorem leD_refl {k : Bool} {x : Dat} (hx : KB k x) : leD x x = true := by rw [leD_lt hx hx, ltD_irr hx]; rfl
theorem leD_tr {k : Bool} {x y z : Dat} (hx : KB k x) (hy : KB k y) (hz : KB k z) (h1 : leD x y = true) (h2 : leD y z = true) : leD x z = true := by
  rw [leD_lt hx hy, Bool.not_eq_true'] at h1
  rw [leD_lt hy hz, Bool.not_eq_true'] at h2
  rw [leD_lt hx hz, Bool.not_eq_true']
  exact ltD_nt hz hy hx h2 h1
theorem leD_anti {k : Bool} {x y : Dat} (hx : KB k x) (hy : KB k y) (h1 : leD x y = true) (h2 : leD y x = true) : x = y := by
  cases hx <;> cases hy <;> simp only [leD, Bool.not_eq_true', decide_eq_false_iff_not, decide_eq_true_eq] at h1 h2
  · rename_i a b
    have e : a.cps.toList = b.cps.toList := List.le_antisymm (List.not_lt.mp h1) (List.not_lt.mp h2)
    cases a; cases b
    congr 2
    exact Array.toList_inj.mp e
  · congr 1; omega
theorem leD_total {k : Bool} {x y : Dat} (hx : KB k x) (hy : KB k y) (h : leD x y = false) : leD y x = true := by
  cases hx <;> cases hy <;> simp only [leD, Bool.not_eq_false', decide_eq_false_iff_not, decide_eq_true_eq, Bool.not_eq_true'] at h ⊢
  · exact fun h2 => List.lt_irrefl _ (List.lt_trans h h2)
  · omega
abbrev Srtd (g : Dat → Dat) (l : List Dat) : Prop := l.Pairwise fun x y => leD (g x) (g y) = true
theorem insG_split {k : Bool} {g : Dat → Dat} {found : List Dat} {item : Dat} (hf : ∀ d ∈ found, KB k (g d)) (hi : KB k (g item)) (hs : Srtd g found) :
    insG g found item = found.filter (fun one => leD (g one) (g item)) ++ [item] ++ found.filter (fun one => !leD (g one) (g item)) := by
  have hm : found.Pairwise fun a b => leD (g b) (g item) = true → leD (g a) (g item) = true := by
    refine List.Pairwise.imp_of_mem ?_ hs
    intro a b ha hb hab h
    exact leD_tr (hf a ha) (hf b hb) hi hab h
  obtain ⟨h1, h2⟩ := take_filter hm
  rw [insG, h1, h2]
theorem insG_srtd {k : Bool} {g : Dat → Dat} {found : List Dat} {item : Dat} (hf : ∀ d ∈ found, KB k (g d)) (hi : KB k (g item)) (hs : Srtd g found) : Srtd g (insG g found item) := by
  rw [insG_split hf hi hs]
  refine List.pairwise_append.mpr ⟨List.pairwise_append.mpr ⟨hs.filter _, List.pairwise_singleton .., fun a ha b hb => ?_⟩, hs.filter _, fun a ha b hb => ?_⟩
  · rw [List.mem_singleton.mp hb]
    exact (List.mem_filter.mp ha).2
  · obtain ⟨hb1, hb2⟩ := List.mem_filter.mp hb
    have hb3 := leD_total (hf b hb1) hi (by simpa using hb2)
    rcases List.mem_append.mp ha with ha | ha
    · obtain ⟨ha1, ha2⟩ := List.mem_filter.mp ha
      exact leD_tr (hf a ha1) hi (hf b hb1) ha2 hb3
    · rw [List.mem_singleton.mp ha]
      exact hb3
theorem mem_insG {g : Dat → Dat} {fs : List Dat} {d e : Dat} (h : e ∈ insG g fs d) : e ∈ fs ∨ e = d := by
  simp only [insG, List.mem_append, List.mem_singleton] at h
  rcases h with (h | h) | h
  · exact .inl (List.mem_of_mem_take h)
  · exact .inr h
  · exact .inl (List.mem_of_mem_drop h)
theorem insG_filter {k : Bool} {g : Dat → Dat} {found : List Dat} {item m : Dat} (hf : ∀ d ∈ found, KB k (g d)) (hi : KB k (g item)) (hm : KB k m) (hs : Srtd g found) :
    (insG g found item).filter (fun x => eqD (g x) m) = (found ++ [item]).filter fun x => eqD (g x) m := by
  rw [insG_split hf hi hs]
  simp only [List.filter_append, List.filter_filter]
  have key : ∀ x ∈ found, eqD (g x) m = true → g x = m := fun x hx h => (eqD_iff (hf x hx) hm).mp h
  cases hc : leD m (g item) with
  | true =>
    have e1 : found.filter (fun a => eqD (g a) m && leD (g a) (g item)) = found.filter fun a => eqD (g a) m := List.filter_congr fun x hx => by
      cases h : eqD (g x) m with
      | false => rfl
      | true => rw [key x hx h, hc]; rfl
    have e2 : found.filter (fun a => eqD (g a) m && !leD (g a) (g item)) = [] := List.filter_eq_nil_iff.mpr fun x hx h => by
      simp only [Bool.and_eq_true, Bool.not_eq_true'] at h
      rw [key x hx h.1, hc] at h
      cases h.2
    rw [e1, e2, List.append_nil]
  | false =>
    have e1 : found.filter (fun a => eqD (g a) m && leD (g a) (g item)) = [] := List.filter_eq_nil_iff.mpr fun x hx h => by
      simp only [Bool.and_eq_true] at h
      rw [key x hx h.1, hc] at h
      cases h.2
    have e2 : found.filter (fun a => eqD (g a) m && !leD (g a) (g item)) = found.filter fun a => eqD (g a) m := List.filter_congr fun x hx => by
      cases h : eqD (g x) m with
      | false => rfl
      | true => rw [key x hx h, hc]; rfl
    have e3 : [item].filter (fun x => eqD (g x) m) = [] := List.filter_eq_nil_iff.mpr fun x hx h => by
      rw [List.mem_singleton.mp hx] at h
      rw [(eqD_iff hi hm).mp h, leD_refl hm] at hc
      cases hc
    rw [e1, e2, e3, List.nil_append, List.nil_append, List.append_nil]
theorem sortG_snoc (g : Dat → Dat) (ds : List Dat) (d : Dat) : sortG g (ds ++ [d]) = insG g (sortG g ds) d := by simp [sortG]
theorem mem_sortG {g : Dat → Dat} {ds : List Dat} : ∀ {e : Dat}, e ∈ sortG g ds → e ∈ ds := by
  induction ds using revInd with
  | h0 => intro e h; exact h
  | h1 ds d ih =>
    intro e h
    rw [sortG_snoc] at h
    rcases mem_insG h with h | rfl
    · exact List.mem_append_left _ (ih h)
    · exact List.mem_append_right _ (.head _)
theorem sortG_ok {k : Bool} {g : Dat → Dat} (ds : List Dat) (hd : ∀ d ∈ ds, KB k (g d)) : Srtd g (sortG g ds) ∧ ∀ m, KB k m → (sortG g ds).filter (fun x => eqD (g x) m) = ds.filter fun x => eqD (g x) m := by
  induction ds using revInd with
  | h0 => exact ⟨List.Pairwise.nil, fun _ _ => rfl⟩
  | h1 ds d ih =>
    obtain ⟨i1, i2⟩ := ih fun e he => hd e (List.mem_append_left _ he)
    have hf : ∀ e ∈ sortG g ds, KB k (g e) := fun e he => hd e (List.mem_append_left _ (mem_sortG he))
    have hi := hd d (List.mem_append_right _ (.head _))
    rw [sortG_snoc]
    refine ⟨insG_srtd hf hi i1, fun m hm => ?_⟩
    rw [insG_filter hf hi hm i1, List.filter_append, List.filter_append, i2 m hm]
end
section
/-- the pairs of a table, as data -/
def pairD (p : Str × Str) : Dat := .tuple [.str p.1, .str p.2]
def fldD (v : Bool) : Dat → Dat
  | .tuple [x, y] => if v then y else x
  | d => d
/-- the law's due -/
def dueD (b v turned : Bool) (rows : List Dat) : List Dat :=
  (firstD true (if turned then (sortedD true (rows.map fun p => kindD b (fldD v p))).reverse else sortedD true (rows.map fun p => kindD b (fldD v p)))).flatMap fun m => rows.filter fun p => eqD (kindD b (fldD v p)) m
theorem flat_sorted {k : Bool} {g : Dat → Dat} {r : Dat → Dat → Prop} (anti : ∀ x y, KB k x → KB k y → r x y → r y x → x = y) : ∀ (fs s : List Dat), (∀ m ∈ fs, KB k m) → (∀ x ∈ s, KB k (g x)) →
    s.Pairwise (fun x y => r (g x) (g y)) → fs.Pairwise (fun a b => r a b ∧ a ≠ b) → (∀ x ∈ s, g x ∈ fs) → s = fs.flatMap fun m => s.filter fun x => eqD (g x) m
  | [], s, _, _, _, _, hm => by
    cases s with
    | nil => rfl
    | cons x s => exact absurd (hm x (.head _)) (by simp)
  | m :: fs, s, hf, hs, hp, hfp, hm => by
    obtain ⟨h1, h2⟩ := List.pairwise_cons.mp hfp
    have km := hf m (.head _)
    have hpre : s.Pairwise fun a b => eqD (g b) m = true → eqD (g a) m = true := by
      refine List.Pairwise.imp_of_mem ?_ hp
      intro a b ha hb hab h
      have eb := (eqD_iff (hs b hb) km).mp h
      refine (eqD_iff (hs a ha) km).mpr ?_
      rcases List.mem_cons.mp (hm a ha) with e | e
      · exact e
      · rw [eb] at hab
        exact anti _ _ (hs a ha) km hab (h1 _ e).1
    obtain ⟨t1, t2⟩ := take_filter hpre
    have e0 : s = s.filter (fun x => eqD (g x) m) ++ s.filter fun x => !eqD (g x) m := by
      conv => lhs; rw [← List.take_append_drop (s.filter fun x => eqD (g x) m).length s, t1, t2]
    have ih := flat_sorted anti fs (s.filter fun x => !eqD (g x) m) (fun a h => hf a (.tail _ h)) (fun x hx => hs x (List.mem_filter.mp hx).1) (hp.filter _) h2 (fun x hx => by
      obtain ⟨hx1, hx2⟩ := List.mem_filter.mp hx
      rcases List.mem_cons.mp (hm x hx1) with e | e
      · rw [(eqD_iff (hs x hx1) km).mpr e] at hx2; cases hx2
      · exact e)
    rw [List.flatMap_cons]
    conv => lhs; rw [e0]
    congr 1
    refine ih.trans ?_
    have hc : ∀ m' ∈ fs, (s.filter fun x => !eqD (g x) m).filter (fun x => eqD (g x) m') = s.filter fun x => eqD (g x) m' := by
      intro m' hm'
      rw [List.filter_filter]
      refine List.filter_congr fun x hx => ?_
      cases h : eqD (g x) m' with
      | false => rfl
      | true =>
        have e := (eqD_iff (hs x hx) (hf m' (.tail _ hm'))).mp h
        cases h3 : eqD (g x) m with
        | false => rfl
        | true => exact absurd (((eqD_iff (hs x hx) km).mp h3).symm.trans e) (h1 m' hm').2
    simp only [List.flatMap]
    congr 1
    exact List.map_congr_left hc
theorem kindD_true (d : Dat) : kindD true d = d := by cases d <;> rfl
theorem firstD_snoc2 (b : Bool) (l : List Dat) (d : Dat) : firstD b (l ++ [d]) = fstD b (firstD b l) d := by simp [firstD]
theorem first_sorted {k : Bool} {r : Dat → Dat → Prop} (l : List Dat) (hk : ∀ d ∈ l, KB k d) (hp : l.Pairwise r) : (firstD true l).Pairwise (fun a b => r a b ∧ a ≠ b) ∧ ∀ x, x ∈ firstD true l ↔ x ∈ l := by
  induction l using revInd with
  | h0 => exact ⟨List.Pairwise.nil, fun _ => Iff.rfl⟩
  | h1 l d ih =>
    obtain ⟨p1, _, p2⟩ := List.pairwise_append.mp hp
    obtain ⟨i1, i2⟩ := ih (fun e he => hk e (List.mem_append_left _ he)) p1
    have kd := hk d (List.mem_append_right _ (.head _))
    rw [firstD_snoc2]
    unfold fstD
    simp only [kindD_true]
    have kf : ∀ x ∈ firstD true l, KB k x := fun x hx => hk x (List.mem_append_left _ ((i2 x).mp hx))
    split
    · rename_i he
      have hn : ∀ x ∈ firstD true l, x ≠ d := fun x hx e => by
        have h0 := List.isEmpty_iff.mp he
        have := List.filter_eq_nil_iff.mp h0 x hx
        exact this ((eqD_iff (kf x hx) kd).mpr e)
      refine ⟨List.pairwise_append.mpr ⟨i1, List.pairwise_singleton .., fun x hx y hy => ?_⟩, fun x => by rw [List.mem_append, List.mem_append, i2 x]⟩
      rw [List.mem_singleton.mp hy]
      exact ⟨p2 x ((i2 x).mp hx) d (.head _), hn x hx⟩
    · rename_i he
      obtain ⟨y, hy⟩ : ∃ y, y ∈ (firstD true l).filter fun one => eqD one d := by
        rcases h0 : (firstD true l).filter fun one => eqD one d with _ | ⟨y, t⟩
        · rw [h0] at he; exact absurd rfl he
        · exact ⟨y, .head _⟩
      obtain ⟨hy1, hy2⟩ := List.mem_filter.mp hy
      have e := (eqD_iff (kf y hy1) kd).mp hy2
      subst e
      refine ⟨i1, fun x => ?_⟩
      rw [List.mem_append, i2 x, List.mem_singleton]
      exact ⟨.inl, fun h => h.elim id fun h => h ▸ (i2 y).mp hy1⟩
theorem mem_sortG_of {k : Bool} {g : Dat → Dat} {ds : List Dat} (hd : ∀ d ∈ ds, KB k (g d)) {x : Dat} (hx : x ∈ ds) : x ∈ sortG g ds := by
  have h := (sortG_ok ds hd).2 (g x) (hd x hx)
  have hx2 : x ∈ ds.filter fun y => eqD (g y) (g x) := List.mem_filter.mpr ⟨hx, (eqD_iff (hd x hx) (hd x hx)).mpr rfl⟩
  rw [← h] at hx2
  exact (List.mem_filter.mp hx2).1
theorem dsort_eq {k b v turned : Bool} {rows : List Dat} (hk : ∀ d ∈ rows, KB k (kindD b (fldD v d))) : outG turned (fun p => kindD b (fldD v p)) rows = dueD b v turned rows := by
  generalize hg : (fun p => kindD b (fldD v p)) = g
  have hg' : ∀ p, kindD b (fldD v p) = g p := fun p => by rw [← hg]
  have hk1 : ∀ d ∈ rows, KB k (g d) := fun d h => hg' d ▸ hk d h
  have hM : ∀ m ∈ rows.map g, KB k m := fun m hm => by
    obtain ⟨x, hx, rfl⟩ := List.mem_map.mp hm
    exact hk1 x hx
  have hM' : ∀ m ∈ rows.map g, KB k (kindD true m) := fun m hm => by rw [kindD_true]; exact hM m hm
  have s1 : Srtd (kindD true) (sortedD true (rows.map g)) := (sortG_ok _ hM').1
  have s2 : (sortedD true (rows.map g)).Pairwise fun x y => leD x y = true := s1.imp fun {x y} h => by rwa [kindD_true, kindD_true] at h
  have hS : ∀ m ∈ sortedD true (rows.map g), KB k m := fun m hm => hM m (mem_sortG hm)
  have hcov : ∀ x ∈ rows, g x ∈ sortedD true (rows.map g) := fun x hx => mem_sortG_of hM' (List.mem_map_of_mem hx)
  unfold dueD outG
  simp only [hg']
  cases turned with
  | false =>
    simp only [Bool.false_eq_true, if_false]
    obtain ⟨f1, f2⟩ := first_sorted (k := k) _ hS s2
    have h := flat_sorted (k := k) (g := g) (r := fun x y => leD x y = true) (fun x y hx hy => leD_anti hx hy) (firstD true (sortedD true (rows.map g))) (sortG g rows) (fun m hm => hS m ((f2 m).mp hm)) (fun x hx => hk1 x (mem_sortG hx)) (sortG_ok rows hk1).1 f1 (fun x hx => (f2 _).mpr (hcov x (mem_sortG hx)))
    rw [h]
    simp only [List.flatMap]
    congr 1
    exact List.map_congr_left fun m hm => (sortG_ok rows hk1).2 m (hS m ((f2 m).mp hm))
  | true =>
    simp only [if_true]
    have s3 : (sortedD true (rows.map g)).reverse.Pairwise fun x y => leD y x = true := List.pairwise_reverse.mpr s2
    obtain ⟨f1, f2⟩ := first_sorted (k := k) _ (fun m hm => hS m (List.mem_reverse.mp hm)) s3
    have hk2 : ∀ d ∈ rows.reverse, KB k (g d) := fun d hd => hk1 d (List.mem_reverse.mp hd)
    have hS2 : ∀ m ∈ firstD true (sortedD true (rows.map g)).reverse, KB k m := fun m hm => hS m (List.mem_reverse.mp ((f2 m).mp hm))
    have h := flat_sorted (k := k) (g := g) (r := fun x y => leD y x = true) (fun x y hx hy h1 h2 => leD_anti hx hy h2 h1) (firstD true (sortedD true (rows.map g)).reverse) (sortG g rows.reverse).reverse hS2
      (fun x hx => hk2 x (mem_sortG (List.mem_reverse.mp hx))) (List.pairwise_reverse.mpr (sortG_ok rows.reverse hk2).1) f1 (fun x hx => (f2 _).mpr (List.mem_reverse.mpr (hcov x (List.mem_reverse.mp (mem_sortG (List.mem_reverse.mp hx))))))
    rw [h]
    simp only [List.flatMap]
    congr 1
    refine List.map_congr_left fun m hm => ?_
    rw [List.filter_reverse, (sortG_ok rows.reverse hk2).2 m (hS2 m hm), List.filter_reverse, List.reverse_reverse]
end
end
end
section
local macro_rules | `(tactic| k_all) => `(tactic| with_reducible assumption)
local macro_rules | `(tactic| units_room) => `(tactic| (have hcL9 := cLine_is; (try simp only [units_under_make, units_in1, units_deeper, Around.mark_units, units_caller] at *); (try dsimp only [ktrTop] at *); omega))
local macro_rules | `(tactic| k_sub) => `(tactic| first | with_reducible exact subSelf | with_reducible exact subNil | (with_reducible (refine subCons ?a9 ?b9; (case a9 => k_mem); k_sub)) | with_reducible exact subApp | with_reducible exact subAppL | with_reducible assumption | (with_reducible refine subTail ?_; k_sub))
local macro_rules | `(tactic| walk_at "call builtin:list.pop") => `(tactic| (k_here; k_dflt (refine' pop_first ?F ?N ?U ?z ?_; (case F => k_asm); (case N => k_asm); (case U => k_upd); (case z => omega)); intro h' F' N'; (try dsimp only [List.nil_append, List.cons_append] at N')))
local macro_rules | `(tactic| walk_at "binaryOp Add ref ref") => `(tactic| (k_here; k_dflt (refine' add_L ?F ?N ?a ?b ?z ?_; (case F => k_asm); (case N => k_asm); (case a => k_mem); (case b => k_mem); (case z => (try simp only [List.length_append, List.length_cons, List.length_nil, List.length_replicate]); omega)); intro l' h' F' N' l1; (try k_lt l1); (try simp only [allLt_app] at l1)))
local macro_rules | `(tactic| k_mem) => `(tactic| first | with_reducible exact List.mem_cons_self | (with_reducible refine List.mem_cons_of_mem _ ?_; k_mem) | (with_reducible refine List.mem_append.mpr (Or.inl ?_); k_mem) | (with_reducible refine List.mem_append.mpr (Or.inr ?_); k_mem) | with_reducible assumption)
local macro_rules | `(tactic| walk_at "own_off") => `(tactic| first | with_reducible assumption | (refine ownOff_cons (by tbn_find) ?_; walk_at "own_off") | exact ownOff_tail (by with_reducible assumption))
local macro_rules | `(tactic| walk_at "pick") => `(tactic| first | exact Pick.head | (apply Pick.tail; walk_at "pick"))
local macro_rules | `(tactic| walk_at "room") => `(tactic| ((try simp only [depth_under_make, depth_under_kw, depth_in1, depth_deeper, depth_caller, units_in1, units_deeper, Around.mark_units, units_caller] at *); (try dsimp only [ktrTop] at *); omega))
local macro_rules | `(tactic| walk_at "enter") => `(tactic| k_dflt (first
  | (refine' code_def ?k1 ?k2 ?k3 ?k4 ?k5 ?kA ?kF ?kK ?k6 ?k7 ?k8 ?k9 ?kB ?_ ?c2 ?c3 ?c4 ?c5; (case kA => exact rfl); (case kF => exact rfl); (case kK => first | assumption | exact rfl); (case k1 => k_asm); (case k2 => k_asm); (case k3 => k_asm); (case k4 => k_asm); (case k5 => k_asm); (case k6 => k_is); (case k7 => k_is); (case k8 => first | walk_at "room" | ktr_room); (case k9 => first | exact BindsTo.of_eq rfl | exact binds_K (by k_in) rfl (by k_is) rfl rfl rfl); (case c5 => decide); (case kB => exact locs rfl); (case c2 => exact rfl); (case c3 => exact rfl); (case c4 => exact rfl); k_whole; intro g' L' h' FG' F' N' B' X' T'; (try dsimp only); (try k_lift B'); (try k_fold))
  | (refine' code_defC ?k1 ?k2 ?k3 ?k4 ?k5 ?kA ?kF ?kK ?k6 ?k7 ?k8 ?k9 ?kB ?kD ?_ ?c2 ?c3 ?c4; (case kA => exact rfl); (case kF => exact rfl); (case kK => first | assumption | exact rfl); (case k1 => k_asm); (case k2 => k_asm); (case k3 => k_asm); (case k4 => k_asm); (case k5 => k_asm); (case k6 => k_is); (case k7 => k_is); (case k8 => first | walk_at "room" | ktr_room); (case k9 => first | exact BindsTo.of_eq rfl | exact binds_K (by k_in) rfl (by k_is) rfl rfl rfl); (case kB => exact rfl); (case kD => decide +kernel); (case c2 => exact rfl); (case c3 => exact rfl); (case c4 => exact rfl); k_whole; intro g' L' h' tk' cells' FG' F' N' Y' B' X' T' l1; (have l2 := fun p hp => Nat.lt_succ_of_lt (l1 p hp)); (have l3 := fun p hp => Nat.lt_succ_of_lt (l2 p hp)); (have l4 := fun p hp => Nat.lt_succ_of_lt (l3 p hp)); (try k_lt l1); (try k_lt l2); (try k_lt l3); (try k_lt l4); k_cells Y'; (try simp only [List.cons_append, List.nil_append] at N'); (try dsimp only); (try k_lift B'); (try k_fold))))
local macro_rules | `(tactic| walk_at "callWith ref") => `(tactic| (k_here; (with_reducible show wpAny _ _ (callWith _ (Value.ref _) _ (backTo _ (starEach (_ :: _) _)) []) _ _ _); k_dflt (refine' callWith_K ?k1 ?k2 ?_; (case k1 => k_asm); (case k2 => k_is); k_whole)))
section
local macro_rules | `(tactic| walk_at "call ref") => `(tactic| (k_here; (with_reducible show wpAny _ _ (call (Value.ref 328) _ _) _ _ _); k_dflt (refine' kind_use ?B ?F ?X ?N ?T ?hk ?hd ?hu ?hv ?hk2 ?hl ?_; (case B => k_asm); (case F => k_asm); (case X => k_asm); (case N => k_asm); (case T => k_asm); (case hk => first | exact rfl | assumption); (case hd => walk_at "room"); (case hu => (have hcL9 := cLine_is; walk_at "room")); (case hv => with_reducible assumption); (case hk2 => with_reducible assumption); (case hl => with_reducible assumption)); intro v9 h9 tk9 hv9 hk9 F9 N9))
local macro_rules | `(tactic| walk_at "compareOp LtE") => `(tactic| (k_here; refine' le_D ?a ?b ?c ?d ?_; (case a => with_reducible assumption); (case b => with_reducible assumption); (case c => with_reducible assumption); (case d => with_reducible assumption)))
local macro_rules | `(tactic| walk_at "compareOp Eq") => `(tactic| (k_here; refine' eq_D ?a ?b ?c ?d ?_; (case a => with_reducible assumption); (case b => with_reducible assumption); (case c => with_reducible assumption); (case d => with_reducible assumption)))
section
def RowOk (b kb : Bool) (ds : List Dat) : Prop := (∀ d ∈ ds, KB kb d) ∧ (∀ d ∈ ds, b = false → LenD d) ∧ (∀ d ∈ ds, kqdOk 8 d = true) ∧ ds.length ≤ 20
theorem RowOk.sub {b kb : Bool} {ds es : List Dat} (h : RowOk b kb ds) (hs : ∀ e ∈ es, e ∈ ds) (hl : es.length ≤ ds.length) : RowOk b kb es :=
  ⟨fun d hd => h.1 d (hs d hd), fun d hd => h.2.1 d (hs d hd), fun d hd => h.2.2.1 d (hs d hd), Nat.le_trans hl h.2.2.2⟩
theorem RowOk.sorted {b kb : Bool} {ds : List Dat} (h : RowOk b kb ds) : RowOk b kb (sortedD b ds) :=
  h.sub (fun e he => (mem_sortedD he).resolve_left (by simp)) (by rw [sortedD, sortedD_length]; simp)
theorem RowOk.first {b kb : Bool} {ds : List Dat} (h : RowOk b kb ds) : RowOk b kb (firstD b ds) :=
  h.sub (fun e he => (mem_firstD he).resolve_left (by simp)) (by have := firstD_length b ds []; rw [firstD]; simpa using this)
theorem allSub {d : Addr} {l l' : List (Addr × Obj)} (h : ∀ p ∈ l, p.1 ≠ d) (s : ∀ p ∈ l', p ∈ l) : ∀ p ∈ l', p.1 ≠ d := fun p hp => h p (s p hp)
section
variable {w : World} {news rest : List (Addr × Obj)} {R : Addr} {rvs : List Value} {n : Nat} {ds : List Dat} {b kb : Bool}
    {p : Program} {loose : List Str} {mean : ExcName → Option Value} {mg mb : Str → Option Value}
    {dp un : Nat} {gd : Option (List Code)} {cn : Str} {cs : Scope} {a : Addr} {ccd : Value} {cl : List (Str × Addr)} {outer : List Env} {A₀ : Around} {base h₀ : Heap} {L : Addr} {m : Str → Option Value} {s : Shared} {Q E : Value → Shared → Prop}
theorem sorted_use (B : Below A₀ base outer h₀) (F : Fr h₀ L s.heap m) (X : (hd1.heap_39 w.params).In h₀) (N : News h₀ L s.heap news) (T : Top p loose mean mg mb h₀) (hk : cs.kind = .function) (hd : dp + 20 < recursionLimit) (hu : un + 1200 < cLine)
    (pk : Pick (R, listOf rvs.toArray n) news rest) (hR : DatAll [] rvs ds) (ok : RowOk b kb ds) (hRr : ∀ p ∈ rest, p.1 ≠ R)
    (ret : ∀ J vs k h' tk', DatAll [] vs (sortedD b ds) → RowOk b kb (sortedD b ds) → (∀ p ∈ (R, listOf rvs.toArray n) :: rest, p.1 ≠ J) → Fr h₀ L h' m → News h₀ L h' ((J, listOf (List.toArray vs) k) :: (R, listOf rvs.toArray n) :: rest) → Q (.ref J) { s with heap := h', toks := tk' }) :
    wpAny (model PySem.Challenge.rw_bb0048_01.row.prog w) (ktrTop dp un gd cn cs L a ccd cl outer) (call (.ref 352) [.ref R, .bool b]) Q E s := by
  refine sorted_K w rest R rvs n ds b kb hR ok.1 ok.2.1 ok.2.2.2 hRr p loose mean mg mb dp un gd cn cs a ccd cl outer A₀ base h₀ L m s Q E B F X (cb_drop N pk.sub) T hk hd hu ?_
  rintro v news' h' tk' ⟨J, vs, k, rfl, rfl, h1, h2, h3⟩ F' N'
  exact ret J vs k h' tk' h3 ok.sorted (List.forall_mem_cons.mpr ⟨h1, h2⟩) F' N'
theorem first_use (B : Below A₀ base outer h₀) (F : Fr h₀ L s.heap m) (X : (hd1.heap_39 w.params).In h₀) (N : News h₀ L s.heap news) (T : Top p loose mean mg mb h₀) (hk : cs.kind = .function) (hd : dp + 20 < recursionLimit) (hu : un + 1200 < cLine)
    (pk : Pick (R, listOf rvs.toArray n) news rest) (hR : DatAll [] rvs ds) (ok : RowOk b kb ds) (hRr : ∀ p ∈ rest, p.1 ≠ R)
    (ret : ∀ J vs k h' tk', DatAll [] vs (firstD b ds) → RowOk b kb (firstD b ds) → (∀ p ∈ (R, listOf rvs.toArray n) :: rest, p.1 ≠ J) → Fr h₀ L h' m → News h₀ L h' ((J, listOf (List.toArray vs) k) :: (R, listOf rvs.toArray n) :: rest) → Q (.ref J) { s with heap := h', toks := tk' }) :
    wpAny (model PySem.Challenge.rw_bb0048_01.row.prog w) (ktrTop dp un gd cn cs L a ccd cl outer) (call (.ref 357) [.ref R, .bool b]) Q E s := by
  refine first_K w rest R rvs n ds b kb hR ok.1 ok.2.1 ok.2.2.1 ok.2.2.2 hRr p loose mean mg mb dp un gd cn cs a ccd cl outer A₀ base h₀ L m s Q E B F X (cb_drop N pk.sub) T hk hd hu ?_
  rintro v news' h' tk' ⟨J, vs, k, rfl, rfl, h1, h2, h3⟩ F' N'
  exact ret J vs k h' tk' h3 ok.first (List.forall_mem_cons.mpr ⟨h1, h2⟩) F' N'
end
end
end
section
local macro_rules | `(tactic| walk_at "call ref") => `(tactic| (k_here; (with_reducible show wpAny _ _ (call (Value.ref 309) _ _) _ _ _); k_dflt (refine' take_use ?B ?F ?X ?N ?T ?hk ?p1 ?p2 ?hDS ?hDr ?hSr ?hd ?hu ?hk0 ?hk1 ?ok ?_; (case B => k_asm); (case F => k_asm); (case X => k_asm); (case N => k_asm); (case T => k_asm); (case hk => first | exact rfl | assumption); (case p1 => walk_at "pick"); (case p2 => walk_at "pick"); (case hDS => (first | assumption | k_ne)); (case hDr => k_all); (case hSr => k_all); (case hd => walk_at "room"); (case hu => (have hcL9 := cLine_is; walk_at "room")); (case hk0 => first | decide | omega); (case hk1 => first | decide | omega); (case ok => assumption)); intro r9 q9 t9 u9 n9 k9 vs9 h9 tk9 ok9 rlo9 rhi9 F9 N9))
local macro_rules | `(tactic| walk_at "subscriptTail") => `(tactic| (k_here; (with_reducible show wpAny _ _ (subscriptTail _ _ (Value.ref _) (Value.int _ _)) _ _ _); (fail_if_success (with_reducible show wpAny _ _ (subscriptTail _ _ (Value.ref _) (Value.int 0 _)) _ _ _)); (fail_if_success (with_reducible show wpAny _ _ (subscriptTail _ _ (Value.ref _) (Value.int 1 _)) _ _ _)); k_dflt (refine' item_L ?N ?m ?k0 ?k1 ?z ?_ ?hs; (case N => k_asm); (case m => k_mem); (case k0 => omega); (case k1 => (try simp only [List.length_cons, List.length_nil, List.length_append]); omega); (case z => (try simp only [List.length_cons, List.length_nil, List.length_append]); omega); (case hs => with_unfolding_all rfl)); intro v9 hv9))
local macro_rules | `(tactic| walk_at "size") => `(tactic| ((try simp only [List.size_toArray, List.length_cons, List.length_nil, List.length_append, List.length_take, List.length_drop]); (try rw [sizeLine_eq]); omega))
local macro_rules | `(tactic| walk_at "call builtin:len") => `(tactic| (k_here; (with_reducible show wpAny _ _ (call (Value.builtin "len") [Value.ref _]) _ _ _); k_dflt (refine' len_L ?N ?m ?z ?_; (case N => k_asm); (case m => k_mem); (case z => walk_at "size"))))
local macro_rules | `(tactic| walk_at "subscriptTail") => `(tactic| (k_here; (with_reducible show wpAny _ _ (subscriptTail _ (PySem.Expr.Slice _ _ none _) (Value.ref _) (Value.ref _)) _ _ _); k_dflt (refine' slice_L ?F ?N ?l ?p ?q ?_ ?s ?t ?z; (case F => k_asm); (case N => k_asm); (case l => k_mem); (case p => kmk_part); (case q => kmk_part); (case s => with_unfolding_all rfl); (case t => kmk_pure); (case z => walk_at "size")); intro D9 h9 z9 hz9 hzl9 F9 N9 l1; (try k_lt l1)))
local macro_rules | `(tactic| walk_at "subscriptTail Name Slice ref ref") => `(tactic| (k_here; (with_reducible show wpAny _ _ (subscriptTail _ (PySem.Expr.Slice _ _ none _) (Value.ref _) (Value.ref _)) _ _ _); k_dflt (refine' slice_L ?F ?N ?l ?p ?q ?_ ?s ?t ?z; (case F => k_asm); (case N => k_asm); (case l => k_mem); (case p => kmk_part); (case q => kmk_part); (case s => with_unfolding_all rfl); (case t => kmk_pure); (case z => walk_at "size")); intro D9 h9 z9 hz9 hzl9 F9 N9 l1; (try k_lt l1)))
section
local macro_rules | `(tactic| walk_at "compareOp Eq ref ref") => `(tactic| (k_here; k_dflt (refine' eq_nil ?N ?a ?b ?d ?k ?u ?_; (case N => k_asm); (case a => k_mem); (case b => k_mem); (case d => with_reducible assumption); (case k => with_reducible assumption); (case u => units_room))))
local macro_rules | `(tactic| walk_at "call builtin:list.append") => `(tactic| (k_here; k_dflt (refine' append_L ?F ?N ?U ?z ?_; (case F => k_asm); (case N => k_asm); (case U => k_upd); (case z => walk_at "size")); intro h9 F9 N9))
section
def words7 : List Str := [Str.ofString "ab", Str.ofString "AB", Str.ofString "b", Str.ofString "B", Str.ofString "a", Str.ofString "Ab", Str.ofString "c"]
structure WordOk (x : Str) : Prop where
  len : x.length ≤ 2
  ok : PyData.strOk x = true
  mem : x ∈ words7
theorem word_K (w : World) (D S : Addr) (q : Int) (t : Tok) (n1 n2 : Nat) (vs : List Value) (rest : List (Addr × Obj))
  (hDS : @Ne Nat D S) (hDr : ∀ p ∈ rest, p.1 ≠ D) (hSr : ∀ p ∈ rest, p.1 ≠ S) (ok : DrawOk q vs) :
  Says w 316 10 600 [.ref D] ((D, drawsO q t S n1) :: (S, listOf vs.toArray n2) :: rest) (fun news' v =>
    ∃ (x : Str) (q' : Int) (t1 t2 : Tok) (n1' n2' : Nat) (vs' : List Value), news' = (D, drawsO q' t1 S n1') :: (S, listOf vs'.toArray n2') :: rest ∧ v = .str x t2 ∧ DrawOk q' vs' ∧ WordOk x) := by
  intro p loose mean mg mb dp un gd cn cs a ccd cl outer A₀ base h₀ L m s Q E B F X N T hk hd hu hret
  revert X; k_fill; intro X
  refine wpAny_call ?_
  k_dflt cell_enter
  k_steps
  with_reducible rename (_[_]? = some _) => hv
  have hm := List.mem_of_getElem? hv
  refine hret _ ((D, drawsO _ _ S _) :: (S, listOf (List.toArray _) _) :: rest) _ _ ?_ (by assumption) (cb_drop (by assumption) (by k_sub))
  simp only [List.mem_cons, List.not_mem_nil, or_false] at hm
  rcases hm with rfl | rfl | rfl | rfl | rfl | rfl | rfl <;> exact ⟨_, _, _, _, _, _, _, rfl, rfl, by assumption, by decide, by decide +kernel, by decide +kernel⟩
theorem word_use {w : World} {D S : Addr} {q : Int} {t : Tok} {n1 n2 : Nat} {vs : List Value} {news news1 rest : List (Addr × Obj)}
    {p : Program} {loose : List Str} {mean : ExcName → Option Value} {mg mb : Str → Option Value}
    {dp un : Nat} {gd : Option (List Code)} {cn : Str} {cs : Scope} {a : Addr} {ccd : Value} {cl : List (Str × Addr)} {outer : List Env} {A₀ : Around} {base h₀ : Heap} {L : Addr} {m : Str → Option Value} {s : Shared} {Q E : Value → Shared → Prop}
    (B : Below A₀ base outer h₀) (F : Fr h₀ L s.heap m) (X : (hd1.heap_39 w.params).In h₀) (N : News h₀ L s.heap news) (T : Top p loose mean mg mb h₀) (hk : cs.kind = .function)
    (p1 : Pick (D, drawsO q t S n1) news news1) (p2 : Pick (S, listOf vs.toArray n2) news1 rest) (hDS : @Ne Nat D S) (hDr : ∀ p ∈ rest, p.1 ≠ D) (hSr : ∀ p ∈ rest, p.1 ≠ S)
    (hd : dp + 10 < recursionLimit) (hu : un + 600 < cLine) (ok : DrawOk q vs)
    (ret : ∀ (x : Str) (q' : Int) (t1 t2 : Tok) (n1' n2' : Nat) (vs' : List Value) (h' : Heap) (tk' : Nat), DrawOk q' vs' → WordOk x → Fr h₀ L h' m → News h₀ L h' ((D, drawsO q' t1 S n1') :: (S, listOf vs'.toArray n2') :: rest) → Q (.str x t2) { s with heap := h', toks := tk' }) :
    wpAny (model PySem.Challenge.rw_bb0048_01.row.prog w) (ktrTop dp un gd cn cs L a ccd cl outer) (call (.ref 316) [.ref D]) Q E s := by
  refine word_K w D S q t n1 n2 vs rest hDS hDr hSr ok p loose mean mg mb dp un gd cn cs a ccd cl outer A₀ base h₀ L m s Q E B F X (cb_drop N fun z hz => ?_) T hk hd hu ?_
  · rcases List.mem_cons.mp hz with rfl | hz
    · exact p1.sub _ (.head _)
    · exact p1.sub _ (.tail _ (p2.sub _ hz))
  · rintro v news' h' tk' ⟨x, q', t1, t2, n1', n2', vs', rfl, rfl, ok', hx⟩ F' N'
    exact ret x q' t1 t2 n1' n2' vs' h' tk' ok' hx F' N'
end
end
section
local macro_rules | `(tactic| walk_at "call ref") => `(tactic| (k_here; (with_reducible show wpAny _ _ (call (Value.ref 316) _ _) _ _ _); k_dflt (refine' word_use ?B ?F ?X ?N ?T ?hk ?p1 ?p2 ?hDS ?hDr ?hSr ?hd ?hu ?ok ?_; (case B => k_asm); (case F => k_asm); (case X => k_asm); (case N => k_asm); (case T => k_asm); (case hk => first | exact rfl | assumption); (case p1 => walk_at "pick"); (case p2 => walk_at "pick"); (case hDS => (first | assumption | k_ne)); (case hDr => k_all); (case hSr => k_all); (case hd => walk_at "room"); (case hu => (have hcL9 := cLine_is; walk_at "room")); (case ok => assumption)); intro x9 q9 t9 u9 n9 k9 vs9 h9 tk9 ok9 hx9 F9 N9))
section
local macro_rules | `(tactic| walk_at "compareOp Eq ref ref") => `(tactic| (k_here; k_dflt (refine' eq_nil ?N ?a ?b ?d ?k ?u ?_; (case N => k_asm); (case a => k_mem); (case b => k_mem); (case d => with_reducible assumption); (case k => with_reducible assumption); (case u => units_room))))
local macro_rules | `(tactic| walk_at "call builtin:list.append") => `(tactic| (k_here; k_dflt (refine' append_L ?F ?N ?U ?z ?_; (case F => k_asm); (case N => k_asm); (case U => k_upd); (case z => walk_at "size")); intro h9 F9 N9))
section
def DictRel (kvs : List (Str × Value)) (c : List (Str × Str)) : Prop := kvs.map (·.1) = c.map (·.1) ∧ DatAll [] (kvs.map (·.2)) (c.map fun p => .str p.2)
def digit (j : Nat) : Str := Str.ofString (toString (0 + (j : Int) * 1))
theorem digit_ok : ∀ j : Nat, j < 6 → (digit j).cps = #[48 + j]
  | 0, _ | 1, _ | 2, _ | 3, _ | 4, _ | 5, _ => by decide +kernel
  | n + 6, h => absurd h (by omega)
theorem digit_ne {x y : Str} {i j : Nat} (hi : i < 6) (hj : j < 6) (h : x ++ digit i = y ++ digit j) : i = j := by
  have e : (x ++ digit i).cps.toList = (y ++ digit j).cps.toList := by rw [h]
  have e2 : x.cps.toList ++ [48 + i] = y.cps.toList ++ [48 + j] := by
    have a1 : (x ++ digit i).cps = x.cps ++ (digit i).cps := rfl
    have a2 : (y ++ digit j).cps = y.cps ++ (digit j).cps := rfl
    rw [a1, a2, digit_ok i hi, digit_ok j hj] at e
    simpa using e
  have e3 := List.append_inj_right' e2 rfl
  simp at e3
  exact e3
def TabOk (c : List (Str × Str)) : Prop := ∀ (j : Nat) (p : Str × Str), c[j]? = some p → WordOk p.2 ∧ ∃ x : Str, WordOk x ∧ p.1 = x ++ digit j
theorem DictRel.length {kvs : List (Str × Value)} {c : List (Str × Str)} (h : DictRel kvs c) : kvs.length = c.length := by
  have z := congrArg List.length h.1
  simpa using z
theorem dict_new {kvs : List (Str × Value)} {c : List (Str × Str)} {x : Str} (h : DictRel kvs c) (ht : TabOk c) (hl : c.length < 6) : valueAt kvs (x ++ digit c.length) = none := by
  unfold valueAt
  rw [Option.map_eq_none_iff, List.find?_eq_none]
  intro kv hkv e
  have e' : kv.1 = x ++ digit c.length := by simpa using e
  have hm : kv.1 ∈ c.map (·.1) := by rw [← h.1]; exact List.mem_map_of_mem hkv
  obtain ⟨p, hp, hpe⟩ := List.mem_map.mp hm
  obtain ⟨j, hj, hje⟩ := List.getElem_of_mem hp
  obtain ⟨_, y, _, hy⟩ := ht j p (by rw [List.getElem?_eq_getElem hj, hje])
  rw [← hpe, hy] at e'
  have := digit_ne (by omega) hl e'
  omega
theorem dict_snoc {kvs : List (Str × Value)} {c : List (Str × Str)} {x v : Str} {t : Tok} (h : DictRel kvs c) (ht : TabOk c) (hl : c.length < 6) (hx : WordOk x) (hv : WordOk v) :
    DictRel (stored kvs (x ++ digit c.length) (.str v t)) (c ++ [(x ++ digit c.length, v)]) ∧ TabOk (c ++ [(x ++ digit c.length, v)]) := by
  rw [stored_absent (dict_new h ht hl)]
  refine ⟨⟨by simp [h.1], ?_⟩, fun j p hp => ?_⟩
  · rw [List.map_append, List.map_append]
    exact h.2.append (.one (.str v t))
  · rcases Nat.lt_or_ge j c.length with hj | hj
    · rw [List.getElem?_append_left hj] at hp
      exact ht j p hp
    · rw [List.getElem?_append_right hj] at hp
      have hj0 : j - c.length = 0 := by
        have := (List.getElem?_eq_some_iff.mp hp).1
        simp at this
        omega
      rw [hj0] at hp
      simp only [List.getElem?_cons_zero, Option.some.injEq] at hp
      subst hp
      exact ⟨hv, x, hx, by rw [show j = c.length by omega]⟩
theorem fr_known {h₀ h : Heap} {L : Addr} {m : Str → Option Value} {x : Str} {v : Option Value} (F : Fr h₀ L h m) (e : m x = v) : Fr h₀ L h (fun y => if y = x then v else m y) := by
  subst e
  rw [← mapSelf]
  exact F
theorem mapDup {x : Str} (u v : Option Value) (f : Str → Option Value) : (fun z => if z = x then v else if z = x then u else f z) = fun z => if z = x then v else f z := by
  funext z
  by_cases h : z = x <;> simp [h]
theorem key_low : ∀ j : Nat, j < 6 → ∀ x ∈ words7, PyData.strOk (x ++ digit j) = true ∧ PyData.strOk (Txt.lower (x ++ digit j)) = true ∧ PyData.strOk (Txt.lower x) = true ∧ (x ++ digit j).length ≤ 3
  | 0, _ | 1, _ | 2, _ | 3, _ | 4, _ | 5, _ => by decide +kernel
  | n + 6, h => absurd h (by omega)
end
end
end
section
local macro_rules | `(tactic| walk_at "eval ListComp") => `(tactic| (k_here; k_dflt (refine listComp_J (_F := by k_asm) (by with_unfolding_all rfl) (by decide) (by rfl) (by decide) (by rfl) ?_)))
local macro_rules | `(tactic| walk_at "exec Assign cons ListComp") => `(tactic| (k_here; k_dflt (refine assignComp_J (_F := by k_asm) (by rfl) (by with_unfolding_all rfl) (by with_unfolding_all rfl) (by decide) (by rfl) (by decide) (by rfl) (by rfl) (by rfl) ?_)))
section
local macro_rules | `(tactic| walk_at "call ref") => `(tactic| (k_here; (with_reducible show wpAny _ _ (call (Value.ref 316) _ _) _ _ _); k_dflt (refine' word_use ?B ?F ?X ?N ?T ?hk ?p1 ?p2 ?hDS ?hDr ?hSr ?hd ?hu ?ok ?_; (case B => k_asm); (case F => k_asm); (case X => k_asm); (case N => k_asm); (case T => k_asm); (case hk => first | exact rfl | assumption); (case p1 => walk_at "pick"); (case p2 => walk_at "pick"); (case hDS => (first | assumption | k_ne)); (case hDr => k_all); (case hSr => k_all); (case hd => walk_at "room"); (case hu => (have hcL9 := cLine_is; walk_at "room")); (case ok => assumption)); intro x9 q9 t9 u9 n9 k9 vs9 h9 tk9 ok9 hx9 F9 N9))
section
local macro_rules | `(tactic| walk_at "compareOp Eq ref ref") => `(tactic| (k_here; k_dflt (refine' eq_nil ?N ?a ?b ?d ?k ?u ?_; (case N => k_asm); (case a => k_mem); (case b => k_mem); (case d => with_reducible assumption); (case k => with_reducible assumption); (case u => units_room))))
local macro_rules | `(tactic| walk_at "call builtin:list.append") => `(tactic| (k_here; k_dflt (refine' append_L ?F ?N ?U ?z ?_; (case F => k_asm); (case N => k_asm); (case U => k_upd); (case z => walk_at "size")); intro h9 F9 N9))
section
/-- an item of the row: a text of at most two signs, or a small int -/
inductive ItemD : Bool → Dat → Prop
  | str (x : Str) : WordOk x → ItemD true (.str x)
  | int (i : Int) : 0 ≤ i → i < 4 → ItemD false (.int i)
theorem row_K (w : World) (D S : Addr) (q : Int) (t : Tok) (n1 n2 : Nat) (vs : List Value) (rest : List (Addr × Obj))
  (hDS : @Ne Nat D S) (hDr : ∀ p ∈ rest, p.1 ≠ D) (hSr : ∀ p ∈ rest, p.1 ≠ S) (ok : DrawOk q vs) :
  Says w 321 20 1200 [.ref D] ((D, drawsO q t S n1) :: (S, listOf vs.toArray n2) :: rest) (fun news' v =>
    ∃ (R : Addr) (rs : List Value) (n : Nat) (b : Bool) (ds : List Dat) (q' : Int) (t1 : Tok) (n1' n2' : Nat) (vs' : List Value), news' = (R, listOf rs.toArray n) :: (D, drawsO q' t1 S n1') :: (S, listOf vs'.toArray n2') :: rest ∧ v = .ref R ∧ DrawOk q' vs' ∧
      DatAll [] rs ds ∧ ds.length ≤ 9 ∧ (∀ d ∈ ds, ItemD b d) ∧ @Ne Nat D R ∧ @Ne Nat S R ∧ ∀ p ∈ rest, p.1 ≠ R) := by
  intro p loose mean mg mb dp un gd cn cs a ccd cl outer A₀ base h₀ L m s Q E B F X N T hk hd hu hret
  revert X; k_fill; intro X
  refine wpAny_call ?_
  walk_at "enter"
  k_steps
  rename_i c1 c2 dc1 dc2 r0 q0 t0 u0 n0 k0 vs0 h0' tk0 ok0 rlo0 rhi0 h1' oW F1 N1 dW r9 q9 t9 u9 n9 k9 vs9 h9 tk9 ok9 rlo9 rhi9 F9 N9 hh tkk t1 u1 v1 hr FF NN kk
  obtain ⟨n, hnr, hn, hsm⟩ := range1_facts (r := r9) rlo9 (by omega)
  refine SrcJ.range (J := fun i ys nw => ∃ ds q' t1 n1' n2' vs', nw = (D, drawsO q' t1 S n1') :: (S, listOf (List.toArray vs') n2') :: (_, oW) :: (_, c2) :: rest ∧ DrawOk q' vs' ∧ DatAll [] ys ds ∧ ds.length = i ∧ ∀ d ∈ ds, ItemD (decide (r0 < 2)) d) rfl FF NN hr hsm hn (by omega) ⟨[], _, _, _, _, _, rfl, ok9, .nil, rfl, by simp⟩ ?_ ?_
  · intro g i v I oI C oC D' m₂ h tk ys news' E' hi hyl ⟨tv, hv⟩ ⟨ds, q', t1', n1', n2', vs', hnw, ok', hds, hdl, hdi⟩ hoC hm₂ F' N' off hIC
    subst hnw
    subst hv
    simp only [Off3] at off
    refine wpAny_tests_nil ?_
    simp only [if_true]
    k_steps
    · have hb : decide (r0 < 2) = true := by first | with_reducible assumption | (simp only [decide_eq_true_eq]; with_reducible assumption)
      refine' TurnJ.intro ((D, drawsO _ _ S _) :: (S, listOf (List.toArray _) _) :: (_, oW) :: (_, c2) :: rest) (by with_reducible assumption) (by with_reducible assumption) ?sub ?off ?k
      case sub => k_sub
      case off => (simp only [Off3]; exact off)
      case k => exact ⟨ds ++ [.str _], _, _, _, _, _, rfl, by with_reducible assumption, hds.append (.one (.str _ _)), by simp [hdl], fun d hd => (List.mem_append.mp hd).elim (hdi d) fun hd => by
          rw [List.mem_singleton.mp hd, hb]; exact .str _ (by with_reducible assumption)⟩
    · have hb : decide (r0 < 2) = false := by first | with_reducible assumption | (simp only [decide_eq_false_iff_not]; with_reducible assumption)
      refine' TurnJ.intro ((D, drawsO _ _ S _) :: (S, listOf (List.toArray _) _) :: (_, oW) :: (_, c2) :: rest) (by with_reducible assumption) (by with_reducible assumption) ?sub ?off ?k
      case sub => k_sub
      case off => (simp only [Off3]; exact off)
      case k => exact ⟨ds ++ [.int _], _, _, _, _, _, rfl, by with_reducible assumption, hds.append (.one (.int _ _)), by simp [hdl], fun d hd => (List.mem_append.mp hd).elim (hdi d) fun hd => by
          rw [List.mem_singleton.mp hd, hb]; exact .int _ (by with_reducible assumption) (by with_reducible assumption)⟩
  · rintro D' ys news' h tk F' N' o1 ⟨ds, q', t1', n1', n2', vs', rfl, ok', hds, hdl, hdi⟩
    simp only [Off1] at o1
    k_steps
    refine hret _ ((D', lst ys) :: (D, drawsO _ _ S _) :: (S, listOf (List.toArray _) _) :: rest) _ _ ⟨D', ys, _, _, ds, _, _, _, _, _, rfl, rfl, ok', hds, by omega, hdi, ?_, ?_, ?_⟩ (by with_reducible assumption) (cb_drop (by with_reducible assumption) (by k_sub))
    · exact o1.1
    · exact o1.2.1
    · exact off1_ne o1.2.2.2.2
end
end
end
section
local macro_rules | `(tactic| walk_at "compareOp Eq ref ref") => `(tactic| (k_here; k_dflt (refine' eq_nil ?N ?a ?b ?d ?k ?u ?_; (case N => k_asm); (case a => k_mem); (case b => k_mem); (case d => with_reducible assumption); (case k => with_reducible assumption); (case u => units_room))))
local macro_rules | `(tactic| walk_at "call builtin:list.append") => `(tactic| (k_here; k_dflt (refine' append_L ?F ?N ?U ?z ?_; (case F => k_asm); (case N => k_asm); (case U => k_upd); (case z => walk_at "size")); intro h9 F9 N9))
section
local macro_rules | `(tactic| walk_at "inplaceOp Add ref") => `(tactic| (k_here; (with_reducible show wpAny _ _ (inplaceOp Operator.Add (Value.ref _) (Value.ref _)) _ _ _); k_dflt (refine' iadd_L ?F ?N ?b ?e ?U ?z ?_; (case F => k_asm); (case N => k_asm); (case b => k_mem); (case U => k_upd); (case e => (simp only [List.length_replicate]; omega)); (case z => (simp only [List.length_replicate]; omega))); intro h9 F9 N9))
local macro_rules | `(tactic| walk_at "binaryOp Mult ref int") => `(tactic| (k_here; (with_reducible show wpAny _ _ (binaryOp Operator.Mult (Value.ref _) (Value.int _ _)) _ _ _); k_dflt (refine' mul1_L ?F ?N ?l ?lo ?hi ?_; (case F => k_asm); (case N => k_asm); (case l => k_mem); (case lo => omega); (case hi => omega)); intro D' h' F' N' l1; (try k_lt l1)))
local macro_rules | `(tactic| walk_at "call type:list") => `(tactic| (k_here; (with_reducible show wpAny _ _ (call (Value.type _) [Value.ref _]) _ _ _); k_dflt (refine' copy_L ?F ?N ?b ?z ?_; (case F => k_asm); (case N => k_asm); (case b => k_mem); (case z => walk_at "size")); intro D' c' h' F' N' l1; (try k_lt l1)))
local macro_rules | `(tactic| walk_at "subscriptTail") => `(tactic| (k_here; (with_reducible show wpAny _ _ (subscriptTail _ _ (Value.ref _) (Value.int (-1) _)) _ _ _); k_dflt (refine' last_L ?N ?m ?z ?_ ?hs; (case N => k_asm); (case m => k_mem); (case z => (try simp only [List.length_cons, List.length_nil, List.length_append]); omega); (case hs => with_unfolding_all rfl))))
local macro_rules | `(tactic| walk_at "setItem ref int") => `(tactic| (k_here; (with_reducible show wpAny _ _ (setItem (Value.ref _) (Value.int (-1) _) _) _ _ _); k_dflt (refine' setlast_L ?F ?N ?U ?_; (case F => k_asm); (case N => k_asm); (case U => k_upd)); intro h9 F9 N9))
local macro_rules | `(tactic| walk_at "subscriptTail Name UnaryOp ref int") => `(tactic| (k_here; (with_reducible show wpAny _ _ (subscriptTail _ _ (Value.ref _) (Value.int (-1) _)) _ _ _); k_dflt (refine' last_L ?N ?m ?z ?_ ?hs; (case N => k_asm); (case m => k_mem); (case z => (try simp only [List.length_cons, List.length_nil, List.length_append]); omega); (case hs => with_unfolding_all rfl))))
section
def chunksD (k : Nat) (ds : List Dat) (n : Nat) : List (List Dat) := (List.range n).map fun j => (ds.drop (j * k)).take k
def padRep (k : Nat) : Dat → List Dat → List Dat
  | .none, t => t
  | fd, t => t ++ List.replicate (k - t.length) fd
def padLast (k : Nat) (fd : Dat) (c : List (List Dat)) : List (List Dat) := match c.reverse with
  | [] => []
  | l :: r => r.reverse ++ [padRep k fd l]
def batchesD (k : Nat) (fd : Dat) (ds : List Dat) : List (List Dat) := padLast k fd (chunksD k ds ((ds.length + k - 1) / k))
theorem chunksD_succ (k : Nat) (ds : List Dat) (i : Nat) : chunksD k ds (i + 1) = chunksD k ds i ++ [(ds.drop (i * k)).take k] := by
  rw [chunksD, List.range_succ, List.map_append]; rfl
theorem datSnoc {l : List (Addr × Obj)} : ∀ {ds : List Dat} {d : Dat} {vs : List Value}, DatAll l vs (ds ++ [d]) → ∃ vs' v, vs = vs' ++ [v] ∧ DatAll l vs' ds ∧ DatIn l v d
  | [], _, _, .cons h .nil => ⟨[], _, rfl, .nil, h⟩
  | _ :: _, _, _, .cons h r => by
    obtain ⟨vs', v, rfl, h1, h2⟩ := datSnoc r
    exact ⟨_ :: vs', v, rfl, .cons h h1, h2⟩
theorem padLast_snoc (k : Nat) (fd : Dat) (c : List (List Dat)) (l : List Dat) : padLast k fd (c ++ [l]) = c ++ [padRep k fd l] := by
  simp [padLast]
theorem padRep_int (k : Nat) (i : Int) (t : List Dat) : padRep k (.int i) t = t ++ List.replicate (k - t.length) (.int i) := rfl
theorem padRep_str (k : Nat) (x : Str) (t : List Dat) : padRep k (.str x) t = t ++ List.replicate (k - t.length) (.str x) := rfl
theorem range_k {len k : Nat} (hl : len ≤ 9) (h1 : 1 ≤ k) (h5 : k ≤ 5) : Builtin.Range.rangeSize 0 (len : Nat) (k : Nat) = (((len + k - 1) / k : Nat) : Int) ∧ Builtin.Range.small 0 (len : Nat) (k : Nat) = true ∧ (len + k - 1) / k ≤ 9 := by
  refine ⟨?_, ?_, ?_⟩
  · rw [rangeSize_pos (by omega) (by omega)]
    have e : ((len : Int) + (k : Int) - 1) = ((len + k - 1 : Nat) : Int) := by omega
    rw [e, Int.natCast_ediv]
  · match k, h1, h5 with
    | 1, _, _ | 2, _, _ | 3, _, _ | 4, _, _ | 5, _, _ =>
      match len, hl with
      | 0, _ | 1, _ | 2, _ | 3, _ | 4, _ | 5, _ | 6, _ | 7, _ | 8, _ | 9, _ => decide
  · match k, h1, h5 with
    | 1, _, _ | 2, _, _ | 3, _, _ | 4, _, _ | 5, _, _ => omega
theorem batches_K (w : World) (rest : List (Addr × Obj)) (R : Addr) (rvs : List Value) (n : Nat) (ds : List Dat) (many : Int) (t : Tok) (fill : Value) (fd : Dat) (hR : DatAll [] rvs ds) (hok : ∀ d ∈ ds, kqdOk 7 d = true) (hlen : ds.length ≤ 9) (hm0 : 1 ≤ many) (hm1 : many ≤ 5) (hRr : ∀ p ∈ rest, p.1 ≠ R)
    (hf : (fill = .none ∧ fd = .none) ∨ (∃ i t, fill = .int i t ∧ fd = .int i) ∨ (∃ x t, fill = .str x t ∧ fd = .str x)) :
    Says w 340 20 1200 [.ref R, .int many t, fill] ((R, listOf rvs.toArray n) :: rest) (fun news' v' => ∃ J vs k outs, v' = .ref J ∧ news' = (J, listOf vs.toArray k) :: outs ++ (R, listOf rvs.toArray n) :: rest ∧ Off1 J (outs ++ (R, listOf rvs.toArray n) :: rest) ∧ (∀ q ∈ outs, AllLt q.1 ((R, listOf rvs.toArray n) :: rest)) ∧ DatAll outs vs ((batchesD many.toNat fd ds).map .list)) := by
  intro p loose mean mg mb dp un gd cn cs a ccd cl outer A₀ base h₀ L m s Q E B F X N T hk hd hu hret
  revert X; k_fill; intro X
  refine wpAny_call ?_
  walk_at "enter"
  have hvl := hR.length
  k_steps
  rename_i g' L' hA tkA FG F0 B' X' T' la lb lc ld c1 c2 dc1 dc2 N0 h' tkB t1 t2 t3 hr F' N' up
  obtain ⟨k, rfl⟩ : ∃ k : Nat, many = k := ⟨many.toNat, by omega⟩
  rw [hvl] at hr
  obtain ⟨hn, hsm, hn9⟩ := range_k (k := k) hlen (by omega) (by omega)
  generalize hNN : (ds.length + k - 1) / k = NN at hn hn9
  refine SrcJ.range (J := fun i ys nw => ∃ outs, nw = outs ++ ((L' + 1 + 1, c1) :: (L' + 1, c2) :: (R, listOf rvs.toArray n) :: rest) ∧ (∀ q ∈ outs, AllLt q.1 ((R, listOf rvs.toArray n) :: rest)) ∧ DatAll outs ys ((chunksD k ds i).map .list)) rfl F' N' hr hsm hn (by omega) ⟨[], rfl, (fun _ h => nomatch h), .nil⟩ ?_ ?_
  · intro g i v I oI C oC D m₂ h tk ys nw E' hi hyl hP hJ hoC hm₂ F1 N1 off hne
    obtain ⟨outs, rfl, hol, hys⟩ := hJ
    obtain ⟨vt, rfl⟩ := hP
    refine wpAny_tests_nil ?_
    simp only [if_true]
    obtain ⟨x, hx0, hxk, hxe⟩ : ∃ x : Int, 0 ≤ x ∧ x.toNat = i * k ∧ (0 : Int) + (i : Int) * (k : Int) = x := ⟨((i * k : Nat) : Int), by omega, by omega, by simp⟩
    rw [hxe] at hm₂
    clear hxe hr hn hsm hn9 hNN
    k_steps
    rename_i D9 h9 z9 hz9 hzl9 F9 N9 lt9
    have hz : z9 = (rvs.drop (i * k)).take k := by
      rw [hz9, pick_run rvs hx0 (by omega), hxk]
      congr 1
      omega
    refine TurnJ.intro ((D9, listOf z9.toArray 0) :: (outs ++ ((L' + 1 + 1, c1) :: (L' + 1, c2) :: (R, listOf rvs.toArray n) :: rest))) (by with_reducible assumption) (by with_reducible assumption) (by k_sub) ⟨⟨Nat.ne_of_gt lt9.1, Nat.ne_of_gt lt9.2.1, Nat.ne_of_gt lt9.2.2.1⟩, off⟩ ⟨(D9, listOf z9.toArray 0) :: outs, rfl, List.forall_mem_cons.mpr ⟨(allLt_app.mp lt9.2.2.2).2.2.2, hol⟩, ?_⟩
    rw [chunksD_succ, List.map_append]
    refine (hys.mono fun p hp => .tail _ hp).append (.one (.list (.head _) ?_))
    rw [hz]
    exact (datTake (datDrop hR _) _).mono subNil
  · intro D ys nw h tk F1 N1 o1 hJ
    clear hr hn hsm
    obtain ⟨outs, rfl, hol, hys⟩ := hJ
    have hbd : batchesD k fd ds = padLast k fd (chunksD k ds NN) := by rw [batchesD, hNN]
    have hcl := hys.length
    rw [List.length_map, chunksD, List.length_map, List.length_range] at hcl
    have hokc : ∀ d ∈ (chunksD k ds NN).map Dat.list, kqdOk 8 d = true := by
      intro d hd
      obtain ⟨c, hc, rfl⟩ := List.mem_map.mp hd
      obtain ⟨j, _, rfl⟩ := List.mem_map.mp hc
      show List.all _ _ = true
      exact List.all_eq_true.mpr fun e he => hok e (List.mem_of_mem_drop (List.mem_of_mem_take he))
    have hcl5 : ∀ l ∈ chunksD k ds NN, l.length ≤ 9 := by
      intro l hl
      obtain ⟨j, _, rfl⟩ := List.mem_map.mp hl
      rw [List.length_take, List.length_drop]; omega
    generalize chunksD k ds NN = c at hys hbd hokc hcl5
    clear hNN
    rcases List.eq_nil_or_concat c with rfl | ⟨c', l, rfl⟩
    · cases hys
      k_steps
      refine hret _ ((D, listOf (List.toArray []) 0) :: outs ++ (R, listOf rvs.toArray n) :: rest) _ _ ⟨D, [], 0, outs, rfl, rfl, off1_cut o1, hol, ?_⟩ (by with_reducible assumption) (cb_drop (by with_reducible assumption) (subCons (by k_mem) (subMid (fun p hp => .tail _ (.tail _ (List.mem_append.mpr (.inl hp)))) fun p hp => .tail _ (.tail _ (List.mem_append.mpr (.inr (.tail _ (.tail _ hp))))))))
      rw [show ((k : Int)).toNat = k by omega, hbd]
      exact .nil
    · simp only [List.concat_eq_append] at hys hbd hokc hcl5
      rw [List.map_append] at hys hokc
      obtain ⟨ys', v, rfl, hys', hv⟩ := datSnoc hys
      cases hv
      rename_i A zs kz hA hzs
      have hll := hcl5 l (by simp)
      have hzl := hzs.length
      have hnd : ∀ {x : List Dat}, decide (x ++ List.map Dat.list [l] = []) = true → False := by intro x h; simp at h
      have hyl9 : ys'.length ≤ 9 := by rw [List.length_append, List.length_singleton] at hcl; omega
      rcases hf with ⟨rfl, rfl⟩ | ⟨fi, ft, rfl, rfl⟩ | ⟨fx, ft, rfl, rfl⟩
      · k_steps
        · exact (hnd (by with_reducible assumption)).elim
        · refine hret _ ((D, listOf (ys' ++ [Value.ref A]).toArray (ys' ++ [Value.ref A]).length) :: outs ++ (R, listOf rvs.toArray n) :: rest) _ _ ⟨D, _, _, outs, rfl, rfl, off1_cut o1, hol, ?_⟩ (by with_reducible assumption) (cb_drop (by with_reducible assumption) (subCons (by k_mem) (subMid (fun p hp => .tail _ (.tail _ (List.mem_append.mpr (.inl hp)))) fun p hp => .tail _ (.tail _ (List.mem_append.mpr (.inr (.tail _ (.tail _ hp))))))))
          rw [show ((k : Int)).toNat = k by omega, hbd, padLast_snoc, List.map_append]
          exact hys
      · have N1' : News g' L' h ((D, lst (ys' ++ [Value.ref A])) :: (L' + 1 + 1, c1) :: (L' + 1, c2) :: (outs ++ (R, listOf rvs.toArray n) :: rest)) := cb_drop N1 (subCons (by k_mem) (subCons (by k_mem) (subCons (by k_mem) (subMid (fun p hp => .tail _ (List.mem_append.mpr (.inl hp))) fun p hp => .tail _ (List.mem_append.mpr (.inr (.tail _ (.tail _ hp))))))))
        have oD1 : @Ne Nat (L' + 1 + 1) D := off1_ne o1 (L' + 1 + 1, c1) (by k_mem)
        have oD2 : @Ne Nat (L' + 1) D := off1_ne o1 (L' + 1, c2) (by k_mem)
        have oT : ∀ p ∈ outs ++ (R, listOf rvs.toArray n) :: rest, p.1 ≠ D := off1_ne (off1_cut o1)
        have hA' : (A, listOf zs.toArray kz) ∈ outs ++ (R, listOf rvs.toArray n) :: rest := List.mem_append.mpr (.inl hA)
        have hysO : True → DatAll outs ys' (c'.map .list) := fun _ => hys'
        replace hys := hys.mono (fun p hp => List.mem_append.mpr (.inl hp) : ∀ p ∈ outs, p ∈ outs ++ (R, listOf rvs.toArray n) :: rest)
        clear N1 o1 hys'
        generalize htl : outs ++ (R, listOf rvs.toArray n) :: rest = tl at N1' oT hA' hys
        k_steps
        · exact (hnd (by with_reducible assumption)).elim
        · rename_i E1 hE FE NE ltE h9 F9 N9 kF kN kT kX
          subst htl
          refine hret _ ((D, listOf (ys' ++ [Value.ref E1]).toArray (ys' ++ [Value.ref A]).length) :: ((E1, listOf (zs ++ List.replicate ((k : Int) - (zs.length : Int)).toNat (Value.int fi ft)).toArray 0) :: outs) ++ (R, listOf rvs.toArray n) :: rest) _ _ ⟨D, _, _, (E1, _) :: outs, rfl, rfl, ⟨Nat.ne_of_gt ltE.2.2.2.1, off1_of oT⟩, List.forall_mem_cons.mpr ⟨(allLt_app.mp ltE.2.2.2.2.2.2).2, hol⟩, ?_⟩ kF (cb_drop kN (subCons (by k_mem) (subCons (by k_mem) fun p hp => .tail _ (.tail _ (.tail _ (.tail _ (.tail _ (.tail _ (.tail _ hp)))))))))
          rw [show ((k : Int)).toNat = k by omega, hbd, padLast_snoc, List.map_append]
          refine ((hysO trivial).mono fun p hp => .tail _ hp).append (.one (.list (.head _) ?_))
          rw [padRep_int]
          refine (hzs.mono fun p hp => .tail _ hp).append ?_
          rw [show ((k : Int) - (zs.length : Int)).toNat = k - l.length by omega]
          exact datRep (by constructor) _
      · have N1' : News g' L' h ((D, lst (ys' ++ [Value.ref A])) :: (L' + 1 + 1, c1) :: (L' + 1, c2) :: (outs ++ (R, listOf rvs.toArray n) :: rest)) := cb_drop N1 (subCons (by k_mem) (subCons (by k_mem) (subCons (by k_mem) (subMid (fun p hp => .tail _ (List.mem_append.mpr (.inl hp))) fun p hp => .tail _ (List.mem_append.mpr (.inr (.tail _ (.tail _ hp))))))))
        have oD1 : @Ne Nat (L' + 1 + 1) D := off1_ne o1 (L' + 1 + 1, c1) (by k_mem)
        have oD2 : @Ne Nat (L' + 1) D := off1_ne o1 (L' + 1, c2) (by k_mem)
        have oT : ∀ p ∈ outs ++ (R, listOf rvs.toArray n) :: rest, p.1 ≠ D := off1_ne (off1_cut o1)
        have hA' : (A, listOf zs.toArray kz) ∈ outs ++ (R, listOf rvs.toArray n) :: rest := List.mem_append.mpr (.inl hA)
        have hysO : True → DatAll outs ys' (c'.map .list) := fun _ => hys'
        replace hys := hys.mono (fun p hp => List.mem_append.mpr (.inl hp) : ∀ p ∈ outs, p ∈ outs ++ (R, listOf rvs.toArray n) :: rest)
        clear N1 o1 hys'
        generalize htl : outs ++ (R, listOf rvs.toArray n) :: rest = tl at N1' oT hA' hys
        k_steps
        · exact (hnd (by with_reducible assumption)).elim
        · rename_i E1 hE FE NE ltE h9 F9 N9 kF kN kT kX
          subst htl
          refine hret _ ((D, listOf (ys' ++ [Value.ref E1]).toArray (ys' ++ [Value.ref A]).length) :: ((E1, listOf (zs ++ List.replicate ((k : Int) - (zs.length : Int)).toNat (Value.str fx ft)).toArray 0) :: outs) ++ (R, listOf rvs.toArray n) :: rest) _ _ ⟨D, _, _, (E1, _) :: outs, rfl, rfl, ⟨Nat.ne_of_gt ltE.2.2.2.1, off1_of oT⟩, List.forall_mem_cons.mpr ⟨(allLt_app.mp ltE.2.2.2.2.2.2).2, hol⟩, ?_⟩ kF (cb_drop kN (subCons (by k_mem) (subCons (by k_mem) fun p hp => .tail _ (.tail _ (.tail _ (.tail _ (.tail _ (.tail _ (.tail _ hp)))))))))
          rw [show ((k : Int)).toNat = k by omega, hbd, padLast_snoc, List.map_append]
          refine ((hysO trivial).mono fun p hp => .tail _ hp).append (.one (.list (.head _) ?_))
          rw [padRep_str]
          refine (hzs.mono fun p hp => .tail _ hp).append ?_
          rw [show ((k : Int) - (zs.length : Int)).toNat = k - l.length by omega]
          exact datRep (by constructor) _
end
end
end
end
section
local macro_rules | `(tactic| walk_at "compareOp Eq ref ref") => `(tactic| (k_here; k_dflt (refine' eq_nil ?N ?a ?b ?d ?k ?u ?_; (case N => k_asm); (case a => k_mem); (case b => k_mem); (case d => with_reducible assumption); (case k => with_reducible assumption); (case u => units_room))))
local macro_rules | `(tactic| walk_at "call builtin:list.append") => `(tactic| (k_here; k_dflt (refine' append_L ?F ?N ?U ?z ?_; (case F => k_asm); (case N => k_asm); (case U => k_upd); (case z => walk_at "size")); intro h9 F9 N9))
section
local macro_rules | `(tactic| walk_at "inplaceOp Add ref") => `(tactic| (k_here; (with_reducible show wpAny _ _ (inplaceOp Operator.Add (Value.ref _) (Value.ref _)) _ _ _); k_dflt (refine' iadd_L ?F ?N ?b ?e ?U ?z ?_; (case F => k_asm); (case N => k_asm); (case b => k_mem); (case U => k_upd); (case e => (simp only [List.length_replicate]; omega)); (case z => (simp only [List.length_replicate]; omega))); intro h9 F9 N9))
local macro_rules | `(tactic| walk_at "binaryOp Mult ref int") => `(tactic| (k_here; (with_reducible show wpAny _ _ (binaryOp Operator.Mult (Value.ref _) (Value.int _ _)) _ _ _); k_dflt (refine' mul1_L ?F ?N ?l ?lo ?hi ?_; (case F => k_asm); (case N => k_asm); (case l => k_mem); (case lo => omega); (case hi => omega)); intro D' h' F' N' l1; (try k_lt l1)))
local macro_rules | `(tactic| walk_at "call type:list") => `(tactic| (k_here; (with_reducible show wpAny _ _ (call (Value.type _) [Value.ref _]) _ _ _); k_dflt (refine' copy_L ?F ?N ?b ?z ?_; (case F => k_asm); (case N => k_asm); (case b => k_mem); (case z => walk_at "size")); intro D' c' h' F' N' l1; (try k_lt l1)))
local macro_rules | `(tactic| walk_at "subscriptTail") => `(tactic| (k_here; (with_reducible show wpAny _ _ (subscriptTail _ _ (Value.ref _) (Value.int (-1) _)) _ _ _); k_dflt (refine' last_L ?N ?m ?z ?_ ?hs; (case N => k_asm); (case m => k_mem); (case z => (try simp only [List.length_cons, List.length_nil, List.length_append]); omega); (case hs => with_unfolding_all rfl))))
local macro_rules | `(tactic| walk_at "setItem ref int") => `(tactic| (k_here; (with_reducible show wpAny _ _ (setItem (Value.ref _) (Value.int (-1) _) _) _ _ _); k_dflt (refine' setlast_L ?F ?N ?U ?_; (case F => k_asm); (case N => k_asm); (case U => k_upd)); intro h9 F9 N9))
local macro_rules | `(tactic| walk_at "subscriptTail Name UnaryOp ref int") => `(tactic| (k_here; (with_reducible show wpAny _ _ (subscriptTail _ _ (Value.ref _) (Value.int (-1) _)) _ _ _); k_dflt (refine' last_L ?N ?m ?z ?_ ?hs; (case N => k_asm); (case m => k_mem); (case z => (try simp only [List.length_cons, List.length_nil, List.length_append]); omega); (case hs => with_unfolding_all rfl))))
section
def chunkD (k : Nat) (a : List (List Dat) × List Dat) (d : Dat) : List (List Dat) × List Dat := if a.2.length = k then (a.1 ++ [a.2], [d]) else (a.1, a.2 ++ [d])
def fillD (k : Nat) : Dat → List Dat → List Dat
  | .none, t => t
  | fd, t => if t.length < k then t ++ List.replicate (k - t.length) fd else t
theorem fillD_int (k : Nat) (i : Int) (t : List Dat) : fillD k (.int i) t = if t.length < k then t ++ List.replicate (k - t.length) (.int i) else t := rfl
theorem fillD_str (k : Nat) (x : Str) (t : List Dat) : fillD k (.str x) t = if t.length < k then t ++ List.replicate (k - t.length) (.str x) else t := rfl
def batchD (k : Nat) (fd : Dat) (ds : List Dat) : List (List Dat) := let a := ds.foldl (chunkD k) ([], []); if a.2.isEmpty then a.1 else a.1 ++ [fillD k fd a.2]
theorem mapNorm2 {x : Str} (u v : Option Value) (f : Str → Option Value) : (fun z => if z = x then v else if z = x then u else f z) = fun z => if z = x then v else f z := by
  funext z
  by_cases h : z = x <;> simp [h]
abbrev batchMap (R : Addr) (many : Int) (t : Tok) (fill : Value) : Str → Option Value := fun y => List.lookup y [(Str.ofString "fill_with", fill), (Str.ofString "linecount", .int many t), (Str.ofString "value", .ref R)]
theorem push_fin {α : Type} (a : Array α) (x y : α) : (a.push x).setIfInBounds a.size y = a.push y := by
  apply Array.ext
  · simp
  · intro i h1 h2
    have h4 : i < (a.push x).size := by rw [Array.size_push] at h2 ⊢; omega
    rw [Array.getElem_setIfInBounds (hj := h4)]
    by_cases e : a.size = i
    · subst e; simp
    · have h3 : i < a.size := by rw [Array.size_push] at h2; omega
      rw [if_neg e, Array.getElem_push_lt h3, Array.getElem_push_lt h3]
section
variable {w : World} {p : Program} {loose : List Str} {mean : ExcName → Option Value} {mg mb : Str → Option Value}
    {dp un : Nat} {gd : Option (List Code)} {cn : Str} {cs : Scope} {a : Addr} {ccd : Value} {cl : List (Str × Addr)} {outer : List Env} {A₀ : Around} {base h₀ : Heap} {L : Addr} {m : Str → Option Value} {s : Shared} {Q E : Value → Shared → Prop} {news : List (Addr × Obj)}
theorem batch_call {R : Addr} {rs : List Value} {n : Nat} {many : Int} {t : Tok} {fill : Value} {ds : List Dat} {fd : Dat} {mF : Addr → Str → Option Value}
    (B : Below A₀ base outer h₀) (F : Fr h₀ L s.heap m) (X : (hd1.heap_39 w.params).In h₀) (N : News h₀ L s.heap news) (T : Top p loose mean mg mb h₀) (hk : cs.kind = .function) (hd : dp + 20 < recursionLimit) (hu : un + 1200 < cLine)
    (hm : (R, listOf rs.toArray n) ∈ news) (hrs : DatAll [] rs ds) (hlen : ds.length ≤ 9) (hm0 : 1 ≤ many) (hm1 : many ≤ 5) (hf : (fill = .none ∧ fd = .none) ∨ (∃ i t, fill = .int i t ∧ fd = .int i) ∨ (∃ x t, fill = .str x t ∧ fd = .str x))
    (fin : ∀ D ys outs h tk, Fr h₀ L h (mF D) → News h₀ L h ((D, lst ys) :: (outs ++ news)) → Off1 D (outs ++ news) → DatAll outs ys ((batchD many.toNat fd ds).map .list) → Q (.ref D) { s with heap := h, toks := tk, gens := s.gens.push .finished }) :
    wpAny (model PySem.Challenge.rw_bb0048_01.row.prog w) (ktrTop dp un gd cn cs L a ccd cl outer) (call (.ref 289) [.ref R, .int many t, fill]) (SrcG PySem.Challenge.rw_bb0048_01.row.prog w (ktrTop dp un gd cn cs L a ccd cl outer) h₀ L m mF Q) E s := by
  revert X; k_fill; intro X
  refine wpAny_call ?_
  refine' code_gen ?k1 ?k2 ?k3 ?k4 ?k5 ?kA ?kF ?kK ?k6 ?k7 ?k8 ?k9 ?kB ?_ ?c1 ?c2 ?c3 ?c4; (case kA => exact rfl); (case kF => exact rfl); (case kK => first | assumption | exact rfl); (case k1 => k_asm); (case k2 => k_asm); (case k3 => k_asm); (case k4 => k_asm); (case k5 => k_asm); (case k6 => k_is); (case k7 => k_is); (case k8 => first | walk_at "room" | ktr_room); (case k9 => first | exact BindsTo.of_eq rfl | exact binds_K (by k_in) rfl (by k_is) rfl rfl rfl); (case kB => exact locs rfl); (case c1 => decide); (case c2 => exact rfl); (case c3 => exact rfl); (case c4 => exact rfl)
  k_whole
  intro g L' G h₂ tk nm qn FG F' N' B' X' T' l1 l2 l3
  dsimp only
  replace F' : Fr g L' h₂ (batchMap R many t fill) := F'
  refine ⟨G, s.gens.size, nm, qn, _, g, L', _, news, fun ys led => ∃ outs, led = outs ++ news ∧ DatAll outs ys ((batchD many.toNat fd ds).map .list), rfl, T'.nolimit, Array.getElem?_push_size, FG, F', N', fun p hp => Nat.ne_of_lt (l2 p hp), ?_, ?_⟩
  · intro D C oC mC h tk hoC F1 N1 off hDC hDG hCG hlD hlC
    generalize (Shared.setGen _ _ _) = sr
    refine ⟨ds.length + 2, seg_func ?_⟩
    refine seg_execs_cons (seg_plain ?_)
    k_steps
    rename_i T0 h1 l4 h2 F2 N2
    have hlr := hrs.length
    refine seg_execs_cons (seg_forList (ax := R) (vs := rs) (k := n) (J := fun i m₁ nw n' => ∃ u T tmp kk outs ys oC mC, m₁ = (fun y => if y = Str.ofString "item" then u else if y = Str.ofString "tmp" then some (Value.ref T) else batchMap R many t fill y) ∧ nw = (T, listOf tmp.toArray kk) :: (outs ++ ((D, lst ys) :: (C, oC) :: (G, gobjOf s.gens.size nm qn) :: news)) ∧ NsObj oC mC ∧ AllLt T outs ∧ Off3 G C D outs ∧ n' + i ≥ ds.length + 2 ∧ @LT.lt Nat _ D T ∧ @LT.lt Nat _ C T ∧ @LT.lt Nat _ G T ∧ AllLt T news ∧ tmp.length ≤ i ∧ ys.length ≤ i ∧ ∃ tds, DatAll [] tmp tds ∧ DatAll outs ys (((ds.take i).foldl (chunkD many.toNat) ([], [])).1.map .list) ∧ tds = ((ds.take i).foldl (chunkD many.toNat) ([], [])).2) rfl (fun _ _ => rfl) F2 N2 (by k_mem) ?_ ⟨none, T0, [], 0, [], [], oC, mC, ?_, rfl, hoC, trivial, trivial, by omega, l4.1, l4.2.1, l4.2.2.1, l4.2.2.2, Nat.le_refl _, Nat.le_refl _, [], .nil, .nil, rfl⟩ ?_ ?_ ?_)
    · rintro j m nw n' ⟨u, T, tmp, kk, outs, ys, oC, mC, rfl, rfl, _⟩
      refine .tail _ (List.mem_append.mpr (.inr ?_))
      k_mem
    · funext y
      by_cases e : y = Str.ofString "item"
      · subst e; rfl
      · simp [e]
    · k_steps
    · intro I p i v oI h tk m₁ nw n' s₀ hi hv hJ F3 N3 off3 ih
      obtain ⟨u, T, tmp, kk, outs, ys, oC2, mC2, hm₁, hnw, hoC2, hTo, ho3, hn', hDT, hCT, hGT, hTn, htl, hyl, tds, htmp, hys, htds⟩ := hJ
      subst hm₁ hnw
      k_steps
      have hTI : @Ne Nat T I := off3 (T, listOf tmp.toArray kk) (.head _)
      have hrI : ∀ p ∈ outs ++ ((D, lst ys) :: (C, oC2) :: (G, gobjOf s.gens.size nm qn) :: news), p.1 ≠ I := fun p hp => off3 p (.tail _ hp)
      have hrT : AllLt T (outs ++ ((D, lst ys) :: (C, oC2) :: (G, gobjOf s.gens.size nm qn) :: news)) := allLt_app.mpr ⟨hTo, hDT, hCT, hGT, hTn⟩
      have hrTne := allLt_ne hrT
      have htdl := htmp.length
      have hil : i < 9 := by omega
      obtain ⟨d, hd1, hdv⟩ := datAt hrs hv
      have htk : (ds.take (i + 1)).foldl (chunkD many.toNat) ([], []) = chunkD many.toNat ((ds.take i).foldl (chunkD many.toNat) ([], [])) d := by
        rw [List.take_add_one, hd1]; simp
      rw [htk] at ih
      clear htk
      generalize (ds.take i).foldl (chunkD many.toNat) ([], []) = ac at hys htds ih
      refine seg_execs_cons (seg_If ?_)
      k_steps
      · rename_i hcmp
        obtain ⟨k, rfl⟩ : ∃ k, n' = k + 1 := ⟨n' - 1, by omega⟩
        refine seg_execs_cons (seg_Expr_Yield rfl rfl rfl ?_)
        k_steps
        rename_i h4 F4 N4 kap hkap
        refine ⟨_, _, _, ys, oC2, mC2, (T, listOf tmp.toArray kk) :: (I, oI) :: (outs ++ news), rfl, F4, hoC2, cb_drop N4 ?_, ?_, by omega, fun h5 tk5 oC5 mC5 hoC5 F5 N5 => hkap .none _ ?_⟩
        · refine subCons (by k_mem) (subCons (by k_mem) (subCons (by k_mem) (subCons (by k_mem) (subCons (by k_mem) (subMid (fun p hp => ?_) fun p hp => ?_)))))
          · exact .tail _ (.tail _ (List.mem_append.mpr (.inl hp)))
          · exact .tail _ (.tail _ (List.mem_append.mpr (.inr (.tail _ (.tail _ (.tail _ hp))))))
        · refine ⟨⟨Nat.ne_of_gt hGT, Nat.ne_of_gt hCT, Nat.ne_of_gt hDT⟩, ⟨Ne.symm (hrI (G, _) (by k_mem)), Ne.symm (hrI (C, _) (by k_mem)), Ne.symm (hrI (D, _) (by k_mem))⟩, Off3.of fun p hp => ?_⟩
          rcases List.mem_append.mp hp with hp | hp
          · exact ho3.mem p hp
          · exact off.mem p hp
        dsimp only
        have hoI : ∀ p ∈ outs ++ news, p.1 ≠ I := fun p hp => by
          rcases List.mem_append.mp hp with hp | hp
          · exact hrI p (List.mem_append.mpr (.inl hp))
          · exact hrI p (List.mem_append.mpr (.inr (.tail _ (.tail _ (.tail _ hp)))))
        refine seg_execs_cons (seg_plain ?_)
        generalize hon : outs ++ news = on at *
        k_steps
        rename_i T2 h6 lt6 h7 F7 N7
        have hon2 := allLt_ne lt6.2.2.2.2.2
        refine seg_execs_nil ?_
        dsimp only
        refine seg_execs_cons (seg_plain ?_)
        k_steps
        rename_i h8 F8 N8
        refine seg_execs_nil (seg_again rfl ?_)
        have hac : chunkD many.toNat ac d = (ac.1 ++ [ac.2], [d]) := by
          unfold chunkD
          rw [if_pos (by rw [← htds]; omega)]
        subst hon
        refine ih _ _ _ ((T2, listOf [v].toArray 1) :: ((T, listOf tmp.toArray kk) :: outs ++ ((D, lst (ys ++ [Value.ref T])) :: (C, oC5) :: (G, gobjOf s.gens.size nm qn) :: news))) _ _ F8 (cb_drop N8 ?_) ?_ ⟨some v, T2, [v], 1, (T, listOf tmp.toArray kk) :: outs, ys ++ [.ref T], oC5, mC5, mapNorm1 (by decide) _ _ _ _ _, rfl, hoC5, ⟨lt6.2.2.2.1, (allLt_app.mp lt6.2.2.2.2.2).1⟩, ⟨⟨Nat.ne_of_gt hGT, Nat.ne_of_gt hCT, Nat.ne_of_gt hDT⟩, ho3⟩, by omega, lt6.1, lt6.2.1, lt6.2.2.1, (allLt_app.mp lt6.2.2.2.2.2).2, by simp, by simp; omega, [d], .one hdv, ?_, by rw [hac]⟩
        · refine subCons (by k_mem) (subCons (by k_mem) (subCons (by k_mem) (subMid (fun p hp => ?_) fun p hp => ?_)))
          · exact .tail _ (.tail _ (.tail _ (.tail _ (.tail _ (.tail _ (List.mem_append.mpr (.inl hp)))))))
          · revert p
            exact subCons (by k_mem) (subCons (by k_mem) (subCons (by k_mem) fun p hp => .tail _ (.tail _ (.tail _ (.tail _ (.tail _ (.tail _ (List.mem_append.mpr (.inr hp)))))))))
        · refine List.forall_mem_cons.mpr ⟨Nat.ne_of_gt lt6.2.2.2.2.1, List.forall_mem_cons.mpr ⟨hTI, fun p hp => ?_⟩⟩
          rcases List.mem_append.mp hp with hp | hp
          · exact hoI p (List.mem_append.mpr (.inl hp))
          · rcases List.mem_cons.mp hp with rfl | hp
            · exact hrI (D, lst ys) (by k_mem)
            · rcases List.mem_cons.mp hp with rfl | hp
              · exact hrI (C, oC2) (by k_mem)
              · rcases List.mem_cons.mp hp with rfl | hp
                · exact hrI (G, gobjOf s.gens.size nm qn) (by k_mem)
                · exact hoI p (List.mem_append.mpr (.inr hp))
        · rw [hac]
          simp only [List.map_append, List.map_cons, List.map_nil]
          exact (hys.mono fun p hp => .tail _ hp).append (.one (.list (.head _) (by rw [← htds]; exact htmp.mono subNil)))
      · rename_i hcmp
        refine seg_execs_nil ?_
        dsimp only
        refine seg_execs_cons (seg_plain ?_)
        generalize hrs : outs ++ ((D, lst ys) :: (C, oC2) :: (G, gobjOf s.gens.size nm qn) :: news) = rst at *
        k_steps
        rename_i h8 F8 N8
        refine seg_execs_nil (seg_again rfl ?_)
        have hac : chunkD many.toNat ac d = (ac.1, ac.2 ++ [d]) := by
          unfold chunkD
          rw [if_neg (by rw [← htds]; omega)]
        subst hrs
        refine ih _ _ _ ((T, listOf (tmp ++ [v]).toArray (kk + 1)) :: (outs ++ ((D, lst ys) :: (C, oC2) :: (G, gobjOf s.gens.size nm qn) :: news))) _ _ F8 N8 ?_ ⟨some v, T, tmp ++ [v], kk + 1, outs, ys, oC2, mC2, mapNorm2 _ _ _, rfl, hoC2, hTo, ho3, by omega, hDT, hCT, hGT, hTn, by simp; omega, by omega, tds ++ [d], htmp.append (.one hdv), by rw [hac]; exact hys, by rw [hac, htds]⟩
        exact List.forall_mem_cons.mpr ⟨hTI, hrI⟩
    · intro h tk m nw n' s₀ F3 N3 hJ
      obtain ⟨u, T, tmp, kk, outs, ys, oC2, mC2, hm₁, hnw, hoC2, hTo, ho3, hn', hDT, hCT, hGT, hTn, htl, hyl, tds, htmp, hys, htds⟩ := hJ
      subst hm₁ hnw
      dsimp only
      refine seg_execs_cons (seg_If ?_)
      have hrT : AllLt T (outs ++ ((D, lst ys) :: (C, oC2) :: (G, gobjOf s.gens.size nm qn) :: news)) := allLt_app.mpr ⟨hTo, hDT, hCT, hGT, hTn⟩
      have hrTne := allLt_ne hrT
      rw [hlr, List.take_length] at hys htds
      generalize hac : ds.foldl (chunkD many.toNat) ([], []) = ac at hys htds
      have hbd : batchD many.toNat fd ds = if ac.2.isEmpty then ac.1 else ac.1 ++ [fillD many.toNat fd ac.2] := by
        unfold batchD; rw [hac]
      have htdl := htmp.length
      k_steps
      · rename_i hem
        refine seg_execs_nil ?_
        dsimp only
        refine seg_execs_nil ?_
        dsimp only
        refine seg_end (.ok (.ret .none)) ⟨rfl, _, _, _, ys, oC2, mC2, outs ++ news, rfl, F3, hoC2, cb_drop N3 ?_, ?_, outs, rfl, ?_⟩
        · refine subCons (by k_mem) (subCons (by k_mem) (subCons (by k_mem) (subMid (fun p hp => ?_) fun p hp => ?_)))
          · exact .tail _ (List.mem_append.mpr (.inl hp))
          · exact .tail _ (List.mem_append.mpr (.inr (.tail _ (.tail _ (.tail _ hp)))))
        · refine Off3.of fun p hp => ?_
          rcases List.mem_append.mp hp with hp | hp
          · exact ho3.mem p hp
          · exact off.mem p hp
        · rw [hbd, if_pos]
          · exact hys
          · rw [← htds]
            cases tmp with
            | nil => cases htmp; rfl
            | cons _ _ => cases hem
      · rename_i hem
        obtain ⟨k, rfl⟩ : ∃ k, n' = k + 1 := ⟨n' - 1, by omega⟩
        refine seg_execs_cons (seg_If ?_)
        generalize hrs : outs ++ ((D, lst ys) :: (C, oC2) :: (G, gobjOf s.gens.size nm qn) :: news) = rst at *
        rcases hf with ⟨rfl, rfl⟩ | ⟨fi, ft, rfl, rfl⟩ | ⟨fx, ft, rfl, rfl⟩
        · k_steps
          refine seg_execs_nil ?_
          dsimp only
          refine seg_execs_cons (seg_Expr_Yield rfl rfl rfl ?_)
          k_steps
          rename_i kap hkap
          refine ⟨_, _, _, ys, oC2, mC2, (T, listOf (tmp).toArray kk) :: (outs ++ news), rfl, by with_reducible assumption, hoC2, cb_drop (by with_reducible assumption) ?_, ⟨⟨Nat.ne_of_gt hGT, Nat.ne_of_gt hCT, Nat.ne_of_gt hDT⟩, ?_⟩, by omega, fun h5 tk5 oC5 mC5 hoC5 F5 N5 => hkap .none _ ?_⟩
          · subst hrs
            refine subCons (by k_mem) (subCons (by k_mem) (subCons (by k_mem) (subCons (by k_mem) (subMid (fun p hp => ?_) fun p hp => ?_))))
            · exact .tail _ (List.mem_append.mpr (.inl hp))
            · exact .tail _ (List.mem_append.mpr (.inr (.tail _ (.tail _ (.tail _ hp)))))
          · refine Off3.of fun p hp => ?_
            rcases List.mem_append.mp hp with hp | hp
            · exact ho3.mem p hp
            · exact off.mem p hp
          dsimp only
          refine seg_execs_nil ?_
          dsimp only
          refine seg_execs_nil ?_
          dsimp only
          refine seg_end (.ok (.ret .none)) ⟨rfl, _, _, _, ys ++ [.ref T], oC5, mC5, (T, listOf (tmp).toArray kk) :: (outs ++ news), rfl, F5, hoC5, N5, ⟨⟨Nat.ne_of_gt hGT, Nat.ne_of_gt hCT, Nat.ne_of_gt hDT⟩, ?_⟩, (T, listOf (tmp).toArray kk) :: outs, rfl, ?_⟩
          · refine Off3.of fun p hp => ?_
            rcases List.mem_append.mp hp with hp | hp
            · exact ho3.mem p hp
            · exact off.mem p hp
          · rw [hbd, if_neg]
            · simp only [List.map_append, List.map_cons, List.map_nil]
              refine (hys.mono fun p hp => .tail _ hp).append (.one (.list (.head _) ?_))
              rw [← htds]
              exact htmp.mono subNil
            · rw [← htds]
              cases tmp with
              | nil => cases hem
              | cons _ _ => cases htmp; exact Bool.false_ne_true
        · k_steps
          · refine seg_execs_cons (seg_plain ?_)
            k_steps
            refine seg_execs_nil ?_
            dsimp only
            refine seg_execs_cons (seg_Expr_Yield rfl rfl rfl ?_)
            k_steps
            rename_i kap hkap
            refine ⟨_, _, _, ys, oC2, mC2, (T, listOf (tmp ++ List.replicate (many - ↑tmp.length).toNat (Value.int fi ft)).toArray (kk + 1)) :: (outs ++ news), rfl, by with_reducible assumption, hoC2, cb_drop (by with_reducible assumption) ?_, ⟨⟨Nat.ne_of_gt hGT, Nat.ne_of_gt hCT, Nat.ne_of_gt hDT⟩, ?_⟩, by omega, fun h5 tk5 oC5 mC5 hoC5 F5 N5 => hkap .none _ ?_⟩
            · subst hrs
              refine subCons (by k_mem) (subCons (by k_mem) (subCons (by k_mem) (subCons (by k_mem) (subMid (fun p hp => ?_) fun p hp => ?_))))
              · exact .tail _ <| .tail _ <| .tail _ <| (List.mem_append.mpr (.inl hp))
              · exact .tail _ <| .tail _ <| .tail _ <| (List.mem_append.mpr (.inr (.tail _ (.tail _ (.tail _ hp)))))
            · refine Off3.of fun p hp => ?_
              rcases List.mem_append.mp hp with hp | hp
              · exact ho3.mem p hp
              · exact off.mem p hp
            dsimp only
            refine seg_execs_nil ?_
            dsimp only
            refine seg_execs_nil ?_
            dsimp only
            refine seg_end (.ok (.ret .none)) ⟨rfl, _, _, _, ys ++ [.ref T], oC5, mC5, (T, listOf (tmp ++ List.replicate (many - ↑tmp.length).toNat (Value.int fi ft)).toArray (kk + 1)) :: (outs ++ news), rfl, F5, hoC5, N5, ⟨⟨Nat.ne_of_gt hGT, Nat.ne_of_gt hCT, Nat.ne_of_gt hDT⟩, ?_⟩, (T, listOf (tmp ++ List.replicate (many - ↑tmp.length).toNat (Value.int fi ft)).toArray (kk + 1)) :: outs, rfl, ?_⟩
            · refine Off3.of fun p hp => ?_
              rcases List.mem_append.mp hp with hp | hp
              · exact ho3.mem p hp
              · exact off.mem p hp
            · rw [hbd, if_neg]
              · simp only [List.map_append, List.map_cons, List.map_nil]
                refine (hys.mono fun p hp => .tail _ hp).append (.one (.list (.head _) ?_))
                rw [← htds]
                first | rw [fillD_int] | rw [fillD_str]
                rw [if_pos (by omega)]; refine (htmp.append ?_).mono subNil; rw [show (many - ↑tmp.length).toNat = many.toNat - tds.length by omega]; exact datRep (by constructor) _
              · rw [← htds]
                cases tmp with
                | nil => cases hem
                | cons _ _ => cases htmp; exact Bool.false_ne_true
          · skip
            refine seg_execs_nil ?_
            dsimp only
            refine seg_execs_cons (seg_Expr_Yield rfl rfl rfl ?_)
            k_steps
            rename_i kap hkap
            refine ⟨_, _, _, ys, oC2, mC2, (T, listOf (tmp).toArray kk) :: (outs ++ news), rfl, by with_reducible assumption, hoC2, cb_drop (by with_reducible assumption) ?_, ⟨⟨Nat.ne_of_gt hGT, Nat.ne_of_gt hCT, Nat.ne_of_gt hDT⟩, ?_⟩, by omega, fun h5 tk5 oC5 mC5 hoC5 F5 N5 => hkap .none _ ?_⟩
            · subst hrs
              refine subCons (by k_mem) (subCons (by k_mem) (subCons (by k_mem) (subCons (by k_mem) (subMid (fun p hp => ?_) fun p hp => ?_))))
              · exact .tail _ (List.mem_append.mpr (.inl hp))
              · exact .tail _ (List.mem_append.mpr (.inr (.tail _ (.tail _ (.tail _ hp)))))
            · refine Off3.of fun p hp => ?_
              rcases List.mem_append.mp hp with hp | hp
              · exact ho3.mem p hp
              · exact off.mem p hp
            dsimp only
            refine seg_execs_nil ?_
            dsimp only
            refine seg_execs_nil ?_
            dsimp only
            refine seg_end (.ok (.ret .none)) ⟨rfl, _, _, _, ys ++ [.ref T], oC5, mC5, (T, listOf (tmp).toArray kk) :: (outs ++ news), rfl, F5, hoC5, N5, ⟨⟨Nat.ne_of_gt hGT, Nat.ne_of_gt hCT, Nat.ne_of_gt hDT⟩, ?_⟩, (T, listOf (tmp).toArray kk) :: outs, rfl, ?_⟩
            · refine Off3.of fun p hp => ?_
              rcases List.mem_append.mp hp with hp | hp
              · exact ho3.mem p hp
              · exact off.mem p hp
            · rw [hbd, if_neg]
              · simp only [List.map_append, List.map_cons, List.map_nil]
                refine (hys.mono fun p hp => .tail _ hp).append (.one (.list (.head _) ?_))
                rw [← htds]
                first | rw [fillD_int] | rw [fillD_str]
                rw [if_neg (by omega)]; exact htmp.mono subNil
              · rw [← htds]
                cases tmp with
                | nil => cases hem
                | cons _ _ => cases htmp; exact Bool.false_ne_true
        · k_steps
          · refine seg_execs_cons (seg_plain ?_)
            k_steps
            refine seg_execs_nil ?_
            dsimp only
            refine seg_execs_cons (seg_Expr_Yield rfl rfl rfl ?_)
            k_steps
            rename_i kap hkap
            refine ⟨_, _, _, ys, oC2, mC2, (T, listOf (tmp ++ List.replicate (many - ↑tmp.length).toNat (Value.str fx ft)).toArray (kk + 1)) :: (outs ++ news), rfl, by with_reducible assumption, hoC2, cb_drop (by with_reducible assumption) ?_, ⟨⟨Nat.ne_of_gt hGT, Nat.ne_of_gt hCT, Nat.ne_of_gt hDT⟩, ?_⟩, by omega, fun h5 tk5 oC5 mC5 hoC5 F5 N5 => hkap .none _ ?_⟩
            · subst hrs
              refine subCons (by k_mem) (subCons (by k_mem) (subCons (by k_mem) (subCons (by k_mem) (subMid (fun p hp => ?_) fun p hp => ?_))))
              · exact .tail _ <| .tail _ <| .tail _ <| (List.mem_append.mpr (.inl hp))
              · exact .tail _ <| .tail _ <| .tail _ <| (List.mem_append.mpr (.inr (.tail _ (.tail _ (.tail _ hp)))))
            · refine Off3.of fun p hp => ?_
              rcases List.mem_append.mp hp with hp | hp
              · exact ho3.mem p hp
              · exact off.mem p hp
            dsimp only
            refine seg_execs_nil ?_
            dsimp only
            refine seg_execs_nil ?_
            dsimp only
            refine seg_end (.ok (.ret .none)) ⟨rfl, _, _, _, ys ++ [.ref T], oC5, mC5, (T, listOf (tmp ++ List.replicate (many - ↑tmp.length).toNat (Value.str fx ft)).toArray (kk + 1)) :: (outs ++ news), rfl, F5, hoC5, N5, ⟨⟨Nat.ne_of_gt hGT, Nat.ne_of_gt hCT, Nat.ne_of_gt hDT⟩, ?_⟩, (T, listOf (tmp ++ List.replicate (many - ↑tmp.length).toNat (Value.str fx ft)).toArray (kk + 1)) :: outs, rfl, ?_⟩
            · refine Off3.of fun p hp => ?_
              rcases List.mem_append.mp hp with hp | hp
              · exact ho3.mem p hp
              · exact off.mem p hp
            · rw [hbd, if_neg]
              · simp only [List.map_append, List.map_cons, List.map_nil]
                refine (hys.mono fun p hp => .tail _ hp).append (.one (.list (.head _) ?_))
                rw [← htds]
                first | rw [fillD_int] | rw [fillD_str]
                rw [if_pos (by omega)]; refine (htmp.append ?_).mono subNil; rw [show (many - ↑tmp.length).toNat = many.toNat - tds.length by omega]; exact datRep (by constructor) _
              · rw [← htds]
                cases tmp with
                | nil => cases hem
                | cons _ _ => cases htmp; exact Bool.false_ne_true
          · skip
            refine seg_execs_nil ?_
            dsimp only
            refine seg_execs_cons (seg_Expr_Yield rfl rfl rfl ?_)
            k_steps
            rename_i kap hkap
            refine ⟨_, _, _, ys, oC2, mC2, (T, listOf (tmp).toArray kk) :: (outs ++ news), rfl, by with_reducible assumption, hoC2, cb_drop (by with_reducible assumption) ?_, ⟨⟨Nat.ne_of_gt hGT, Nat.ne_of_gt hCT, Nat.ne_of_gt hDT⟩, ?_⟩, by omega, fun h5 tk5 oC5 mC5 hoC5 F5 N5 => hkap .none _ ?_⟩
            · subst hrs
              refine subCons (by k_mem) (subCons (by k_mem) (subCons (by k_mem) (subCons (by k_mem) (subMid (fun p hp => ?_) fun p hp => ?_))))
              · exact .tail _ (List.mem_append.mpr (.inl hp))
              · exact .tail _ (List.mem_append.mpr (.inr (.tail _ (.tail _ (.tail _ hp)))))
            · refine Off3.of fun p hp => ?_
              rcases List.mem_append.mp hp with hp | hp
              · exact ho3.mem p hp
              · exact off.mem p hp
            dsimp only
            refine seg_execs_nil ?_
            dsimp only
            refine seg_execs_nil ?_
            dsimp only
            refine seg_end (.ok (.ret .none)) ⟨rfl, _, _, _, ys ++ [.ref T], oC5, mC5, (T, listOf (tmp).toArray kk) :: (outs ++ news), rfl, F5, hoC5, N5, ⟨⟨Nat.ne_of_gt hGT, Nat.ne_of_gt hCT, Nat.ne_of_gt hDT⟩, ?_⟩, (T, listOf (tmp).toArray kk) :: outs, rfl, ?_⟩
            · refine Off3.of fun p hp => ?_
              rcases List.mem_append.mp hp with hp | hp
              · exact ho3.mem p hp
              · exact off.mem p hp
            · rw [hbd, if_neg]
              · simp only [List.map_append, List.map_cons, List.map_nil]
                refine (hys.mono fun p hp => .tail _ hp).append (.one (.list (.head _) ?_))
                rw [← htds]
                first | rw [fillD_int] | rw [fillD_str]
                rw [if_neg (by omega)]; exact htmp.mono subNil
              · rw [← htds]
                cases tmp with
                | nil => cases hem
                | cons _ _ => cases htmp; exact Bool.false_ne_true
  · rintro D ys led h tk F1 N1 o1 ⟨outs, rfl, hys⟩
    rw [push_fin]
    exact fin D ys outs h tk F1 N1 o1 hys
end
end
section
section
variable {M : Model} {A : Around} {R : GenEnd} {Y : Protocol} {n : Nat} {s₀ : Shared} {c : Code} {fs : List Frame} {s : Shared} {env : Env}
  {K : Flow → Sem Fin} {H : Value → Sem Fin} {gd : Bool → Bool} {lv : List Value → List Value}
theorem execs_app_wrap (l2 : List Stmt) : ∀ (l1 : List Stmt) (K : Flow → Sem Fin), (execs (l1 ++ l2) env).wrap K H gd lv = (execs l1 env).wrap (fun f => match f with | .next => (execs l2 env).wrap K H gd lv | f => K f) H gd lv
  | [], _ => rfl
  | st :: l1, K => by
    rw [List.cons_append, execs_cons_wrap, execs_cons_wrap]
    refine Sem.wrap_congr _ _ _ (fun f => ?_) (fun _ => rfl)
    cases f <;> first | exact execs_app_wrap l2 l1 K | rfl
/-- statements that yield nothing, at one go -/
theorem seg_execs_app {l l1 l2 : List Stmt} (e : l = l1 ++ l2) (h : wpAny M (A.over c fs) (execs l1 env) (fun f s' => Seg M A R Y n s₀ c (match f with | .next => (execs l2 env).wrap K H gd lv | f => K f) fs s') (fun _ _ => False) s) :
    Seg M A R Y n s₀ c ((execs l env).wrap K H gd lv) fs s := by
  subst e
  rw [execs_app_wrap]
  exact seg_wrap (wpAny_mono h (fun _ _ q => q) fun _ _ e => e.elim)
end
section
variable {prog : Program} {w : World} {A : Around} {R : GenEnd} {Y : Protocol} {fs : List Frame} {env : Env} {g : Heap} {L' : Addr}
def RngAt (g : Heap) (L' : Addr) (s : Shared) (n N₀ : Nat) (J : Nat → (Str → Option Value) → List (Addr × Obj) → Nat → Prop) (v : Value) (s' : Shared) : Prop := ∃ r h' tk m news b t u w', v = .ref r ∧ s' = { s with heap := h', toks := tk } ∧ Fr g L' h' m ∧ News g L' h' news ∧ IsRange h' r 0 b 1 t u w' ∧ Builtin.Range.small 0 b 1 = true ∧ Builtin.Range.rangeSize 0 b 1 = ((N₀ : Nat) : Int) ∧ J 0 m news n
/-- a for loop over a range from 0, in a generator -/
theorem seg_forRange {x : Str} {px pos : Pos} {iter : Expr} {body : List Stmt} {n N₀ : Nat} {s₀ s : Shared} {c : Code} {K : Flow → Sem Fin} {H : Value → Sem Fin} {gd : Bool → Bool} {lv : List Value → List Value}
    (J : Nat → (Str → Option Value) → List (Addr × Obj) → Nat → Prop) (hh : ∀ cF p, (A.over cF (.ret (KFor env K H gd lv) none (gd false) (lv []) c p [] :: fs)).handled = none)
    (hev : wpAny (model prog w) (A.over c fs) (eval iter env) (RngAt g L' s n N₀ J) (fun _ _ => False) s)
    (turn : ∀ I p i v oI h tk m₁ nw n' s₀, i < N₀ → (∃ t, v = .int (i : Nat) t) → J i m₁ nw n' → Fr g L' h m₁ → News g L' h ((I, oI) :: nw) → (∀ p ∈ nw, p.1 ≠ I) →
      (∀ h tk m nw n'' s₀, Fr g L' h m → News g L' h ((I, oI) :: nw) → (∀ p ∈ nw, p.1 ≠ I) → J (i + 1) m nw n'' → Seg (model prog w) A R Y n'' s₀ (.forLoop (.Name x px) (.ref I) body [] env) ((model prog w).den (.forLoop (.Name x px) (.ref I) body [] env)) (.ret (KFor env K H gd lv) none (gd false) (lv []) c p [] :: fs) { s with heap := h, toks := tk }) →
      wpAny (model prog w) (A.over (.forLoop (.Name x px) (.ref I) body [] env) (.ret (KFor env K H gd lv) none (gd false) (lv []) c p [] :: fs)) (storeName env x v) (fun _ s₃ => Seg (model prog w) A R Y n' s₀ (.forLoop (.Name x px) (.ref I) body [] env) ((execs body env).wrap (KTurn (.forLoop (.Name x px) (.ref I) body [] env)) (HTurn env) id id) (.ret (KFor env K H gd lv) none (gd false) (lv []) c p [] :: fs) s₃) (fun _ _ => False) { s with heap := h, toks := tk })
    (fin : ∀ h tk m nw n' s₀, Fr g L' h m → News g L' h nw → J N₀ m nw n' → Seg (model prog w) A R Y n' s₀ c (K .next) fs { s with heap := h, toks := tk })
    (hs : ∀ x, foldedSetIterable iter env x = pure x := by intro _; rfl) :
    Seg (model prog w) A R Y n s₀ c ((exec (.For (.Name x px) iter body [] pos) env).wrap K H gd lv) fs s := by
  refine seg_For (wpAny_mono hev (fun v s₁ h₁ => ?_) fun _ _ e => e) hs
  obtain ⟨r, h', tk, m, news, b, t, u, w', rfl, rfl, F, N, hr, hsm, hn, hJ⟩ := h₁
  refine wpAny_pyIter_range hr hsm fun p => ?_
  have up : ∀ (o : Obj) b o', h'.get? b = some o' → (h'.push o).get? b = some o' := fun o b o' e => Heap.get?_push_of_some _ e
  have W := Walks.range (prog := prog) (w := w) (hh (.forLoop (.Name x px) (.ref h'.objs.size) body [] env) p) h'.objs.size 0 1 N₀
  refine seg_loopW (s₂ := s) (J := J) W ?_ ?_ (Nat.ne_of_lt F.ns.lt) (next_is_new F) (fun i v oI h tk m₁ nw n' s₀ hi hP hJ F N off ih => turn _ p i v oI h tk m₁ nw n' s₀ hi (by obtain ⟨t, rfl⟩ := hP; exact ⟨t, by simp⟩) hJ F N off ih) (fun h tk m nw n' s₀ F N hJ => seg_blockNil (fin h tk m nw n' s₀ F N hJ)) _ 0 rfl (Nat.zero_le _) _ tk m news n s₀ ?_ (F.keeps (up _)) (N.grown (up _)) (fun p hp => Nat.ne_of_lt (Heap.lt_size (N p hp).1)) hJ
  · intro i h st
    exact ⟨_, st⟩
  · intro i j m h h'' o nw k' st e e' hk N' hJ'
    have st' : h.get? h'.objs.size = some _ := st
    show h''.get? h'.objs.size = some _
    rw [e', ← e]; exact st'
  · show IsRangeIter _ _ _ _ _
    rw [hn]
    simpa using Heap.get?_push_size _ rfl
end
def padD (b : Bool) : Dat → List Dat → List Dat
  | .none, t => t
  | fd, t => if b then t ++ [fd] else t
theorem padD_int (b : Bool) (i : Int) (t : List Dat) : padD b (.int i) t = if b then t ++ [.int i] else t := rfl
theorem padD_str (b : Bool) (x : Str) (t : List Dat) : padD b (.str x) t = if b then t ++ [.str x] else t := rfl
/-- the i-th of k slices of ds -/
def sliceAt (k : Nat) (fd : Dat) (ds : List Dat) (i : Nat) : List Dat :=
  padD (decide (ds.length % k ≤ i)) fd ((ds.drop (min i (ds.length % k) + i * (ds.length / k))).take (ds.length / k + if i < ds.length % k then 1 else 0))
def sliceD (k : Nat) (fd : Dat) (ds : List Dat) : List (List Dat) := (List.range k).map (sliceAt k fd ds)
theorem pickS0 (vs : List Value) (o i q : Nat) : kms_pick vs (some ((o : Int) + (i : Int) * (q : Int))) (some ((o : Int) + ((i : Int) + 1) * (q : Int))) = (vs.drop (o + i * q)).take q := by
  have e1 : (o : Int) + (i : Int) * (q : Int) = ((o + i * q : Nat) : Int) := by simp
  have e2 : (o : Int) + ((i : Int) + 1) * (q : Int) = ((o + i * q + q : Nat) : Int) := by simp [Int.add_mul]; omega
  rw [e1, e2, pick_run vs (by omega) (by omega)]
  congr 1
  omega
theorem pickS1 (vs : List Value) (o i q : Nat) : kms_pick vs (some ((o : Int) + (i : Int) * (q : Int))) (some ((o : Int) + 1 + ((i : Int) + 1) * (q : Int))) = (vs.drop (o + i * q)).take (q + 1) := by
  have e1 : (o : Int) + (i : Int) * (q : Int) = ((o + i * q : Nat) : Int) := by simp
  have e2 : (o : Int) + 1 + ((i : Int) + 1) * (q : Int) = ((o + i * q + (q + 1) : Nat) : Int) := by simp [Int.add_mul]; omega
  rw [e1, e2, pick_run vs (by omega) (by omega)]
  congr 1
  omega
abbrev sliceMap (R : Addr) (many : Int) (t : Tok) (fill : Value) : Str → Option Value := fun y => List.lookup y [(Str.ofString "fill_with", fill), (Str.ofString "slices", .int many t), (Str.ofString "value", .ref R)]
theorem mapSlice (a b c d e u1 u2 u3 u4 u5 : Option Value) (f : Str → Option Value) :
    (fun y => if y = Str.ofString "tmp" then a else if y = Str.ofString "end" then b else if y = Str.ofString "offset" then c else if y = Str.ofString "start" then d else if y = Str.ofString "slice_number" then e else if y = Str.ofString "slice_number" then u1 else if y = Str.ofString "start" then u2 else if y = Str.ofString "end" then u3 else if y = Str.ofString "tmp" then u4 else if y = Str.ofString "offset" then u5 else f y) =
    fun y => if y = Str.ofString "slice_number" then e else if y = Str.ofString "start" then d else if y = Str.ofString "end" then b else if y = Str.ofString "tmp" then a else if y = Str.ofString "offset" then c else f y := by
  funext y
  by_cases e1 : y = Str.ofString "slice_number"
  · subst e1; rfl
  by_cases e2 : y = Str.ofString "start"
  · subst e2; rfl
  by_cases e3 : y = Str.ofString "end"
  · subst e3; rfl
  by_cases e4 : y = Str.ofString "tmp"
  · subst e4; rfl
  by_cases e5 : y = Str.ofString "offset"
  · subst e5; rfl
  simp only [e1, e2, e3, e4, e5, if_false]
abbrev sliceMap2 (R : Addr) (many : Int) (t : Tok) (fill : Value) (S : Addr) (len q r : Int) (t1 t2 t3 : Tok) : Str → Option Value := fun y => if y = Str.ofString "slices_with_extra" then some (.int r t1) else if y = Str.ofString "items_per_slice" then some (.int q t2) else if y = Str.ofString "length" then some (.int len t3) else if y = Str.ofString "seq" then some (.ref S) else sliceMap R many t fill y
section
variable {w : World} {p : Program} {loose : List Str} {mean : ExcName → Option Value} {mg mb : Str → Option Value}
    {dp un : Nat} {gd : Option (List Code)} {cn : Str} {cs : Scope} {a : Addr} {ccd : Value} {cl : List (Str × Addr)} {outer : List Env} {A₀ : Around} {base h₀ : Heap} {L : Addr} {m : Str → Option Value} {s : Shared} {Q E : Value → Shared → Prop} {news : List (Addr × Obj)}
theorem slice_call {R : Addr} {rs : List Value} {n : Nat} {many : Int} {t : Tok} {fill : Value} {ds : List Dat} {fd : Dat} {mF : Addr → Str → Option Value}
    (B : Below A₀ base outer h₀) (F : Fr h₀ L s.heap m) (X : (hd1.heap_39 w.params).In h₀) (N : News h₀ L s.heap news) (T : Top p loose mean mg mb h₀) (hk : cs.kind = .function) (hd : dp + 20 < recursionLimit) (hu : un + 1200 < cLine)
    (hm : (R, listOf rs.toArray n) ∈ news) (hrs : DatAll [] rs ds) (hlen : ds.length ≤ 9) (hm0 : 1 ≤ many) (hm1 : many ≤ 5) (hf : (fill = .none ∧ fd = .none) ∨ (∃ i t, fill = .int i t ∧ fd = .int i) ∨ (∃ x t, fill = .str x t ∧ fd = .str x))
    (fin : ∀ D ys outs h tk, Fr h₀ L h (mF D) → News h₀ L h ((D, lst ys) :: (outs ++ news)) → Off1 D (outs ++ news) → DatAll outs ys ((sliceD many.toNat fd ds).map .list) → Q (.ref D) { s with heap := h, toks := tk, gens := s.gens.push .finished }) :
    wpAny (model PySem.Challenge.rw_bb0048_01.row.prog w) (ktrTop dp un gd cn cs L a ccd cl outer) (call (.ref 281) [.ref R, .int many t, fill]) (SrcG PySem.Challenge.rw_bb0048_01.row.prog w (ktrTop dp un gd cn cs L a ccd cl outer) h₀ L m mF Q) E s := by
  revert X; k_fill; intro X
  refine wpAny_call ?_
  refine' code_gen ?k1 ?k2 ?k3 ?k4 ?k5 ?kA ?kF ?kK ?k6 ?k7 ?k8 ?k9 ?kB ?_ ?c1 ?c2 ?c3 ?c4; (case kA => exact rfl); (case kF => exact rfl); (case kK => first | assumption | exact rfl); (case k1 => k_asm); (case k2 => k_asm); (case k3 => k_asm); (case k4 => k_asm); (case k5 => k_asm); (case k6 => k_is); (case k7 => k_is); (case k8 => first | walk_at "room" | ktr_room); (case k9 => first | exact BindsTo.of_eq rfl | exact binds_K (by k_in) rfl (by k_is) rfl rfl rfl); (case kB => exact locs rfl); (case c1 => decide); (case c2 => exact rfl); (case c3 => exact rfl); (case c4 => exact rfl)
  k_whole
  intro g L' G h₂ tk nm qn FG F' N' B' X' T' l1 l2 l3
  dsimp only
  replace F' : Fr g L' h₂ (sliceMap R many t fill) := F'
  refine ⟨G, s.gens.size, nm, qn, _, g, L', _, news, fun ys led => ∃ outs, led = outs ++ news ∧ DatAll outs ys ((sliceD many.toNat fd ds).map .list), rfl, T'.nolimit, Array.getElem?_push_size, FG, F', N', fun p hp => Nat.ne_of_lt (l2 p hp), ?_, ?_⟩
  · intro D C oC mC h tk hoC F1 N1 off hDC hDG hCG hlD hlC
    generalize (Shared.setGen _ _ _) = sr
    refine ⟨many.toNat + 2, seg_func ?_⟩
    have hlr := hrs.length
    refine seg_execs_app (l1 := [_, _, _, _, _]) (l2 := [_]) rfl ?_
    k_steps
    rename_i S c1 h1 lt1 h2 tk1 h3 h4 h5 h6 F2 N2
    obtain ⟨k, rfl⟩ : ∃ k : Nat, many = k := ⟨many.toNat, by omega⟩
    have hq : Int.fdiv (rs.length : Nat) (k : Nat) = ((ds.length / k : Nat) : Int) := by rw [hlr, Int.fdiv_eq_ediv_of_nonneg _ (by omega), Int.natCast_ediv]
    have hr : Int.fmod (rs.length : Nat) (k : Nat) = ((ds.length % k : Nat) : Int) := by rw [hlr, Int.fmod_eq_emod_of_nonneg _ (by omega), Int.natCast_emod]
    rw [hq, hr] at F2
    obtain ⟨t1, t2, t3, t4, F5⟩ : ∃ t1 t2 t3 t4, Fr g L' h6 (fun y => if y = Str.ofString "offset" then some (.int ((0 : Nat) : Int) t4) else sliceMap2 R k t fill S (rs.length : Nat) (ds.length / k : Nat) (ds.length % k : Nat) t1 t2 t3 y) := ⟨_, _, _, _, F2⟩
    clear F2
    refine seg_execs_cons (seg_forRange (g := g) (L' := L') (N₀ := k) (J := fun i m₁ nw n' => ∃ u1 u2 u3 u4 o t5 outs ys oC mC, m₁ = (fun y => if y = Str.ofString "slice_number" then u1 else if y = Str.ofString "start" then u2 else if y = Str.ofString "end" then u3 else if y = Str.ofString "tmp" then u4 else if y = Str.ofString "offset" then some (.int ((o : Nat) : Int) t5) else sliceMap2 R k t fill S (rs.length : Nat) (ds.length / k : Nat) (ds.length % k : Nat) t1 t2 t3 y) ∧ nw = (S, listOf rs.toArray c1) :: (outs ++ ((D, lst ys) :: (C, oC) :: (G, gobjOf s.gens.size nm qn) :: news)) ∧ NsObj oC mC ∧ Off3 G C D outs ∧ n' + i ≥ k + 2 ∧ ys.length = i ∧ o = min i (ds.length % k) ∧ DatAll outs ys ((List.range i).map fun j => .list (sliceAt k fd ds j))) (fun _ _ => rfl) ?_ ?_ ?_)
    · k_steps
      rename_i F6 h7 tk7 t6 t7 t8 hr F7 N7 up7
      obtain ⟨n1, hnr, hn, hsm⟩ := range1_facts (r := (k : Nat)) (by omega) (by omega)
      refine ⟨_, _, _, _, _, _, _, _, _, rfl, rfl, F7, N7, hr, hsm, hn.trans hnr, ⟨none, none, none, none, 0, t4, [], [], oC, mC, ?_, rfl, hoC, trivial, by omega, rfl, by omega, .nil⟩⟩
      funext y
      by_cases e1 : y = Str.ofString "slice_number"
      · subst e1; rfl
      by_cases e2 : y = Str.ofString "start"
      · subst e2; rfl
      by_cases e3 : y = Str.ofString "end"
      · subst e3; rfl
      by_cases e4 : y = Str.ofString "tmp"
      · subst e4; rfl
      rw [if_neg e1, if_neg e2, if_neg e3, if_neg e4]
    · intro I p i v oI h tk m₁ nw n' s₀ hi hP hJ F3 N3 off3 ih
      obtain ⟨vt, rfl⟩ := hP
      obtain ⟨u1, u2, u3, u4, o, t5, outs, ys, oC2, mC2, hm₁, hnw, hoC2, ho3, hn', hyl, ho, hys⟩ := hJ
      subst hm₁ hnw
      k_steps
      refine seg_execs_app (l1 := [_, _, _, _, _]) (l2 := [_]) rfl ?_
      have hSI : @Ne Nat S I := off3 (S, listOf rs.toArray c1) (.head _)
      have hrI : ∀ p ∈ outs ++ ((D, lst ys) :: (C, oC2) :: (G, gobjOf s.gens.size nm qn) :: news), p.1 ≠ I := fun p hp => off3 p (.tail _ hp)
      have offo : Off3 G C D (outs ++ news) := Off3.of fun p hp => by
        rcases List.mem_append.mp hp with hp | hp
        · exact ho3.mem p hp
        · exact off.mem p hp
      obtain ⟨k', rfl⟩ : ∃ k', n' = k' + 1 := ⟨n' - 1, by omega⟩
      rcases hf with ⟨rfl, rfl⟩ | ⟨fi, ft, rfl, rfl⟩ | ⟨fx, ft, rfl, rfl⟩
      · k_steps
        rename_i tkA hA r9 t9 hB tkB hJ9 hB9 hr9 hC D9 h9 z9 hz9 hzl9 lt9 hD F8 N8
        have lt9' := allLt_app.mp lt9.2.2
        have hltD : @LT.lt Nat _ D D9 := lt9'.2.1
        have hltC : @LT.lt Nat _ C D9 := lt9'.2.2.1
        have hltG : @LT.lt Nat _ G D9 := lt9'.2.2.2.1
        obtain ⟨o', rfl, hz', ho'⟩ : ∃ o' : Nat, r9 = o' ∧ z9 = (rs.drop (o + i * (ds.length / k))).take (ds.length / k + if i < ds.length % k then 1 else 0) ∧ o' = min (i + 1) (ds.length % k) := by
          rcases hr9 with ⟨hlt, rfl⟩ | ⟨hlt, rfl⟩
          · exact ⟨o + 1, rfl, by rw [hz9, pickS1, if_pos (by omega)], by omega⟩
          · exact ⟨o, rfl, by rw [hz9, pickS0, if_neg (by omega)]; rfl, by omega⟩
        have hzd : DatAll [] z9 ((ds.drop (o + i * (ds.length / k))).take (ds.length / k + if i < ds.length % k then 1 else 0)) := by
          rw [hz']; exact datTake (datDrop hrs _) _
        dsimp only
        refine seg_execs_cons (seg_Expr_Yield rfl rfl rfl ?_)
        k_steps
        rename_i kap hkap
        refine ⟨_, _, _, ys, oC2, mC2, (D9, listOf (z9).toArray 0) :: (I, oI) :: (S, listOf rs.toArray c1) :: (outs ++ news), rfl, by with_reducible assumption, hoC2, cb_drop (by with_reducible assumption) ?_, ?_, by omega, fun h5 tk5 oC5 mC5 hoC5 F5 N5 => hkap .none _ ?_⟩
        · refine subCons (by k_mem) (subCons (by k_mem) (subCons (by k_mem) (subCons (by k_mem) (subCons (by k_mem) (subCons (by k_mem) (subMid (fun p hp => ?_) fun p hp => ?_))))))
          · exact .tail _ (.tail _ (.tail _ (List.mem_append.mpr (.inl hp))))
          · exact .tail _ (.tail _ (.tail _ (List.mem_append.mpr (.inr (.tail _ (.tail _ (.tail _ hp)))))))
        · exact ⟨⟨Nat.ne_of_gt hltG, Nat.ne_of_gt hltC, Nat.ne_of_gt hltD⟩, ⟨Ne.symm (hrI (G, _) (by k_mem)), Ne.symm (hrI (C, _) (by k_mem)), Ne.symm (hrI (D, _) (by k_mem))⟩, ⟨Nat.ne_of_gt lt1.2.2.1, Nat.ne_of_gt lt1.2.1, Nat.ne_of_gt lt1.1⟩, offo⟩
        dsimp only
        refine seg_execs_nil (seg_again rfl ?_)
        refine ih _ _ _ ((S, listOf rs.toArray c1) :: ((D9, listOf (z9).toArray 0) :: outs ++ ((D, lst (ys ++ [Value.ref D9])) :: (C, oC5) :: (G, gobjOf s.gens.size nm qn) :: news))) _ _ F5 (cb_drop N5 ?_) ?_ ⟨_, _, _, _, o', _, (D9, listOf (z9).toArray 0) :: outs, ys ++ [Value.ref D9], oC5, mC5, mapSlice _ _ _ _ _ _ _ _ _ _ _, rfl, hoC5, ⟨⟨Nat.ne_of_gt hltG, Nat.ne_of_gt hltC, Nat.ne_of_gt hltD⟩, ho3⟩, by omega, by simp; omega, ho', ?_⟩
        · refine subCons (by k_mem) (subCons (by k_mem) (subCons (by k_mem) (subMid (fun p hp => ?_) fun p hp => ?_)))
          · exact .tail _ (.tail _ (.tail _ (.tail _ (.tail _ (.tail _ (List.mem_append.mpr (.inl hp)))))))
          · revert p
            exact subCons (by k_mem) (subCons (by k_mem) (subCons (by k_mem) fun p hp => .tail _ (.tail _ (.tail _ (.tail _ (.tail _ (.tail _ (List.mem_append.mpr (.inr hp)))))))))
        · refine List.forall_mem_cons.mpr ⟨hSI, List.forall_mem_cons.mpr ⟨Nat.ne_of_gt lt9.1, fun p hp => ?_⟩⟩
          rcases List.mem_append.mp hp with hp | hp
          · exact hrI p (List.mem_append.mpr (.inl hp))
          · rcases List.mem_cons.mp hp with rfl | hp
            · exact hrI (D, lst ys) (by k_mem)
            · rcases List.mem_cons.mp hp with rfl | hp
              · exact hrI (C, oC2) (by k_mem)
              · exact hrI p (List.mem_append.mpr (.inr (.tail _ (.tail _ hp))))
        · rw [List.range_succ, List.map_append]
          refine (hys.mono fun p hp => .tail _ hp).append (.one (.list (.head _) ?_))
          rw [sliceAt, ← ho]
          exact hzd.mono subNil
      · k_steps
        · rename_i tkA hA r9 t9 hB tkB hJ9 hB9 hr9 hC D9 h9 z9 hz9 hzl9 lt9 hD F8 N8 hcmp tkC hE F9 N9
          have lt9' := allLt_app.mp lt9.2.2
          have hltD : @LT.lt Nat _ D D9 := lt9'.2.1
          have hltC : @LT.lt Nat _ C D9 := lt9'.2.2.1
          have hltG : @LT.lt Nat _ G D9 := lt9'.2.2.2.1
          obtain ⟨o', rfl, hz', ho'⟩ : ∃ o' : Nat, r9 = o' ∧ z9 = (rs.drop (o + i * (ds.length / k))).take (ds.length / k + if i < ds.length % k then 1 else 0) ∧ o' = min (i + 1) (ds.length % k) := by
            rcases hr9 with ⟨hlt, rfl⟩ | ⟨hlt, rfl⟩
            · exact ⟨o + 1, rfl, by rw [hz9, pickS1, if_pos (by omega)], by omega⟩
            · exact ⟨o, rfl, by rw [hz9, pickS0, if_neg (by omega)]; rfl, by omega⟩
          have hzd : DatAll [] z9 ((ds.drop (o + i * (ds.length / k))).take (ds.length / k + if i < ds.length % k then 1 else 0)) := by
            rw [hz']; exact datTake (datDrop hrs _) _
          dsimp only
          refine seg_execs_cons (seg_Expr_Yield rfl rfl rfl ?_)
          k_steps
          rename_i kap hkap
          refine ⟨_, _, _, ys, oC2, mC2, (D9, listOf (z9 ++ [Value.int fi ft]).toArray (0 + 1)) :: (I, oI) :: (S, listOf rs.toArray c1) :: (outs ++ news), rfl, by with_reducible assumption, hoC2, cb_drop (by with_reducible assumption) ?_, ?_, by omega, fun h5 tk5 oC5 mC5 hoC5 F5 N5 => hkap .none _ ?_⟩
          · refine subCons (by k_mem) (subCons (by k_mem) (subCons (by k_mem) (subCons (by k_mem) (subCons (by k_mem) (subCons (by k_mem) (subMid (fun p hp => ?_) fun p hp => ?_))))))
            · exact .tail _ (.tail _ (.tail _ (List.mem_append.mpr (.inl hp))))
            · exact .tail _ (.tail _ (.tail _ (List.mem_append.mpr (.inr (.tail _ (.tail _ (.tail _ hp)))))))
          · exact ⟨⟨Nat.ne_of_gt hltG, Nat.ne_of_gt hltC, Nat.ne_of_gt hltD⟩, ⟨Ne.symm (hrI (G, _) (by k_mem)), Ne.symm (hrI (C, _) (by k_mem)), Ne.symm (hrI (D, _) (by k_mem))⟩, ⟨Nat.ne_of_gt lt1.2.2.1, Nat.ne_of_gt lt1.2.1, Nat.ne_of_gt lt1.1⟩, offo⟩
          dsimp only
          refine seg_execs_nil (seg_again rfl ?_)
          refine ih _ _ _ ((S, listOf rs.toArray c1) :: ((D9, listOf (z9 ++ [Value.int fi ft]).toArray (0 + 1)) :: outs ++ ((D, lst (ys ++ [Value.ref D9])) :: (C, oC5) :: (G, gobjOf s.gens.size nm qn) :: news))) _ _ F5 (cb_drop N5 ?_) ?_ ⟨_, _, _, _, o', _, (D9, listOf (z9 ++ [Value.int fi ft]).toArray (0 + 1)) :: outs, ys ++ [Value.ref D9], oC5, mC5, mapSlice _ _ _ _ _ _ _ _ _ _ _, rfl, hoC5, ⟨⟨Nat.ne_of_gt hltG, Nat.ne_of_gt hltC, Nat.ne_of_gt hltD⟩, ho3⟩, by omega, by simp; omega, ho', ?_⟩
          · refine subCons (by k_mem) (subCons (by k_mem) (subCons (by k_mem) (subMid (fun p hp => ?_) fun p hp => ?_)))
            · exact .tail _ (.tail _ (.tail _ (.tail _ (.tail _ (.tail _ (List.mem_append.mpr (.inl hp)))))))
            · revert p
              exact subCons (by k_mem) (subCons (by k_mem) (subCons (by k_mem) fun p hp => .tail _ (.tail _ (.tail _ (.tail _ (.tail _ (.tail _ (List.mem_append.mpr (.inr hp)))))))))
          · refine List.forall_mem_cons.mpr ⟨hSI, List.forall_mem_cons.mpr ⟨Nat.ne_of_gt lt9.1, fun p hp => ?_⟩⟩
            rcases List.mem_append.mp hp with hp | hp
            · exact hrI p (List.mem_append.mpr (.inl hp))
            · rcases List.mem_cons.mp hp with rfl | hp
              · exact hrI (D, lst ys) (by k_mem)
              · rcases List.mem_cons.mp hp with rfl | hp
                · exact hrI (C, oC2) (by k_mem)
                · exact hrI p (List.mem_append.mpr (.inr (.tail _ (.tail _ hp))))
          · rw [List.range_succ, List.map_append]
            refine (hys.mono fun p hp => .tail _ hp).append (.one (.list (.head _) ?_))
            rw [sliceAt, ← ho]
            rw [padD_int, if_pos (by simp; omega)]; exact (hzd.append (.one (by constructor))).mono subNil
        · rename_i tkA hA r9 t9 hB tkB hJ9 hB9 hr9 hC D9 h9 z9 hz9 hzl9 lt9 hD F8 N8 hcmp
          have lt9' := allLt_app.mp lt9.2.2
          have hltD : @LT.lt Nat _ D D9 := lt9'.2.1
          have hltC : @LT.lt Nat _ C D9 := lt9'.2.2.1
          have hltG : @LT.lt Nat _ G D9 := lt9'.2.2.2.1
          obtain ⟨o', rfl, hz', ho'⟩ : ∃ o' : Nat, r9 = o' ∧ z9 = (rs.drop (o + i * (ds.length / k))).take (ds.length / k + if i < ds.length % k then 1 else 0) ∧ o' = min (i + 1) (ds.length % k) := by
            rcases hr9 with ⟨hlt, rfl⟩ | ⟨hlt, rfl⟩
            · exact ⟨o + 1, rfl, by rw [hz9, pickS1, if_pos (by omega)], by omega⟩
            · exact ⟨o, rfl, by rw [hz9, pickS0, if_neg (by omega)]; rfl, by omega⟩
          have hzd : DatAll [] z9 ((ds.drop (o + i * (ds.length / k))).take (ds.length / k + if i < ds.length % k then 1 else 0)) := by
            rw [hz']; exact datTake (datDrop hrs _) _
          dsimp only
          refine seg_execs_cons (seg_Expr_Yield rfl rfl rfl ?_)
          k_steps
          rename_i kap hkap
          refine ⟨_, _, _, ys, oC2, mC2, (D9, listOf (z9).toArray 0) :: (I, oI) :: (S, listOf rs.toArray c1) :: (outs ++ news), rfl, by with_reducible assumption, hoC2, cb_drop (by with_reducible assumption) ?_, ?_, by omega, fun h5 tk5 oC5 mC5 hoC5 F5 N5 => hkap .none _ ?_⟩
          · refine subCons (by k_mem) (subCons (by k_mem) (subCons (by k_mem) (subCons (by k_mem) (subCons (by k_mem) (subCons (by k_mem) (subMid (fun p hp => ?_) fun p hp => ?_))))))
            · exact .tail _ (.tail _ (.tail _ (List.mem_append.mpr (.inl hp))))
            · exact .tail _ (.tail _ (.tail _ (List.mem_append.mpr (.inr (.tail _ (.tail _ (.tail _ hp)))))))
          · exact ⟨⟨Nat.ne_of_gt hltG, Nat.ne_of_gt hltC, Nat.ne_of_gt hltD⟩, ⟨Ne.symm (hrI (G, _) (by k_mem)), Ne.symm (hrI (C, _) (by k_mem)), Ne.symm (hrI (D, _) (by k_mem))⟩, ⟨Nat.ne_of_gt lt1.2.2.1, Nat.ne_of_gt lt1.2.1, Nat.ne_of_gt lt1.1⟩, offo⟩
          dsimp only
          refine seg_execs_nil (seg_again rfl ?_)
          refine ih _ _ _ ((S, listOf rs.toArray c1) :: ((D9, listOf (z9).toArray 0) :: outs ++ ((D, lst (ys ++ [Value.ref D9])) :: (C, oC5) :: (G, gobjOf s.gens.size nm qn) :: news))) _ _ F5 (cb_drop N5 ?_) ?_ ⟨_, _, _, _, o', _, (D9, listOf (z9).toArray 0) :: outs, ys ++ [Value.ref D9], oC5, mC5, mapSlice _ _ _ _ _ _ _ _ _ _ _, rfl, hoC5, ⟨⟨Nat.ne_of_gt hltG, Nat.ne_of_gt hltC, Nat.ne_of_gt hltD⟩, ho3⟩, by omega, by simp; omega, ho', ?_⟩
          · refine subCons (by k_mem) (subCons (by k_mem) (subCons (by k_mem) (subMid (fun p hp => ?_) fun p hp => ?_)))
            · exact .tail _ (.tail _ (.tail _ (.tail _ (.tail _ (.tail _ (List.mem_append.mpr (.inl hp)))))))
            · revert p
              exact subCons (by k_mem) (subCons (by k_mem) (subCons (by k_mem) fun p hp => .tail _ (.tail _ (.tail _ (.tail _ (.tail _ (.tail _ (List.mem_append.mpr (.inr hp)))))))))
          · refine List.forall_mem_cons.mpr ⟨hSI, List.forall_mem_cons.mpr ⟨Nat.ne_of_gt lt9.1, fun p hp => ?_⟩⟩
            rcases List.mem_append.mp hp with hp | hp
            · exact hrI p (List.mem_append.mpr (.inl hp))
            · rcases List.mem_cons.mp hp with rfl | hp
              · exact hrI (D, lst ys) (by k_mem)
              · rcases List.mem_cons.mp hp with rfl | hp
                · exact hrI (C, oC2) (by k_mem)
                · exact hrI p (List.mem_append.mpr (.inr (.tail _ (.tail _ hp))))
          · rw [List.range_succ, List.map_append]
            refine (hys.mono fun p hp => .tail _ hp).append (.one (.list (.head _) ?_))
            rw [sliceAt, ← ho]
            rw [padD_int, if_neg (by simp; omega)]; exact hzd.mono subNil
      · k_steps
        · rename_i tkA hA r9 t9 hB tkB hJ9 hB9 hr9 hC D9 h9 z9 hz9 hzl9 lt9 hD F8 N8 hcmp tkC hE F9 N9
          have lt9' := allLt_app.mp lt9.2.2
          have hltD : @LT.lt Nat _ D D9 := lt9'.2.1
          have hltC : @LT.lt Nat _ C D9 := lt9'.2.2.1
          have hltG : @LT.lt Nat _ G D9 := lt9'.2.2.2.1
          obtain ⟨o', rfl, hz', ho'⟩ : ∃ o' : Nat, r9 = o' ∧ z9 = (rs.drop (o + i * (ds.length / k))).take (ds.length / k + if i < ds.length % k then 1 else 0) ∧ o' = min (i + 1) (ds.length % k) := by
            rcases hr9 with ⟨hlt, rfl⟩ | ⟨hlt, rfl⟩
            · exact ⟨o + 1, rfl, by rw [hz9, pickS1, if_pos (by omega)], by omega⟩
            · exact ⟨o, rfl, by rw [hz9, pickS0, if_neg (by omega)]; rfl, by omega⟩
          have hzd : DatAll [] z9 ((ds.drop (o + i * (ds.length / k))).take (ds.length / k + if i < ds.length % k then 1 else 0)) := by
            rw [hz']; exact datTake (datDrop hrs _) _
          dsimp only
          refine seg_execs_cons (seg_Expr_Yield rfl rfl rfl ?_)
          k_steps
          rename_i kap hkap
          refine ⟨_, _, _, ys, oC2, mC2, (D9, listOf (z9 ++ [Value.str fx ft]).toArray (0 + 1)) :: (I, oI) :: (S, listOf rs.toArray c1) :: (outs ++ news), rfl, by with_reducible assumption, hoC2, cb_drop (by with_reducible assumption) ?_, ?_, by omega, fun h5 tk5 oC5 mC5 hoC5 F5 N5 => hkap .none _ ?_⟩
          · refine subCons (by k_mem) (subCons (by k_mem) (subCons (by k_mem) (subCons (by k_mem) (subCons (by k_mem) (subCons (by k_mem) (subMid (fun p hp => ?_) fun p hp => ?_))))))
            · exact .tail _ (.tail _ (.tail _ (List.mem_append.mpr (.inl hp))))
            · exact .tail _ (.tail _ (.tail _ (List.mem_append.mpr (.inr (.tail _ (.tail _ (.tail _ hp)))))))
          · exact ⟨⟨Nat.ne_of_gt hltG, Nat.ne_of_gt hltC, Nat.ne_of_gt hltD⟩, ⟨Ne.symm (hrI (G, _) (by k_mem)), Ne.symm (hrI (C, _) (by k_mem)), Ne.symm (hrI (D, _) (by k_mem))⟩, ⟨Nat.ne_of_gt lt1.2.2.1, Nat.ne_of_gt lt1.2.1, Nat.ne_of_gt lt1.1⟩, offo⟩
          dsimp only
          refine seg_execs_nil (seg_again rfl ?_)
          refine ih _ _ _ ((S, listOf rs.toArray c1) :: ((D9, listOf (z9 ++ [Value.str fx ft]).toArray (0 + 1)) :: outs ++ ((D, lst (ys ++ [Value.ref D9])) :: (C, oC5) :: (G, gobjOf s.gens.size nm qn) :: news))) _ _ F5 (cb_drop N5 ?_) ?_ ⟨_, _, _, _, o', _, (D9, listOf (z9 ++ [Value.str fx ft]).toArray (0 + 1)) :: outs, ys ++ [Value.ref D9], oC5, mC5, mapSlice _ _ _ _ _ _ _ _ _ _ _, rfl, hoC5, ⟨⟨Nat.ne_of_gt hltG, Nat.ne_of_gt hltC, Nat.ne_of_gt hltD⟩, ho3⟩, by omega, by simp; omega, ho', ?_⟩
          · refine subCons (by k_mem) (subCons (by k_mem) (subCons (by k_mem) (subMid (fun p hp => ?_) fun p hp => ?_)))
            · exact .tail _ (.tail _ (.tail _ (.tail _ (.tail _ (.tail _ (List.mem_append.mpr (.inl hp)))))))
            · revert p
              exact subCons (by k_mem) (subCons (by k_mem) (subCons (by k_mem) fun p hp => .tail _ (.tail _ (.tail _ (.tail _ (.tail _ (.tail _ (List.mem_append.mpr (.inr hp)))))))))
          · refine List.forall_mem_cons.mpr ⟨hSI, List.forall_mem_cons.mpr ⟨Nat.ne_of_gt lt9.1, fun p hp => ?_⟩⟩
            rcases List.mem_append.mp hp with hp | hp
            · exact hrI p (List.mem_append.mpr (.inl hp))
            · rcases List.mem_cons.mp hp with rfl | hp
              · exact hrI (D, lst ys) (by k_mem)
              · rcases List.mem_cons.mp hp with rfl | hp
                · exact hrI (C, oC2) (by k_mem)
                · exact hrI p (List.mem_append.mpr (.inr (.tail _ (.tail _ hp))))
          · rw [List.range_succ, List.map_append]
            refine (hys.mono fun p hp => .tail _ hp).append (.one (.list (.head _) ?_))
            rw [sliceAt, ← ho]
            rw [padD_str, if_pos (by simp; omega)]; exact (hzd.append (.one (by constructor))).mono subNil
        · rename_i tkA hA r9 t9 hB tkB hJ9 hB9 hr9 hC D9 h9 z9 hz9 hzl9 lt9 hD F8 N8 hcmp
          have lt9' := allLt_app.mp lt9.2.2
          have hltD : @LT.lt Nat _ D D9 := lt9'.2.1
          have hltC : @LT.lt Nat _ C D9 := lt9'.2.2.1
          have hltG : @LT.lt Nat _ G D9 := lt9'.2.2.2.1
          obtain ⟨o', rfl, hz', ho'⟩ : ∃ o' : Nat, r9 = o' ∧ z9 = (rs.drop (o + i * (ds.length / k))).take (ds.length / k + if i < ds.length % k then 1 else 0) ∧ o' = min (i + 1) (ds.length % k) := by
            rcases hr9 with ⟨hlt, rfl⟩ | ⟨hlt, rfl⟩
            · exact ⟨o + 1, rfl, by rw [hz9, pickS1, if_pos (by omega)], by omega⟩
            · exact ⟨o, rfl, by rw [hz9, pickS0, if_neg (by omega)]; rfl, by omega⟩
          have hzd : DatAll [] z9 ((ds.drop (o + i * (ds.length / k))).take (ds.length / k + if i < ds.length % k then 1 else 0)) := by
            rw [hz']; exact datTake (datDrop hrs _) _
          dsimp only
          refine seg_execs_cons (seg_Expr_Yield rfl rfl rfl ?_)
          k_steps
          rename_i kap hkap
          refine ⟨_, _, _, ys, oC2, mC2, (D9, listOf (z9).toArray 0) :: (I, oI) :: (S, listOf rs.toArray c1) :: (outs ++ news), rfl, by with_reducible assumption, hoC2, cb_drop (by with_reducible assumption) ?_, ?_, by omega, fun h5 tk5 oC5 mC5 hoC5 F5 N5 => hkap .none _ ?_⟩
          · refine subCons (by k_mem) (subCons (by k_mem) (subCons (by k_mem) (subCons (by k_mem) (subCons (by k_mem) (subCons (by k_mem) (subMid (fun p hp => ?_) fun p hp => ?_))))))
            · exact .tail _ (.tail _ (.tail _ (List.mem_append.mpr (.inl hp))))
            · exact .tail _ (.tail _ (.tail _ (List.mem_append.mpr (.inr (.tail _ (.tail _ (.tail _ hp)))))))
          · exact ⟨⟨Nat.ne_of_gt hltG, Nat.ne_of_gt hltC, Nat.ne_of_gt hltD⟩, ⟨Ne.symm (hrI (G, _) (by k_mem)), Ne.symm (hrI (C, _) (by k_mem)), Ne.symm (hrI (D, _) (by k_mem))⟩, ⟨Nat.ne_of_gt lt1.2.2.1, Nat.ne_of_gt lt1.2.1, Nat.ne_of_gt lt1.1⟩, offo⟩
          dsimp only
          refine seg_execs_nil (seg_again rfl ?_)
          refine ih _ _ _ ((S, listOf rs.toArray c1) :: ((D9, listOf (z9).toArray 0) :: outs ++ ((D, lst (ys ++ [Value.ref D9])) :: (C, oC5) :: (G, gobjOf s.gens.size nm qn) :: news))) _ _ F5 (cb_drop N5 ?_) ?_ ⟨_, _, _, _, o', _, (D9, listOf (z9).toArray 0) :: outs, ys ++ [Value.ref D9], oC5, mC5, mapSlice _ _ _ _ _ _ _ _ _ _ _, rfl, hoC5, ⟨⟨Nat.ne_of_gt hltG, Nat.ne_of_gt hltC, Nat.ne_of_gt hltD⟩, ho3⟩, by omega, by simp; omega, ho', ?_⟩
          · refine subCons (by k_mem) (subCons (by k_mem) (subCons (by k_mem) (subMid (fun p hp => ?_) fun p hp => ?_)))
            · exact .tail _ (.tail _ (.tail _ (.tail _ (.tail _ (.tail _ (List.mem_append.mpr (.inl hp)))))))
            · revert p
              exact subCons (by k_mem) (subCons (by k_mem) (subCons (by k_mem) fun p hp => .tail _ (.tail _ (.tail _ (.tail _ (.tail _ (.tail _ (List.mem_append.mpr (.inr hp)))))))))
          · refine List.forall_mem_cons.mpr ⟨hSI, List.forall_mem_cons.mpr ⟨Nat.ne_of_gt lt9.1, fun p hp => ?_⟩⟩
            rcases List.mem_append.mp hp with hp | hp
            · exact hrI p (List.mem_append.mpr (.inl hp))
            · rcases List.mem_cons.mp hp with rfl | hp
              · exact hrI (D, lst ys) (by k_mem)
              · rcases List.mem_cons.mp hp with rfl | hp
                · exact hrI (C, oC2) (by k_mem)
                · exact hrI p (List.mem_append.mpr (.inr (.tail _ (.tail _ hp))))
          · rw [List.range_succ, List.map_append]
            refine (hys.mono fun p hp => .tail _ hp).append (.one (.list (.head _) ?_))
            rw [sliceAt, ← ho]
            rw [padD_str, if_neg (by simp; omega)]; exact hzd.mono subNil
    · intro h tk m nw n' s₀ F3 N3 hJ
      obtain ⟨u1, u2, u3, u4, o, t5, outs, ys, oC2, mC2, hm₁, hnw, hoC2, ho3, hn', hyl, ho, hys⟩ := hJ
      subst hm₁ hnw
      dsimp only
      refine seg_execs_nil ?_
      dsimp only
      refine seg_end (.ok (.ret .none)) ⟨rfl, _, _, _, ys, oC2, mC2, outs ++ news, rfl, F3, hoC2, cb_drop N3 ?_, ?_, outs, rfl, ?_⟩
      · refine subCons (by k_mem) (subCons (by k_mem) (subCons (by k_mem) (subMid (fun p hp => ?_) fun p hp => ?_)))
        · exact .tail _ (List.mem_append.mpr (.inl hp))
        · exact .tail _ (List.mem_append.mpr (.inr (.tail _ (.tail _ (.tail _ hp)))))
      · refine Off3.of fun p hp => ?_
        rcases List.mem_append.mp hp with hp | hp
        · exact ho3.mem p hp
        · exact off.mem p hp
      · rw [sliceD, List.map_map]
        exact hys
  · rintro D ys led h tk F1 N1 o1 ⟨outs, rfl, hys⟩
    rw [push_fin]
    exact fin D ys outs h tk F1 N1 o1 hys
end
end
end
end
section
local macro_rules | `(tactic| walk_at "exec For") => `(tactic| (k_here; (with_reducible show wpAny _ _ (exec (Stmt.For (Expr.Name _ _) _ _ _ _) _) _ _ _); k_dflt (refine for_J (_F := by k_asm) ?_ (by intro _; rfl) (by passes_own))))
local macro_rules | `(tactic| walk_at "exec For Name Name cons nil") => `(tactic| (k_here; k_dflt (refine for_J (_F := by k_asm) ?_ (by intro _; rfl) (by passes_own))))
local macro_rules | `(tactic| walk_at "exec For Name Call cons nil") => `(tactic| (k_here; k_dflt (refine for_J (_F := by k_asm) ?_ (by intro _; rfl) (by passes_own))))
local macro_rules | `(tactic| walk_at "PostF") => `(tactic| (dsimp only [PostF]))
section
local macro_rules | `(tactic| walk_at "call ref") => `(tactic| (k_here; (with_reducible show wpAny _ _ (call (Value.ref 328) _ _) _ _ _); k_dflt (refine' kind_use ?B ?F ?X ?N ?T ?hk ?hd ?hu ?hv ?hk2 ?hl ?_; (case B => k_asm); (case F => k_asm); (case X => k_asm); (case N => k_asm); (case T => k_asm); (case hk => first | exact rfl | assumption); (case hd => walk_at "room"); (case hu => (have hcL9 := cLine_is; walk_at "room")); (case hv => with_reducible assumption); (case hk2 => with_reducible assumption); (case hl => with_reducible assumption)); intro v9 h9 tk9 hv9 hk9 F9 N9))
local macro_rules | `(tactic| walk_at "compareOp LtE") => `(tactic| (k_here; refine' le_D ?a ?b ?c ?d ?_; (case a => with_reducible assumption); (case b => with_reducible assumption); (case c => with_reducible assumption); (case d => with_reducible assumption)))
local macro_rules | `(tactic| walk_at "compareOp Eq") => `(tactic| (k_here; refine' eq_D ?a ?b ?c ?d ?_; (case a => with_reducible assumption); (case b => with_reducible assumption); (case c => with_reducible assumption); (case d => with_reducible assumption)))
section
local macro_rules | `(tactic| walk_at "compareOp Eq ref ref") => `(tactic| (k_here; k_dflt (refine' eq_nil ?N ?a ?b ?d ?k ?u ?_; (case N => k_asm); (case a => k_mem); (case b => k_mem); (case d => with_reducible assumption); (case k => with_reducible assumption); (case u => units_room))))
local macro_rules | `(tactic| walk_at "call builtin:list.append") => `(tactic| (k_here; k_dflt (refine' append_L ?F ?N ?U ?z ?_; (case F => k_asm); (case N => k_asm); (case U => k_upd); (case z => walk_at "size")); intro h9 F9 N9))
section
local macro_rules | `(tactic| walk_at "call ref") => `(tactic| (k_here; (with_reducible show wpAny _ _ (call (Value.ref 241) _ _) _ _ _); k_dflt (refine' prep_use ?B ?F ?X ?N ?T ?hk ?hd ?hu ?_; (case B => k_asm); (case F => k_asm); (case X => k_asm); (case N => k_asm); (case T => k_asm); (case hk => first | exact rfl | assumption); (case hd => walk_at "room"); (case hu => (have hcL9 := cLine_is; walk_at "room"))); intro P9 h9 tk9 l9 F9 N9; (simp only [AllLt] at l9)))
local macro_rules | `(tactic| walk_at "enter_nest") => `(tactic| k_dflt (refine' code_nest ?k1 ?k2 ?k3 ?k4 ?k5 ?kA ?kF ?kK ?k6 ?k7 ?k8 ?k9 ?kB ?_ ?c2 ?c3 ?c4 ?c5; (case kA => exact rfl); (case kF => exact rfl); (case kK => first | assumption | exact rfl); (case k1 => k_asm); (case k2 => k_asm); (case k3 => k_asm); (case k4 => k_asm); (case k5 => k_asm); (case k6 => k_mem); (case k7 => exact codeRec_news (by k_asm) (by k_mem) (by assumption) (by assumption)); (case k8 => first | walk_at "room" | ktr_room); (case k9 => exact BindsTo.of_eq rfl); (case c5 => decide); (case kB => exact locs rfl); (case c2 => exact rfl); (case c3 => exact rfl); (case c4 => exact rfl); k_whole; intro g' L' h' FG' F' N' B' X' T'; (try dsimp only); (try k_lift B'); (try k_fold)))
section
/-- the closure at f, its objects own: it hands back its argument's kind -/
def Getter (w : World) (f : Addr) (own : List (Addr × Obj)) (b : Bool) : Prop := (∃ fo, (f, fo) ∈ own ∧ ∃ fd, fo.data = .func fd) ∧
  ∀ (news : List (Addr × Obj)) (v : Value) (d : Dat) (k : Bool), (∀ p ∈ own, p ∈ news) → DatIn [] v d → KB k d → (b = false → LenD d) → Says w f 10 600 [v] news (fun news' v' => news' = news ∧ DatIn [] v' (kindD b d))
theorem Getter.fn {w : World} {f : Addr} {own news : List (Addr × Obj)} {b : Bool} {h₀ h : Heap} {L : Addr} (G : Getter w f own b) (N : News h₀ L h news) (hs : ∀ p ∈ own, p ∈ news) : FnAt f h := by
  obtain ⟨⟨⟨c, od, dt, sl⟩, hm, fd, rfl⟩, _⟩ := G
  exact ⟨_, _, _, _, (N _ (hs _ hm)).1⟩
abbrev getQual : Str := Str.ofString "make_attrgetter.<locals>.attrgetter"
/-- the table of the codes that a def has made: nothing yet, or the one -/
def TabHit (ln co : Int) (qual : Str) (ps : Array Value) (own : List (Addr × Obj)) : Prop :=
  ∃ c' oc vs t, ps = #[rawInt ln, rawInt co, .ref c'] ∧ (c', oc) ∈ own ∧ oc.data = .fields vs ∧ vs[1]? = some (.str qual t)
theorem TabHit.mono {ln co : Int} {qual : Str} {ps : Array Value} {own own' : List (Addr × Obj)} (h : TabHit ln co qual ps own) (s : ∀ p ∈ own, p ∈ own') : TabHit ln co qual ps own' := by
  obtain ⟨c', oc, vs, t, h1, h2, h3⟩ := h
  exact ⟨c', oc, vs, t, h1, s _ h2, h3⟩
theorem ignore_K (w : World) (news : List (Addr × Obj)) (v : Value) (d : Dat) (k : Bool) (hv : DatIn [] v d) (hk' : KB k d) (hl : LenD d) :
    Says w 222 5 300 [v] news (fun news' v' => news' = news ∧ DatIn [] v' (kindD false d)) := by
  intro p loose mean mg mb dp un gd cn cs a ccd cl outer A₀ base h₀ L m s Q E B F X N T hk hd hu hret
  revert X; k_fill; intro X
  cases hk' with
  | str x =>
    have hx := hl x rfl
    clear hl
    cases hv
    refine wpAny_call ?_
    walk_at "enter"
    k_steps
    exact hret _ _ _ _ ⟨rfl, .str _ _⟩ (by with_reducible assumption) (by with_reducible assumption)
  | int i =>
    cases hv
    refine wpAny_call ?_
    walk_at "enter"
    k_steps
    exact hret _ _ _ _ ⟨rfl, .int _ _⟩ (by with_reducible assumption) (by with_reducible assumption)
theorem ignore_use {w : World} {news : List (Addr × Obj)} {v : Value} {d : Dat} {k : Bool}
    {p : Program} {loose : List Str} {mean : ExcName → Option Value} {mg mb : Str → Option Value}
    {dp un : Nat} {gd : Option (List Code)} {cn : Str} {cs : Scope} {a : Addr} {ccd : Value} {cl : List (Str × Addr)} {outer : List Env} {A₀ : Around} {base h₀ : Heap} {L : Addr} {m : Str → Option Value} {s : Shared} {Q E : Value → Shared → Prop}
    (B : Below A₀ base outer h₀) (F : Fr h₀ L s.heap m) (X : (hd1.heap_39 w.params).In h₀) (N : News h₀ L s.heap news) (T : Top p loose mean mg mb h₀) (hk : cs.kind = .function) (hd : dp + 5 < recursionLimit) (hu : un + 300 < cLine)
    (hv : DatIn [] v d) (hk' : KB k d) (hl : LenD d)
    (ret : ∀ v' h' tk', DatIn [] v' (kindD false d) → Fr h₀ L h' m → News h₀ L h' news → Q v' { s with heap := h', toks := tk' }) :
    wpAny (model PySem.Challenge.rw_bb0048_01.row.prog w) (ktrTop dp un gd cn cs L a ccd cl outer) (call (.ref 222) [v]) Q E s := by
  refine ignore_K w news v d k hv hk' hl p loose mean mg mb dp un gd cn cs a ccd cl outer A₀ base h₀ L m s Q E B F X N T hk hd hu ?_
  rintro v' news' h' tk' ⟨rfl, hv'⟩ F' N'
  exact ret v' h' tk' hv' F' N'
local macro_rules | `(tactic| walk_at "call ref") => `(tactic| (k_here; (with_reducible show wpAny _ _ (call (Value.ref 222) _ _) _ _ _); k_dflt (refine' ignore_use ?B ?F ?X ?N ?T ?hk ?hd ?hu ?hv ?hk2 ?hl ?_; (case B => k_asm); (case F => k_asm); (case X => k_asm); (case N => k_asm); (case T => k_asm); (case hk => first | exact rfl | assumption); (case hd => walk_at "room"); (case hu => (have hcL9 := cLine_is; walk_at "room")); (case hv => with_reducible assumption); (case hk2 => with_reducible assumption); (case hl => with_reducible assumption)); intro v9 h9 tk9 hv9 F9 N9))
theorem getter_newF {w : World} {rest : List (Addr × Obj)}
    {p : Program} {loose : List Str} {mean : ExcName → Option Value} {mg mb : Str → Option Value}
    {dp un : Nat} {gd : Option (List Code)} {cn : Str} {cs : Scope} {a : Addr} {ccd : Value} {cl : List (Str × Addr)} {outer : List Env} {A₀ : Around} {base h₀ : Heap} {L : Addr} {m : Str → Option Value} {s : Shared} {Q E : Value → Shared → Prop}  (B : Below A₀ base outer h₀) (F : Fr h₀ L s.heap m) (X : (hd1.heap_39 w.params).In h₀) (N : News h₀ L s.heap ((225, tabObj #[]) :: rest)) (T : Top p loose mean mg mb h₀) (hk : cs.kind = .function) (hd : dp + 20 < recursionLimit) (hu : un + 1200 < cLine) (C : CodeHd h₀ 229 225)
    (hr : ∀ p ∈ rest, p.1 ≠ 225)
    (ret : ∀ f own ps h' tk', Getter w f own false → TabHit 97 4 getQual ps own → (∀ q ∈ own, AllLt q.1 ((225, tabObj ps) :: rest)) → Fr h₀ L h' m → News h₀ L h' (own ++ (225, tabObj ps) :: rest) → Q (.ref f) { s with heap := h', toks := tk' }) :
    wpAny (model PySem.Challenge.rw_bb0048_01.row.prog w) (ktrTop dp un gd cn cs L a ccd cl outer) (call (.ref 230) [.none, .none] [(Str.ofString "postprocess", .ref 222)]) Q E s := by
  revert X; k_fill; intro X
  refine wpAny_call ?_
  walk_at "enter"
  rename_i g' L' hA tkA FG F0 B' X' T' la lb lc ld c1 c2 c3 c4 dc1 dc2 dc3 dc4 N0
  have le : @LT.lt Nat _ 225 (L' + 1 + 1 + 1 + 1) ∧ AllLt (L' + 1 + 1 + 1 + 1) rest := ⟨Nat.lt_succ_of_lt ld.1, allLt_of fun p hp => Nat.lt_succ_of_lt (ktn_ltOf ld.2 p hp)⟩
  have C' := CodeHd.keeps C FG.keep
  k_steps
  rename_i P h1 tk1 lP h2 o1 d1 f c' oc vs t ct dc h3 tk3 dd1 dd2 l1 l2 h4 F4 N4 kF kN kT kX
  have l1' := l1.2.2.2.2.2
  have lf' : @LT.lt Nat _ 225 f ∧ AllLt f rest := ⟨Nat.lt_trans l1'.1 l2, allLt_of fun p hp => Nat.lt_trans (ktn_ltOf l1'.2 p hp) l2⟩
  have kN' := kN
  refine ret f ((f, _) :: (c', oc) :: (P, listOf #[] 0) :: (L' + 1 + 1 + 1 + 1, o1) :: (L' + 1 + 1 + 1, c2) :: (L' + 1 + 1, c3) :: [(L' + 1, c4)]) _ _ _ ?_ ?_ ?_ kF kN'
  · clear kN kN' N4 F4 kF N F kT kX ret X hu hd
    refine ⟨⟨_, .head _, _, rfl⟩, ?_⟩
    intro news v d k hsub hv hkb hlen p loose mean mg mb dp un gd cn cs a ccd cl outer A₀ base h₀ L m s Q E B F X N T hk hd hu hret
    have N1 := cb_drop N (subMid hsub subSelf)
    simp only [List.cons_append, List.nil_append] at N1
    revert X; k_fill; intro X
    refine wpAny_call ?_
    walk_at "enter_nest"
    rename_i g5 L5 h5 FG5 F5 N5 B5 X5 T5
    k_steps
    refine SrcF.list (vs := []) (k := 0) (J := fun _ m₁ nw => m₁ = _ ∧ nw = _) rfl F5 N5 (by k_mem) (fun _ _ _ h => h.2 ▸ by k_mem) ⟨rfl, rfl⟩ (fun _ _ _ _ _ _ _ _ _ hi => absurd hi (Nat.not_lt_zero _)) ?_
    rintro m' nw h6 tk6 F6 N6 ⟨rfl, rfl⟩
    have hlen' := hlen rfl
    k_steps
    rename_i v9 h9 tk9 hv9 h7 F7 N7 kF7 kN7 kT7 kX7
    exact hret _ _ _ _ ⟨rfl, hv9⟩ kF7 (cb_drop kN7 fun p hp => .tail _ (.tail _ (.tail _ (.tail _ (.tail _ (.tail _ (.tail _ hp)))))))
  · exact ⟨c', oc, vs, t, rfl, by k_mem, dd1, dd2⟩
  · exact List.forall_mem_cons.mpr ⟨lf', List.forall_mem_cons.mpr ⟨l1', List.forall_mem_cons.mpr ⟨lP.2.2.2.2, List.forall_mem_cons.mpr ⟨le, List.forall_mem_cons.mpr ⟨ld, List.forall_mem_cons.mpr ⟨lc, List.forall_mem_cons.mpr ⟨lb, (fun _ h => nomatch h)⟩⟩⟩⟩⟩⟩⟩
theorem getter_newT {w : World} {rest : List (Addr × Obj)}
    {p : Program} {loose : List Str} {mean : ExcName → Option Value} {mg mb : Str → Option Value}
    {dp un : Nat} {gd : Option (List Code)} {cn : Str} {cs : Scope} {a : Addr} {ccd : Value} {cl : List (Str × Addr)} {outer : List Env} {A₀ : Around} {base h₀ : Heap} {L : Addr} {m : Str → Option Value} {s : Shared} {Q E : Value → Shared → Prop}  (B : Below A₀ base outer h₀) (F : Fr h₀ L s.heap m) (X : (hd1.heap_39 w.params).In h₀) (N : News h₀ L s.heap ((225, tabObj #[]) :: rest)) (T : Top p loose mean mg mb h₀) (hk : cs.kind = .function) (hd : dp + 20 < recursionLimit) (hu : un + 1200 < cLine) (C : CodeHd h₀ 229 225)
    (hr : ∀ p ∈ rest, p.1 ≠ 225)
    (ret : ∀ f own ps h' tk', Getter w f own true → TabHit 97 4 getQual ps own → (∀ q ∈ own, AllLt q.1 ((225, tabObj ps) :: rest)) → Fr h₀ L h' m → News h₀ L h' (own ++ (225, tabObj ps) :: rest) → Q (.ref f) { s with heap := h', toks := tk' }) :
    wpAny (model PySem.Challenge.rw_bb0048_01.row.prog w) (ktrTop dp un gd cn cs L a ccd cl outer) (call (.ref 230) [.none, .none] [(Str.ofString "postprocess", .none)]) Q E s := by
  revert X; k_fill; intro X
  refine wpAny_call ?_
  walk_at "enter"
  rename_i g' L' hA tkA FG F0 B' X' T' la lb lc ld c1 c2 c3 c4 dc1 dc2 dc3 dc4 N0
  have le : @LT.lt Nat _ 225 (L' + 1 + 1 + 1 + 1) ∧ AllLt (L' + 1 + 1 + 1 + 1) rest := ⟨Nat.lt_succ_of_lt ld.1, allLt_of fun p hp => Nat.lt_succ_of_lt (ktn_ltOf ld.2 p hp)⟩
  have C' := CodeHd.keeps C FG.keep
  k_steps
  rename_i P h1 tk1 lP h2 o1 d1 f c' oc vs t ct dc h3 tk3 dd1 dd2 l1 l2 h4 F4 N4 kF kN kT kX
  have l1' := l1.2.2.2.2.2
  have lf' : @LT.lt Nat _ 225 f ∧ AllLt f rest := ⟨Nat.lt_trans l1'.1 l2, allLt_of fun p hp => Nat.lt_trans (ktn_ltOf l1'.2 p hp) l2⟩
  have kN' := kN
  refine ret f ((f, _) :: (c', oc) :: (P, listOf #[] 0) :: (L' + 1 + 1 + 1 + 1, o1) :: (L' + 1 + 1 + 1, c2) :: (L' + 1 + 1, c3) :: [(L' + 1, c4)]) _ _ _ ?_ ?_ ?_ kF kN'
  · clear kN kN' N4 F4 kF N F kT kX ret X hu hd
    refine ⟨⟨_, .head _, _, rfl⟩, ?_⟩
    intro news v d k hsub hv hkb hlen p loose mean mg mb dp un gd cn cs a ccd cl outer A₀ base h₀ L m s Q E B F X N T hk hd hu hret
    have N1 := cb_drop N (subMid hsub subSelf)
    simp only [List.cons_append, List.nil_append] at N1
    revert X; k_fill; intro X
    refine wpAny_call ?_
    walk_at "enter_nest"
    rename_i g5 L5 h5 FG5 F5 N5 B5 X5 T5
    k_steps
    refine SrcF.list (vs := []) (k := 0) (J := fun _ m₁ nw => m₁ = _ ∧ nw = _) rfl F5 N5 (by k_mem) (fun _ _ _ h => h.2 ▸ by k_mem) ⟨rfl, rfl⟩ (fun _ _ _ _ _ _ _ _ _ hi => absurd hi (Nat.not_lt_zero _)) ?_
    rintro m' nw h6 tk6 F6 N6 ⟨rfl, rfl⟩
    k_steps
    exact hret _ _ _ _ ⟨rfl, hv⟩ (by with_reducible assumption) (cb_drop (by with_reducible assumption) fun p hp => .tail _ (.tail _ (.tail _ (.tail _ (.tail _ (.tail _ (.tail _ hp)))))))
  · exact ⟨c', oc, vs, t, rfl, by k_mem, dd1, dd2⟩
  · exact List.forall_mem_cons.mpr ⟨lf', List.forall_mem_cons.mpr ⟨l1', List.forall_mem_cons.mpr ⟨lP.2.2.2.2, List.forall_mem_cons.mpr ⟨le, List.forall_mem_cons.mpr ⟨ld, List.forall_mem_cons.mpr ⟨lc, List.forall_mem_cons.mpr ⟨lb, (fun _ h => nomatch h)⟩⟩⟩⟩⟩⟩⟩
theorem getter_hitF {w : World} {rest : List (Addr × Obj)}
    {p : Program} {loose : List Str} {mean : ExcName → Option Value} {mg mb : Str → Option Value}
    {dp un : Nat} {gd : Option (List Code)} {cn : Str} {cs : Scope} {a : Addr} {ccd : Value} {cl : List (Str × Addr)} {outer : List Env} {A₀ : Around} {base h₀ : Heap} {L : Addr} {m : Str → Option Value} {s : Shared} {Q E : Value → Shared → Prop} (c' : Addr) (oc : Obj) (vs : Array Value) (t : Tok) (hoc : (c', oc) ∈ rest) (dd1 : oc.data = .fields vs) (dd2 : vs[1]? = some (.str getQual t)) (B : Below A₀ base outer h₀) (F : Fr h₀ L s.heap m) (X : (hd1.heap_39 w.params).In h₀) (N : News h₀ L s.heap ((225, tabObj #[rawInt 97, rawInt 4, .ref c']) :: rest)) (T : Top p loose mean mg mb h₀) (hk : cs.kind = .function) (hd : dp + 20 < recursionLimit) (hu : un + 1200 < cLine) (C : CodeHd h₀ 229 225)
    (hr : ∀ p ∈ rest, p.1 ≠ 225)
    (ret : ∀ f own h' tk', Getter w f ((c', oc) :: own) false → (∀ q ∈ own, AllLt q.1 ((225, tabObj #[rawInt 97, rawInt 4, .ref c']) :: rest)) → Fr h₀ L h' m → News h₀ L h' (own ++ (225, tabObj #[rawInt 97, rawInt 4, .ref c']) :: rest) → Q (.ref f) { s with heap := h', toks := tk' }) :
    wpAny (model PySem.Challenge.rw_bb0048_01.row.prog w) (ktrTop dp un gd cn cs L a ccd cl outer) (call (.ref 230) [.none, .none] [(Str.ofString "postprocess", .ref 222), (Str.ofString "default", .none)]) Q E s := by
  revert X; k_fill; intro X
  refine wpAny_call ?_
  walk_at "enter"
  rename_i g' L' hA tkA FG F0 B' X' T' la lb lc ld c1 c2 c3 c4 dc1 dc2 dc3 dc4 N0
  have le : @LT.lt Nat _ 225 (L' + 1 + 1 + 1 + 1) ∧ AllLt (L' + 1 + 1 + 1 + 1) rest := ⟨Nat.lt_succ_of_lt ld.1, allLt_of fun p hp => Nat.lt_succ_of_lt (ktn_ltOf ld.2 p hp)⟩
  have C' := CodeHd.keeps C FG.keep
  k_steps
  rename_i P h1 tk1 lP h2 o1 d1 f ct dc h3 tk3 lf h4 F4 N4 kF kN kT kX
  have lf' := lf.2.2.2.2.2
  have kN' := kN
  refine ret f ((f, _) :: (P, listOf #[] 0) :: (L' + 1 + 1 + 1 + 1, o1) :: (L' + 1 + 1 + 1, c2) :: (L' + 1 + 1, c3) :: [(L' + 1, c4)])  _ _ ?_  ?_ kF kN'
  · clear kN kN' N4 F4 kF N F kT kX ret X hu hd
    refine ⟨⟨_, .tail _ (.head _), _, rfl⟩, ?_⟩
    intro news v d k hsub hv hkb hlen p loose mean mg mb dp un gd cn cs a ccd cl outer A₀ base h₀ L m s Q E B F X N T hk hd hu hret
    have N1 := cb_drop N (subMid hsub subSelf)
    simp only [List.cons_append, List.nil_append] at N1
    revert X; k_fill; intro X
    refine wpAny_call ?_
    walk_at "enter_nest"
    rename_i g5 L5 h5 FG5 F5 N5 B5 X5 T5
    k_steps
    refine SrcF.list (vs := []) (k := 0) (J := fun _ m₁ nw => m₁ = _ ∧ nw = _) rfl F5 N5 (by k_mem) (fun _ _ _ h => h.2 ▸ by k_mem) ⟨rfl, rfl⟩ (fun _ _ _ _ _ _ _ _ _ hi => absurd hi (Nat.not_lt_zero _)) ?_
    rintro m' nw h6 tk6 F6 N6 ⟨rfl, rfl⟩
    have hlen' := hlen rfl
    k_steps
    rename_i v9 h9 tk9 hv9 h7 F7 N7 kF7 kN7 kT7 kX7
    exact hret _ _ _ _ ⟨rfl, hv9⟩ kF7 (cb_drop kN7 fun p hp => .tail _ (.tail _ (.tail _ (.tail _ (.tail _ (.tail _ (.tail _ hp)))))))
  · exact List.forall_mem_cons.mpr ⟨lf', List.forall_mem_cons.mpr ⟨lP.2.2.2.2, List.forall_mem_cons.mpr ⟨le, List.forall_mem_cons.mpr ⟨ld, List.forall_mem_cons.mpr ⟨lc, List.forall_mem_cons.mpr ⟨lb, (fun _ h => nomatch h)⟩⟩⟩⟩⟩⟩
theorem getter_hitT {w : World} {rest : List (Addr × Obj)}
    {p : Program} {loose : List Str} {mean : ExcName → Option Value} {mg mb : Str → Option Value}
    {dp un : Nat} {gd : Option (List Code)} {cn : Str} {cs : Scope} {a : Addr} {ccd : Value} {cl : List (Str × Addr)} {outer : List Env} {A₀ : Around} {base h₀ : Heap} {L : Addr} {m : Str → Option Value} {s : Shared} {Q E : Value → Shared → Prop} (c' : Addr) (oc : Obj) (vs : Array Value) (t : Tok) (hoc : (c', oc) ∈ rest) (dd1 : oc.data = .fields vs) (dd2 : vs[1]? = some (.str getQual t)) (B : Below A₀ base outer h₀) (F : Fr h₀ L s.heap m) (X : (hd1.heap_39 w.params).In h₀) (N : News h₀ L s.heap ((225, tabObj #[rawInt 97, rawInt 4, .ref c']) :: rest)) (T : Top p loose mean mg mb h₀) (hk : cs.kind = .function) (hd : dp + 20 < recursionLimit) (hu : un + 1200 < cLine) (C : CodeHd h₀ 229 225)
    (hr : ∀ p ∈ rest, p.1 ≠ 225)
    (ret : ∀ f own h' tk', Getter w f ((c', oc) :: own) true → (∀ q ∈ own, AllLt q.1 ((225, tabObj #[rawInt 97, rawInt 4, .ref c']) :: rest)) → Fr h₀ L h' m → News h₀ L h' (own ++ (225, tabObj #[rawInt 97, rawInt 4, .ref c']) :: rest) → Q (.ref f) { s with heap := h', toks := tk' }) :
    wpAny (model PySem.Challenge.rw_bb0048_01.row.prog w) (ktrTop dp un gd cn cs L a ccd cl outer) (call (.ref 230) [.none, .none] [(Str.ofString "postprocess", .none), (Str.ofString "default", .none)]) Q E s := by
  revert X; k_fill; intro X
  refine wpAny_call ?_
  walk_at "enter"
  rename_i g' L' hA tkA FG F0 B' X' T' la lb lc ld c1 c2 c3 c4 dc1 dc2 dc3 dc4 N0
  have le : @LT.lt Nat _ 225 (L' + 1 + 1 + 1 + 1) ∧ AllLt (L' + 1 + 1 + 1 + 1) rest := ⟨Nat.lt_succ_of_lt ld.1, allLt_of fun p hp => Nat.lt_succ_of_lt (ktn_ltOf ld.2 p hp)⟩
  have C' := CodeHd.keeps C FG.keep
  k_steps
  rename_i P h1 tk1 lP h2 o1 d1 f ct dc h3 tk3 lf h4 F4 N4 kF kN kT kX
  have lf' := lf.2.2.2.2.2
  have kN' := kN
  refine ret f ((f, _) :: (P, listOf #[] 0) :: (L' + 1 + 1 + 1 + 1, o1) :: (L' + 1 + 1 + 1, c2) :: (L' + 1 + 1, c3) :: [(L' + 1, c4)])  _ _ ?_  ?_ kF kN'
  · clear kN kN' N4 F4 kF N F kT kX ret X hu hd
    refine ⟨⟨_, .tail _ (.head _), _, rfl⟩, ?_⟩
    intro news v d k hsub hv hkb hlen p loose mean mg mb dp un gd cn cs a ccd cl outer A₀ base h₀ L m s Q E B F X N T hk hd hu hret
    have N1 := cb_drop N (subMid hsub subSelf)
    simp only [List.cons_append, List.nil_append] at N1
    revert X; k_fill; intro X
    refine wpAny_call ?_
    walk_at "enter_nest"
    rename_i g5 L5 h5 FG5 F5 N5 B5 X5 T5
    k_steps
    refine SrcF.list (vs := []) (k := 0) (J := fun _ m₁ nw => m₁ = _ ∧ nw = _) rfl F5 N5 (by k_mem) (fun _ _ _ h => h.2 ▸ by k_mem) ⟨rfl, rfl⟩ (fun _ _ _ _ _ _ _ _ _ hi => absurd hi (Nat.not_lt_zero _)) ?_
    rintro m' nw h6 tk6 F6 N6 ⟨rfl, rfl⟩
    k_steps
    exact hret _ _ _ _ ⟨rfl, hv⟩ (by with_reducible assumption) (cb_drop (by with_reducible assumption) fun p hp => .tail _ (.tail _ (.tail _ (.tail _ (.tail _ (.tail _ (.tail _ hp)))))))
  · exact List.forall_mem_cons.mpr ⟨lf', List.forall_mem_cons.mpr ⟨lP.2.2.2.2, List.forall_mem_cons.mpr ⟨le, List.forall_mem_cons.mpr ⟨ld, List.forall_mem_cons.mpr ⟨lc, List.forall_mem_cons.mpr ⟨lb, (fun _ h => nomatch h)⟩⟩⟩⟩⟩⟩
theorem getter_out {w : World} {rest : List (Addr × Obj)}
    {p : Program} {loose : List Str} {mean : ExcName → Option Value} {mg mb : Str → Option Value}
    {dp un : Nat} {gd : Option (List Code)} {cn : Str} {cs : Scope} {a : Addr} {ccd : Value} {cl : List (Str × Addr)} {outer : List Env} {A₀ : Around} {base h₀ : Heap} {L : Addr} {m : Str → Option Value} {s : Shared} {Q E : Value → Shared → Prop} (c' : Addr) (oc : Obj) (vs : Array Value) (t : Tok) (hoc : (c', oc) ∈ rest) (dd1 : oc.data = .fields vs) (dd2 : vs[1]? = some (.str getQual t)) (B : Below A₀ base outer h₀) (F : Fr h₀ L s.heap m) (X : (hd1.heap_39 w.params).In h₀) (N : News h₀ L s.heap ((225, tabObj #[rawInt 97, rawInt 4, .ref c']) :: rest)) (T : Top p loose mean mg mb h₀) (hk : cs.kind = .function) (hd : dp + 20 < recursionLimit) (hu : un + 1200 < cLine) (C : CodeHd h₀ 229 225)
    (hr : ∀ p ∈ rest, p.1 ≠ 225)
    (ret : ∀ f own h' tk', Getter w f ((c', oc) :: own) true → (∀ q ∈ own, AllLt q.1 ((225, tabObj #[rawInt 97, rawInt 4, .ref c']) :: rest)) → Fr h₀ L h' m → News h₀ L h' (own ++ (225, tabObj #[rawInt 97, rawInt 4, .ref c']) :: rest) → Q (.ref f) { s with heap := h', toks := tk' }) :
    wpAny (model PySem.Challenge.rw_bb0048_01.row.prog w) (ktrTop dp un gd cn cs L a ccd cl outer) (call (.ref 230) [.none, .none] [(Str.ofString "default", .none)]) Q E s := by
  revert X; k_fill; intro X
  refine wpAny_call ?_
  walk_at "enter"
  rename_i g' L' hA tkA FG F0 B' X' T' la lb lc ld c1 c2 c3 c4 dc1 dc2 dc3 dc4 N0
  have le : @LT.lt Nat _ 225 (L' + 1 + 1 + 1 + 1) ∧ AllLt (L' + 1 + 1 + 1 + 1) rest := ⟨Nat.lt_succ_of_lt ld.1, allLt_of fun p hp => Nat.lt_succ_of_lt (ktn_ltOf ld.2 p hp)⟩
  have C' := CodeHd.keeps C FG.keep
  k_steps
  rename_i P h1 tk1 lP h2 o1 d1 f ct dc h3 tk3 lf h4 F4 N4 kF kN kT kX
  have lf' := lf.2.2.2.2.2
  have kN' := kN
  refine ret f ((f, _) :: (P, listOf #[] 0) :: (L' + 1 + 1 + 1 + 1, o1) :: (L' + 1 + 1 + 1, c2) :: (L' + 1 + 1, c3) :: [(L' + 1, c4)])  _ _ ?_  ?_ kF kN'
  · clear kN kN' N4 F4 kF N F kT kX ret X hu hd
    refine ⟨⟨_, .tail _ (.head _), _, rfl⟩, ?_⟩
    intro news v d k hsub hv hkb hlen p loose mean mg mb dp un gd cn cs a ccd cl outer A₀ base h₀ L m s Q E B F X N T hk hd hu hret
    have N1 := cb_drop N (subMid hsub subSelf)
    simp only [List.cons_append, List.nil_append] at N1
    revert X; k_fill; intro X
    refine wpAny_call ?_
    walk_at "enter_nest"
    rename_i g5 L5 h5 FG5 F5 N5 B5 X5 T5
    k_steps
    refine SrcF.list (vs := []) (k := 0) (J := fun _ m₁ nw => m₁ = _ ∧ nw = _) rfl F5 N5 (by k_mem) (fun _ _ _ h => h.2 ▸ by k_mem) ⟨rfl, rfl⟩ (fun _ _ _ _ _ _ _ _ _ hi => absurd hi (Nat.not_lt_zero _)) ?_
    rintro m' nw h6 tk6 F6 N6 ⟨rfl, rfl⟩
    k_steps
    exact hret _ _ _ _ ⟨rfl, hv⟩ (by with_reducible assumption) (cb_drop (by with_reducible assumption) fun p hp => .tail _ (.tail _ (.tail _ (.tail _ (.tail _ (.tail _ (.tail _ hp)))))))
  · exact List.forall_mem_cons.mpr ⟨lf', List.forall_mem_cons.mpr ⟨lP.2.2.2.2, List.forall_mem_cons.mpr ⟨le, List.forall_mem_cons.mpr ⟨ld, List.forall_mem_cons.mpr ⟨lc, List.forall_mem_cons.mpr ⟨lb, (fun _ h => nomatch h)⟩⟩⟩⟩⟩⟩
end
end
end
end
end
section
local macro_rules | `(tactic| walk_at "eval ListComp") => `(tactic| (k_here; k_dflt (refine listComp_J (_F := by k_asm) (by with_unfolding_all rfl) (by decide) (by rfl) (by decide) (by rfl) ?_)))
local macro_rules | `(tactic| walk_at "exec Assign cons ListComp") => `(tactic| (k_here; k_dflt (refine assignComp_J (_F := by k_asm) (by rfl) (by with_unfolding_all rfl) (by with_unfolding_all rfl) (by decide) (by rfl) (by decide) (by rfl) (by rfl) (by rfl) ?_)))
section
local macro_rules | `(tactic| walk_at "call ref") => `(tactic| (k_here; (with_reducible show wpAny _ _ (call (Value.ref 316) _ _) _ _ _); k_dflt (refine' word_use ?B ?F ?X ?N ?T ?hk ?p1 ?p2 ?hDS ?hDr ?hSr ?hd ?hu ?ok ?_; (case B => k_asm); (case F => k_asm); (case X => k_asm); (case N => k_asm); (case T => k_asm); (case hk => first | exact rfl | assumption); (case p1 => walk_at "pick"); (case p2 => walk_at "pick"); (case hDS => (first | assumption | k_ne)); (case hDr => k_all); (case hSr => k_all); (case hd => walk_at "room"); (case hu => (have hcL9 := cLine_is; walk_at "room")); (case ok => assumption)); intro x9 q9 t9 u9 n9 k9 vs9 h9 tk9 ok9 hx9 F9 N9))
section
local macro_rules | `(tactic| walk_at "exec For") => `(tactic| (k_here; (with_reducible show wpAny _ _ (exec (Stmt.For (Expr.Name _ _) _ _ _ _) _) _ _ _); k_dflt (refine for_J (_F := by k_asm) ?_ (by intro _; rfl) (by passes_own))))
local macro_rules | `(tactic| walk_at "exec For Name Name cons nil") => `(tactic| (k_here; k_dflt (refine for_J (_F := by k_asm) ?_ (by intro _; rfl) (by passes_own))))
local macro_rules | `(tactic| walk_at "exec For Name Call cons nil") => `(tactic| (k_here; k_dflt (refine for_J (_F := by k_asm) ?_ (by intro _; rfl) (by passes_own))))
local macro_rules | `(tactic| walk_at "PostF") => `(tactic| (dsimp only [PostF]))
section
local macro_rules | `(tactic| walk_at "call ref") => `(tactic| (k_here; (with_reducible show wpAny _ _ (call (Value.ref 328) _ _) _ _ _); k_dflt (refine' kind_use ?B ?F ?X ?N ?T ?hk ?hd ?hu ?hv ?hk2 ?hl ?_; (case B => k_asm); (case F => k_asm); (case X => k_asm); (case N => k_asm); (case T => k_asm); (case hk => first | exact rfl | assumption); (case hd => walk_at "room"); (case hu => (have hcL9 := cLine_is; walk_at "room")); (case hv => with_reducible assumption); (case hk2 => with_reducible assumption); (case hl => with_reducible assumption)); intro v9 h9 tk9 hv9 hk9 F9 N9))
local macro_rules | `(tactic| walk_at "compareOp LtE") => `(tactic| (k_here; refine' le_D ?a ?b ?c ?d ?_; (case a => with_reducible assumption); (case b => with_reducible assumption); (case c => with_reducible assumption); (case d => with_reducible assumption)))
local macro_rules | `(tactic| walk_at "compareOp Eq") => `(tactic| (k_here; refine' eq_D ?a ?b ?c ?d ?_; (case a => with_reducible assumption); (case b => with_reducible assumption); (case c => with_reducible assumption); (case d => with_reducible assumption)))
section
local macro_rules | `(tactic| walk_at "compareOp Eq ref ref") => `(tactic| (k_here; k_dflt (refine' eq_nil ?N ?a ?b ?d ?k ?u ?_; (case N => k_asm); (case a => k_mem); (case b => k_mem); (case d => with_reducible assumption); (case k => with_reducible assumption); (case u => units_room))))
local macro_rules | `(tactic| walk_at "call builtin:list.append") => `(tactic| (k_here; k_dflt (refine' append_L ?F ?N ?U ?z ?_; (case F => k_asm); (case N => k_asm); (case U => k_upd); (case z => walk_at "size")); intro h9 F9 N9))
section
section
variable {prog : Program} {w : World} {A : Around} {E : Value → Shared → Prop} {s : Shared} {h₀ : Heap} {L : Addr} {m : Str → Option Value} {env : Env} {K : Type} [DecidableEq K] {knd : KeyKind prog w K}
theorem SrcJ.dict {elt : Expr} {x : Str} {ifs : List Expr} {scope : Scope} {cl : List (Str × Addr)} {mF : Addr → Str → Option Value} {Q : Value → Shared → Prop} {d : Addr} {od : Obj} {kvs : List (K × Value)} {news : List (Addr × Obj)} (J : Nat → List Value → List (Addr × Obj) → Prop)
    (lo : (d == sysModules) = false) (hh : A.handled = none) (F : Fr h₀ L s.heap m) (N : News h₀ L s.heap news) (hm : (d, od) ∈ news) (hod : od.IsDictOf knd kvs) (hsz : kvs.length ≤ 1000) (hJm : ∀ j ys nw, J j ys nw → (d, od) ∈ nw) (hJ : J 0 [] news)
    (turn : ∀ g, TurnsJ prog w A h₀ L m env elt ifs x scope cl { s with heap := g } kvs.length (fun i v => ∃ k x, kvs[i]? = some (k, x) ∧ knd.is k v = true) J)
    (fin : ∀ D ys news' h tk, Fr h₀ L h (mF D) → News h₀ L h ((D, lst ys) :: news') → Off1 D news' → J kvs.length ys news' → Q (.ref D) { s with heap := h, toks := tk }) :
    SrcJ prog w A h₀ L m env elt ifs x scope cl mF Q (.ref d) s := by
  obtain ⟨ep, hat⟩ := KdkAt.of hod
  have hg := (N _ hm).1
  have hlt : d < s.heap.objs.size := Heap.lt_size hg
  refine ⟨kvs.length, fun i v => ∃ k x, kvs[i]? = some (k, x) ∧ knd.is k v = true, fun i h => h.IsKeyIter s.heap.objs.size d i kvs.length ep ∧ h.DictAt knd d kvs ep, [s.heap.objs.size, d], news, J, F, N, by rw [sizeLine_eq]; omega, hJ, ?_, ?_, ?_, ?_, turn, fin⟩
  · intro b hb
    rcases List.mem_cons.mp hb with rfl | hb
    · exact Nat.lt_succ_self _
    · rw [List.mem_singleton.mp hb]; exact Nat.lt_succ_of_lt hlt
  · intro i h st
    obtain ⟨o, e, _⟩ := st.1
    exact ⟨o, e⟩
  · intro Q' hQ' E'
    exact wpAny_pyIter_dict lo (hat.dictAt hg) (hQ' _ (Walks.dictKeys hh _ d (Nat.ne_of_lt hlt) kvs ep) ⟨⟨_, Heap.get?_push_size _ rfl, rfl, rfl⟩, (hat.dictAt hg).push _⟩)
  · intro i j ys h h' o nw st e e' hk N' hJ'
    exact ⟨by obtain ⟨o', q, r⟩ := st.1; rw [e] at q; cases q; exact ⟨o, e', r⟩, hat.dictAt (N' _ (hJm _ _ _ hJ')).1⟩
end
abbrev itemsView (d : Addr) : Obj := { cls := .type "dict_items", data := .fields #[.ref d] }
theorem tups_of {prog : Program} {w : World} {h : Heap} : ∀ (as : List Addr) (kvs : List (Str × Value)) (c : List (Str × Str)), as.length = kvs.length → DictRel kvs c →
    (∀ (j : Nat) (a : Addr), as[j]? = some a → ∃ key k x, kvs[j]? = some (k, x) ∧ (PySem.strKind prog w).is k key = true ∧ h.get? a = some ({ cls := .type "tuple", data := .seq #[key, x] } : Obj)) →
    ∃ tups, DatAll tups (as.map Value.ref) (c.map pairD) ∧ ∀ q ∈ tups, q.1 ∈ as ∧ h.get? q.1 = some q.2
  | [], [], [], _, _, _ => ⟨[], .nil, fun _ hq => nomatch hq⟩
  | [], [], _ :: _, _, hr, _ => by have := hr.length; simp at this
  | [], _ :: _, _, hl, _, _ => by simp at hl
  | _ :: _, [], _, hl, _, _ => by simp at hl
  | a :: as, kv :: kvs, [], _, hr, _ => by have := hr.length; simp at this
  | a :: as, (k, x) :: kvs, p :: c, hl, hr, hp => by
    obtain ⟨h1, h2⟩ := hr
    simp only [List.map_cons, List.cons.injEq] at h1
    obtain ⟨hk1, hk2⟩ := h1
    cases h2 with
    | cons hx hxs =>
    obtain ⟨key, k', x', e1, e2, e3⟩ := hp 0 a rfl
    simp only [List.getElem?_cons_zero, Option.some.injEq, Prod.mk.injEq] at e1
    obtain ⟨rfl, rfl⟩ := e1
    obtain ⟨t, rfl⟩ := Value.isStrOf_shape e2
    subst hk1
    obtain ⟨tups, hD, hT⟩ := tups_of as kvs c (by simpa using hl) ⟨hk2, hxs⟩ (fun j b hj => by
      obtain ⟨key, k, y, f1, f2⟩ := hp (j + 1) b (by simpa using hj)
      exact ⟨key, k, y, by simpa using f1, f2⟩)
    refine ⟨(a, ({ cls := .type "tuple", data := .seq #[.str p.1 t, x] } : Obj)) :: tups, .cons (.tuple (vs := [.str p.1 t, x]) (n := 0) (.head _) (.cons (.str _ _) (.one (hx.mono subNil)))) (hD.mono fun q hq => .tail _ hq), fun q hq => ?_⟩
    rcases List.mem_cons.mp hq with rfl | hq
    · exact ⟨.head _, e3⟩
    · obtain ⟨z1, z2⟩ := hT q hq
      exact ⟨.tail _ z1, z2⟩
section
variable {prog : Program} {w : World} {A : Around} {E : Value → Shared → Prop} {s : Shared} {h₀ : Heap} {L v d : Addr} {od : Obj} {m : Str → Option Value} {news : List (Addr × Obj)} {b : Bool} {Q : Value → Shared → Prop} {lt : Nat → Nat → Bool} {T : Value} {f : Value} {kvs : List (Str × Value)} {c : List (Str × Str)}
/-- sorted(table.items(), key=f, reverse=b) -/
theorem ksg_items {kw : List (Str × Value)} {K : List (Addr × Obj) → List Value → Nat → List Value → List (Addr × Obj) → Prop} (hh : A.handled = none) (F : Fr h₀ L s.heap m) (N : News h₀ L s.heap news) (hvw : (v, itemsView d) ∈ news) (hmd : (d, od) ∈ news) (hod : od.IsDictOf (PySem.strKind prog w) kvs) (hrel : DictRel kvs c) (h64 : c.length < 64)
    (ha1 : argsOk "sorted" ⟨[.ref v], kw⟩) (ha2 : ∀ x, argsOk "list.sort" ⟨[.ref x], kw⟩) (ht : ∀ x, Builtin.«list.sort» ⟨[.ref x], kw⟩ = ksk_tree x f b)
    (ok : ∀ tups vs, DatAll tups vs (c.map pairD) → KeyOk prog w A.in1.in1 h₀ L m (tups ++ news) s f vs lt T (K tups vs)) (hT1 : (T != Value.type "tuple") = true) (hT2 : (T == T) = true)
    (h : ∀ D h' tk out n tups vs, DatAll tups vs (c.map pairD) → Fr h₀ L h' m → News h₀ L h' ((D, listOf (List.toArray out) n) :: (tups ++ news)) → (∀ q ∈ tups ++ news, q.1 < D) → (∀ q ∈ tups, ∀ p ∈ news, p.1 < q.1) → SortOut b lt vs out → Q (.ref D) { s with heap := h', toks := tk }) :
    wpAny (model prog w) A (call (.builtin "sorted") [.ref v] kw) Q E s := by
  obtain ⟨ep, hat⟩ := KdkAt.of hod
  have hkl := hrel.length
  refine call_function_entry_kw kind_sorted plain_sorted entry_sorted ha1 ?_
  unfold Builtin.«sorted»
  refine wpAny_bind (m := checkCount "sorted" 1 1 _) (wpAny_pure ?_)
  refine wpAny_bind (kdx_collect (A := A.in1) (knd := PySem.strKind prog w) (kvs := kvs) (ep := ep) hh ⟨_, (N _ hvw).1, rfl, rfl⟩ (hat.dictAt (N _ hmd).1) (by rw [sizeLine_eq]; omega) fun h1 tk1 as hk hl hG => ?_)
  obtain ⟨tups, hD, hT⟩ := tups_of as kvs c hl hrel hG.pairs
  have N1 : News h₀ L h1 (tups ++ news) := fun q hq => by
    rcases List.mem_append.mp hq with hq | hq
    · obtain ⟨z1, z2⟩ := hT q hq
      exact ⟨z2, kdx_fresh F (Nat.le_of_lt (hG.above _ z1))⟩
    · exact ⟨hk _ _ (N q hq).1, (N q hq).2⟩
  have F1 := F.keeps hk
  have hup : ∀ q ∈ tups, ∀ p ∈ news, p.1 < q.1 := fun q hq p hp => Nat.lt_trans (Heap.lt_size (N p hp).1) (hG.above _ (hT q hq).1)
  have hvl : (as.map Value.ref).length < 64 := by rw [List.length_map]; omega
  generalize as.map Value.ref = vs at hD hvl
  refine wpAny_bind (wpAny_newList ?_ (by rw [sizeLine_eq]; omega))
  have hoL : (h1.push (seqObj "list" vs.toArray 0)).get? h1.objs.size = some (seqObj "list" vs.toArray 0) := Heap.get?_push_size _ rfl
  have keep : ∀ b o, h1.get? b = some o → (h1.push (seqObj "list" vs.toArray 0)).get? b = some o := fun b o q => Heap.get?_push_of_some _ q
  have hL : L < h1.objs.size := F1.ns.lt
  show wpAny _ _ _ _ _ { s with heap := h1.push (seqObj "list" vs.toArray 0), toks := tk1 }
  refine wpAny_bind (wpAny_holding (wpAny_call_entry_kw slot_list_sort ⟨_, hoL, rfl⟩ entry_list_sort ?body (ha2 _)))
  case body =>
    have ht' := ht h1.objs.size
    show wpAny (model prog w) A.in1.in1 (Builtin.«list.sort» ⟨[.ref h1.objs.size], kw⟩) _ _ _
    rw [ht']
    refine ksg_sort (s := { s with heap := h1.push (seqObj "list" vs.toArray 0), toks := tk1 })
      (F1.kept keep) (N1.grown keep) hoL (Nat.ne_of_gt hL) (Heap.get?_none_of_le (Nat.le_trans F1.above (Nat.le_of_lt hL)))
      (fun p hp => Nat.ne_of_lt (Heap.lt_size (N1 p hp).1)) hvl (ok tups vs hD).heap hT1 hT2 fun h' tk out c' made F' N' k' => ⟨_, rfl, ?_⟩
    refine wpAny_pure ⟨_, rfl, h _ h' tk out.toList c' tups vs hD F' (fun p hp => ?_) (fun q hq => Heap.lt_size (N1 q hq).1) hup k'⟩
    rcases List.mem_cons.mp hp with rfl | hp
    · have z := N' _ (List.mem_cons_self ..)
      rw [Array.toArray_toList]; exact z
    · exact N' p (.tail _ (List.mem_append_right _ hp))
end
end
section
local macro_rules | `(tactic| k_all) => `(tactic| (tbn_letter; refine' allSub ?ah ?as; (case ah => with_reducible assumption); (case as => k_sub)))
local macro_rules | `(tactic| walk_at "call ref") => `(tactic| (k_here; (first | (with_reducible show wpAny _ _ (call (Value.ref 352) _ _) _ _ _) | (with_reducible show wpAny _ _ (call (Value.ref 357) _ _) _ _ _)); k_dflt (first
  | (refine' sorted_use ?B ?F ?X ?N ?T ?hk ?hd ?hu ?pk ?hR ?ok ?hRr ?_; (case B => k_asm); (case F => k_asm); (case X => k_asm); (case N => k_asm); (case T => k_asm); (case hk => first | exact rfl | assumption); (case pk => walk_at "pick"); (case hR => with_reducible assumption); (case ok => with_reducible assumption); (case hRr => k_all); (case hd => walk_at "room"); (case hu => (have hcL9 := cLine_is; walk_at "room")))
  | (refine' first_use ?B ?F ?X ?N ?T ?hk ?hd ?hu ?pk ?hR ?ok ?hRr ?_; (case B => k_asm); (case F => k_asm); (case X => k_asm); (case N => k_asm); (case T => k_asm); (case hk => first | exact rfl | assumption); (case pk => walk_at "pick"); (case hR => with_reducible assumption); (case ok => with_reducible assumption); (case hRr => k_all); (case hd => walk_at "room"); (case hu => (have hcL9 := cLine_is; walk_at "room")))); intro J9 vs9 k9 h9 tk9 hD9 ok9 hne9 F9 N9; (have hn9 := gnNe_of hne9); (simp only [GnNe] at hn9)))
section
local macro_rules | `(tactic| walk_at "inplaceOp Add ref") => `(tactic| (k_here; (with_reducible show wpAny _ _ (inplaceOp Operator.Add (Value.ref _) (Value.ref _)) _ _ _); k_dflt (refine' iadd_L ?F ?N ?b ?e ?U ?z ?_; (case F => k_asm); (case N => k_asm); (case b => k_mem); (case U => k_upd); (case e => (simp only [List.length_replicate]; omega)); (case z => (simp only [List.length_replicate]; omega))); intro h9 F9 N9))
local macro_rules | `(tactic| walk_at "binaryOp Mult ref int") => `(tactic| (k_here; (with_reducible show wpAny _ _ (binaryOp Operator.Mult (Value.ref _) (Value.int _ _)) _ _ _); k_dflt (refine' mul1_L ?F ?N ?l ?lo ?hi ?_; (case F => k_asm); (case N => k_asm); (case l => k_mem); (case lo => omega); (case hi => omega)); intro D' h' F' N' l1; (try k_lt l1)))
local macro_rules | `(tactic| walk_at "call type:list") => `(tactic| (k_here; (with_reducible show wpAny _ _ (call (Value.type _) [Value.ref _]) _ _ _); k_dflt (refine' copy_L ?F ?N ?b ?z ?_; (case F => k_asm); (case N => k_asm); (case b => k_mem); (case z => walk_at "size")); intro D' c' h' F' N' l1; (try k_lt l1)))
local macro_rules | `(tactic| walk_at "subscriptTail") => `(tactic| (k_here; (with_reducible show wpAny _ _ (subscriptTail _ _ (Value.ref _) (Value.int (-1) _)) _ _ _); k_dflt (refine' last_L ?N ?m ?z ?_ ?hs; (case N => k_asm); (case m => k_mem); (case z => (try simp only [List.length_cons, List.length_nil, List.length_append]); omega); (case hs => with_unfolding_all rfl))))
local macro_rules | `(tactic| walk_at "setItem ref int") => `(tactic| (k_here; (with_reducible show wpAny _ _ (setItem (Value.ref _) (Value.int (-1) _) _) _ _ _); k_dflt (refine' setlast_L ?F ?N ?U ?_; (case F => k_asm); (case N => k_asm); (case U => k_upd)); intro h9 F9 N9))
local macro_rules | `(tactic| walk_at "subscriptTail Name UnaryOp ref int") => `(tactic| (k_here; (with_reducible show wpAny _ _ (subscriptTail _ _ (Value.ref _) (Value.int (-1) _)) _ _ _); k_dflt (refine' last_L ?N ?m ?z ?_ ?hs; (case N => k_asm); (case m => k_mem); (case z => (try simp only [List.length_cons, List.length_nil, List.length_append]); omega); (case hs => with_unfolding_all rfl))))
section
section
variable {w : World} {p : Program} {loose : List Str} {mean : ExcName → Option Value} {mg mb : Str → Option Value}
    {dp un : Nat} {gd : Option (List Code)} {cn : Str} {cs : Scope} {a : Addr} {ccd : Value} {cl : List (Str × Addr)} {outer : List Env} {A₀ : Around} {base h₀ : Heap} {L : Addr} {m : Str → Option Value} {s : Shared} {Q E : Value → Shared → Prop}
local macro_rules | `(tactic| walk_at "binaryOp Add str str") => `(tactic| (k_here; (with_reducible show wpAny _ _ (binaryOp Operator.Add (Value.str _ _) (Value.str _ _)) _ _ _); refine SBL.add (hsz := ?hsz) ?_; (case hsz => (try rw [sizeLine_eq]); omega); intro t9 k9 e9))
local macro_rules | `(tactic| walk_at "subscriptTail") => `(tactic| (k_here; (with_reducible show wpAny _ _ (subscriptTail _ _ (Value.ref _) (Value.int _ _)) _ _ _); k_dflt (refine' item_S ?N ?m ?d ?b ?h0 ?h1 ?hz ?_ ?hs; (case N => k_asm); (case m => k_mem); (case d => with_reducible assumption); (case b => with_reducible assumption); (case h0 => omega); (case h1 => omega); (case hz => with_reducible assumption); (case hs => with_unfolding_all rfl)); intro x9 t9 hx9 hl9))
local macro_rules | `(tactic| walk_at "subscriptTail Name Name ref int") => `(tactic| (k_here; (with_reducible show wpAny _ _ (subscriptTail _ _ (Value.ref _) (Value.int _ _)) _ _ _); k_dflt (refine' item_S ?N ?m ?d ?b ?h0 ?h1 ?hz ?_ ?hs; (case N => k_asm); (case m => k_mem); (case d => with_reducible assumption); (case b => with_reducible assumption); (case h0 => omega); (case h1 => omega); (case hz => with_reducible assumption); (case hs => with_unfolding_all rfl)); intro x9 t9 hx9 hl9))
local macro_rules | `(tactic| walk_at "call builtin:str.join") => `(tactic| (k_here; (with_reducible show wpAny _ _ (call (Value.builtin "str.join") [Value.str _ _, Value.ref _]) _ _ _); k_dflt (refine' join_S ?N ?m ?d ?b ?hz ?hs ?_; (case N => k_asm); (case m => k_mem); (case d => with_reducible assumption); (case b => with_reducible assumption); (case hz => with_reducible assumption); (case hs => first | with_reducible assumption | decide)); intro t9 k9))
theorem indented_use {R : Addr} {lvs : List Value} {n : Nat} {ls : List Str} {mark : Str} {first blank : Bool} {t : Tok} {rest : List (Addr × Obj)} (B : Below A₀ base outer h₀) (F : Fr h₀ L s.heap m) (X : (hd1.heap_39 w.params).In h₀) (N : News h₀ L s.heap ((R, listOf lvs.toArray n) :: rest)) (T : Top p loose mean mg mb h₀) (hk : cs.kind = .function) (hd : dp + 40 < recursionLimit) (hu : un + 3000 < cLine)
    (hls : DatAll [] lvs (ls.map .str)) (ok : LinesOk ls) (hml : mark.length ≤ 10) (hr : ∀ p ∈ rest, p.1 ≠ R)
    (ret : ∀ t' h' tk', Fr h₀ L h' m → News h₀ L h' ((R, listOf lvs.toArray n) :: rest) → Q (.str (Txt.join nlS (foundD mark first blank ls)) t') { s with heap := h', toks := tk' }) :
    wpAny (model PySem.Challenge.rw_bb0048_01.row.prog w) (ktrTop dp un gd cn cs L a ccd cl outer) (call (.ref 369) [.ref R, .str mark t, .bool first, .bool blank]) Q E s := by
  have X₀ := X
  have hll := hls.length
  rw [List.length_map] at hll
  have hl4 := ok.2.1
  revert X; k_fill; intro X
  refine wpAny_call ?_
  walk_at "enter"
  k_steps
  rename_i g' L' hA FG B' X' T' tk1 f0 h1 l1 h2 F2 N2 h3 tk3 t1 u1 v1 hr3 F3 N3 hk3
  have hB : ∀ l ∈ ls, l.length ≤ 9 := fun l hl => words4_len l (ok.2.2 l hl)
  have hpos : 0 < ls.length := List.length_pos_iff.mpr ok.1
  obtain ⟨n4, hnr, hn, hsm⟩ := range1_facts (r := (lvs.length : Int)) (by omega) (by omega)
  have F4 := fr_known (x := Str.ofString "blank") (v := some (.bool blank)) (fr_known (x := Str.ofString "first") (v := some (.bool first)) (fr_known (x := Str.ofString "width") (v := some (.str mark t)) (fr_known (x := Str.ofString "lines") (v := some (.ref R)) F3 (by first | rfl | with_unfolding_all rfl | kernel_rfl)) (by first | rfl | with_unfolding_all rfl | kernel_rfl)) (by first | rfl | with_unfolding_all rfl | kernel_rfl)) (by first | rfl | with_unfolding_all rfl | kernel_rfl)
  have F5 := fr_known (x := Str.ofString "found") (v := some (.ref f0)) F4 (by first | rfl | with_unfolding_all rfl | kernel_rfl)
  obtain ⟨m0, F6⟩ : ∃ m0 : Str → Option Value, Fr g' L' h3 (fun y => if y = Str.ofString "found" then some (.ref f0) else if y = Str.ofString "blank" then some (.bool blank) else if y = Str.ofString "first" then some (.bool first) else if y = Str.ofString "width" then some (.str mark t) else if y = Str.ofString "lines" then some (.ref R) else m0 y) := ⟨_, F5⟩
  clear F2 F3 F4 F5
  refine SrcF.range (J := fun i m₁ nw => ∃ uk fvs kk, m₁ = (fun y => if y = Str.ofString "k" then uk else if y = Str.ofString "found" then some (.ref f0) else if y = Str.ofString "blank" then some (.bool blank) else if y = Str.ofString "first" then some (.bool first) else if y = Str.ofString "width" then some (.str mark t) else if y = Str.ofString "lines" then some (.ref R) else m0 y) ∧ nw = (f0, listOf (List.toArray fvs) kk) :: (R, listOf lvs.toArray n) :: rest ∧ DatAll [] fvs ((foundD mark first blank (ls.take i)).map .str)) rfl F6 N3 hr3 hsm hn ⟨_, [], 0, mapSelf _ _, rfl, .nil⟩ ?_ ?_
  · intro g i v I oI h tk m₁ nw hi ⟨tv, hv⟩ ⟨uk, fvs, kk, hm₁, hnw, hfv⟩ F7 N7 off
    subst hm₁ hnw hv
    have off' := gnNe_of off
    simp only [GnNe] at off'
    have hil : i < ls.length := by omega
    have hfl4 : fvs.length ≤ 4 := by
      have z := hfv.length
      rw [List.length_map, foundD_length, List.length_take] at z
      omega
    obtain ⟨li, hli⟩ : ∃ li, ls[i]? = some li := ⟨_, List.getElem?_eq_getElem hil⟩
    have key : ∀ (x : Str) (tt : Tok), x = (if i = 0 then (if first then mark else Str.ofString "") ++ li else (if blank || !(li == Str.ofString "") then mark else Str.ofString "") ++ li) → DatAll [] (fvs ++ [.str x tt]) ((foundD mark first blank (ls.take (i + 1))).map .str) := fun x tt e => by
      rw [foundD_take hli, List.map_append, ← e]
      exact hfv.append (.one (.str _ _))
    have fin : ∀ {x : Str} {tt : Tok} {h9 : Heap} {tk9 : Nat} {m9 : Str → Option Value} {s9 : Shared}, Fr g' L' h9 (fun z => if z = Str.ofString "k" then some (Value.int (0 + (i : Int) * 1) tv) else if z = Str.ofString "k" then uk else if z = Str.ofString "found" then some (.ref f0) else if z = Str.ofString "blank" then some (.bool blank) else if z = Str.ofString "first" then some (.bool first) else if z = Str.ofString "width" then some (.str mark t) else if z = Str.ofString "lines" then some (.ref R) else m0 z) → News g' L' h9 ((I, oI) :: (f0, listOf (List.toArray (fvs ++ [.str x tt])) (kk + 1)) :: (R, listOf lvs.toArray n) :: rest) →
        x = (if i = 0 then (if first then mark else Str.ofString "") ++ li else (if blank || !(li == Str.ofString "") then mark else Str.ofString "") ++ li) →
        TurnF g' L' s9 I oI (fun m₁ nw => ∃ uk fvs kk, m₁ = (fun y => if y = Str.ofString "k" then uk else if y = Str.ofString "found" then some (.ref f0) else if y = Str.ofString "blank" then some (.bool blank) else if y = Str.ofString "first" then some (.bool first) else if y = Str.ofString "width" then some (.str mark t) else if y = Str.ofString "lines" then some (.ref R) else m0 y) ∧ nw = (f0, listOf (List.toArray fvs) kk) :: (R, listOf lvs.toArray n) :: rest ∧ DatAll [] fvs ((foundD mark first blank (ls.take (i + 1))).map .str)) { s9 with heap := h9, toks := tk9 } := by
      intro x tt h9 tk9 m9 s9 F9 N9 e
      refine TurnF.intro ((f0, listOf (List.toArray (fvs ++ [.str x tt])) (kk + 1)) :: (R, listOf lvs.toArray n) :: rest) F9 N9 subSelf (fun p hp => ?_) ⟨_, fvs ++ [.str x tt], kk + 1, mapDup _ _ _, rfl, key x tt e⟩
      rcases List.mem_cons.mp hp with rfl | hp
      · exact off (f0, listOf (List.toArray fvs) kk) (.head _)
      · exact off p (.tail _ hp)
    clear F6 N3 N2
    k_steps
    · rename_i hk0 hf x9 t9 hx9 hl9 t9' k9 e9 h9 F9 N9
      have hi0 : i = 0 := by omega
      refine fin (m9 := m0) F9 N9 ?_
      rw [if_pos hi0, hf, if_pos rfl, Option.some.inj (hx9.symm.trans (by rw [← hli, hi0]; rfl))]
    · rename_i hk0 hf x9 t9 hx9 hl9 t9' k9 e9 h9 F9 N9
      have hi0 : i = 0 := by omega
      refine fin (m9 := m0) F9 N9 ?_
      rw [if_pos hi0, hf, if_neg Bool.false_ne_true, Option.some.inj (hx9.symm.trans (by rw [← hli, hi0]; rfl))]
    · rename_i hk0 hf x9 t9 hx9 hl9 t9' k9 e9 h9 F9 N9
      have hi0 : i ≠ 0 := by omega
      have hti : ((0 : Int) + (i : Int) * 1).toNat = i := by omega
      rw [hti] at hx9
      refine fin (m9 := m0) F9 N9 ?_
      rw [if_neg hi0, hf, Bool.true_or, if_pos rfl, Option.some.inj (hx9.symm.trans hli)]
    · rename_i hk0 hf y9 ty hy9 hly9 hne x9 t9 hx9 hl9 t9' k9 e9 h9 F9 N9
      have hi0 : i ≠ 0 := by omega
      have hti : ((0 : Int) + (i : Int) * 1).toNat = i := by omega
      rw [hti] at hx9 hy9
      refine fin (m9 := m0) F9 N9 ?_
      have ey := Option.some.inj (hy9.symm.trans hli)
      subst ey
      have hb : (!(y9 == Str.ofString "")) = true := hne
      rw [if_neg hi0, hf, Bool.false_or, hb, if_pos rfl, Option.some.inj (hx9.symm.trans hli)]
    · rename_i hk0 hf y9 ty hy9 hly9 hne x9 t9 hx9 hl9 t9' k9 e9 h9 F9 N9
      have hi0 : i ≠ 0 := by omega
      have hti : ((0 : Int) + (i : Int) * 1).toNat = i := by omega
      rw [hti] at hx9 hy9
      refine fin (m9 := m0) F9 N9 ?_
      have ey := Option.some.inj (hy9.symm.trans hli)
      subst ey
      have hb : (!(y9 == Str.ofString "")) = false := hne
      rw [if_neg hi0, hf, Bool.false_or, hb, if_neg Bool.false_ne_true, Option.some.inj (hx9.symm.trans hli)]
  · rintro m' nw h tk F7 N7 ⟨uk, fvs, kk, rfl, rfl, hfv⟩
    have hnl : n4 = ls.length := by omega
    rw [hnl, List.take_length] at hfv
    have hf4 : (foundD mark first blank ls).length ≤ 4 := by rw [foundD_length]; exact hl4
    have hfb := foundD_bound (first := first) (blank := blank) hml hB
    k_steps
    rename_i kF kN kT kX
    exact ret _ _ _ kF (cb_drop kN (by k_sub))
end
end
section
structure HaltJ : Prop where
  it : True
theorem split_S {prog : Program} {w : World} {A : Around} {E : Value → Shared → Prop} {s : Shared} {h₀ : Heap} {L : Addr} {m : Str → Option Value} {news : List (Addr × Obj)} {la : Str} {lr : List Str} {t : Tok} {Q : Value → Shared → Prop} (F : Fr h₀ L s.heap m) (N : News h₀ L s.heap news) (ok : LinesOk (la :: lr))
    (h : ∀ D tt q h' tk, DatAll [] (.str la tt :: q) ((la :: lr).map .str) → DatAll [] q (lr.map .str) → q.length ≤ 3 → Fr h₀ L h' m → News h₀ L h' ((D, listOf (List.toArray (.str la tt :: q)) 0) :: news) → (∀ p ∈ news, p.1 < D) → Q (.ref D) { s with heap := h', toks := tk }) :
    wpAny (model prog w) A (call (.builtin "str.splitlines") [.str (Txt.join nlS (la :: lr) ++ nlS) t]) Q E s := by
  have hb := lines_back ok
  have hlen : (Txt.join nlS (la :: lr) ++ nlS).length ≤ 1000 := by
    have z := sum_len (B := 9) (l := la :: lr) fun l hl => words4_len l (ok.2.2 l hl)
    have z2 := StrLaws.join_length_le nlS (la :: lr)
    have z3 := ok.2.1
    have e1 : nlS.length = 1 := by decide +kernel
    rw [e1] at z2
    rw [Str.length_append, e1]
    show (PySem.Builtin.Str.glued nlS (la :: lr)).length + 1 ≤ 1000
    rw [StrLaws.glued_eq_join]
    omega
  refine splitlinesN F N (fun l h' k e F' N' => ?_) (by rw [sizeLine_eq]; omega) (by have e := lineCuts_le (Txt.join nlS (la :: lr) ++ nlS); rw [sizeLine_eq]; omega)
  rw [hb] at e
  cases l with
  | nil => simp at e
  | cons p q =>
    simp only [List.map_cons, List.cons.injEq] at e
    obtain ⟨e1, e2⟩ := e
    have dq : ∀ (q : List (Str × Tok)) (lr : List Str), q.map (·.1) = lr → DatAll [] (strValues q) (lr.map .str) := fun q => by
      induction q with
      | nil => intro lr e; subst e; exact .nil
      | cons x q ih => intro lr e; subst e; exact .cons (.str _ _) (ih _ rfl)
    obtain ⟨p1, p2⟩ := p
    cases e1
    exact h _ p2 (strValues q) h' k (.cons (.str _ _) (dq q lr e2)) (dq q lr e2) (by have z := (dq q lr e2).length; have z3 := ok.2.1; rw [List.length_map] at z; rw [List.length_cons] at z3; omega) F' N' fun p hp => Heap.lt_size (N p hp).1
section
variable {w : World} {p : Program} {loose : List Str} {mean : ExcName → Option Value} {mg mb : Str → Option Value}
    {dp un : Nat} {gd : Option (List Code)} {cn : Str} {cs : Scope} {a : Addr} {ccd : Value} {cl : List (Str × Addr)} {outer : List Env} {A₀ : Around} {base h₀ : Heap} {L : Addr} {m : Str → Option Value} {s : Shared} {Q E : Value → Shared → Prop}
local macro_rules | `(tactic| walk_at "call builtin:str.join") => `(tactic| (with_reducible rename HaltJ => hj9; refine Hold.out ?_))
local macro_rules | `(tactic| walk_at "binaryOp Add str str") => `(tactic| (k_here; (with_reducible show wpAny _ _ (binaryOp Operator.Add (Value.str _ _) (Value.str _ _)) _ _ _); refine SBL.add (hsz := ?hsz) ?_; (case hsz => (try rw [sizeLine_eq]); omega); intro t9 k9 e9))
local macro_rules | `(tactic| walk_at "inplaceOp Add str str") => `(tactic| (k_here; refine SBL.iadd (hsz := ?hsz) ?_; (case hsz => (try rw [sizeLine_eq]); omega); intro t9 k9 e9))
local macro_rules | `(tactic| walk_at "call builtin:str.join") => `(tactic| (k_here; (with_reducible show wpAny _ _ (call (Value.builtin "str.join") [Value.str _ _, Value.ref _]) _ _ _); k_dflt (refine' join_S ?N ?m ?d ?b ?hz ?hs ?_; (case N => k_asm); (case m => k_mem); (case d => with_reducible assumption); (case b => with_reducible assumption); (case hz => with_reducible assumption); (case hs => first | with_reducible assumption | omega)); intro t9 k9))
local macro_rules | `(tactic| walk_at "call builtin:str.splitlines") => `(tactic| (k_here; k_dflt (refine' split_S ?F ?N ?o ?_; (case F => k_asm); (case N => k_asm); (case o => with_reducible assumption)); intro D9 t9 q9 h9 tk9 dd9 dq9 hq9 F9 N9 l1; (try k_lt l1)))
local macro_rules | `(tactic| walk_at "eval GeneratorExp") => `(tactic| refine Hold.out ?_)
theorem range_getD {f : Str → Str} {d : Str} (l : List Str) : (List.range l.length).map (fun i => f (l.getD i d)) = l.map f := by
  apply List.ext_getElem?
  intro j
  by_cases hj : j < l.length
  · simp [hj]
  · simp [Nat.le_of_not_lt hj]
theorem lineQ {prog : Program} {w : World} {cl : List (Str × Addr)} {scope : Scope} {env : Env} {ind : Str} {tw : Tok} {c : Addr} {oc : Obj} {lr : List Str} {vs : List Value} {rest : List (Addr × Obj)} {p1 p2 p3 p4 p5 p6 : Pos} (hd : DatAll [] vs (lr.map .str)) (hB : ∀ l ∈ lr, l.length ≤ 9) (hi : ind.length ≤ 10)
    (hk : scope.kind = .function) (hl : scope.names.lookup (Str.ofString "line") = some .local) (hf : scope.names.lookup (Str.ofString "indention") = some .free) (hc : cl.lookup (Str.ofString "indention") = some c) (hmc : (c, oc) ∈ rest) (hoc : oc.data = .cell (some (.str ind tw)))
    (C' : Addr) (code : Value) (bi : Addr) (A' : Around) (E' : Value → Shared → Prop) (i : Nat) (v : Value) (s₂ : Shared) (m₂ : Str → Option Value) (hA : A'.handled = none) (hv : vs[i]? = some v) (hn : s₂.heap.Ns C' m₂) (hm : m₂ (Str.ofString "line") = some v) (hr : ∀ q ∈ rest, s₂.heap.get? q.1 = some q.2) :
    wpAny (model prog w) A' (eval (.IfExp (.Name (Str.ofString "line") p1) (.BinOp (.Name (Str.ofString "indention") p2) .Add (.Name (Str.ofString "line") p3) p4) (.Name (Str.ofString "line") p5) p6) (genEnv scope cl C' code bi env))
      (fun y s₃ => (∃ u, y = .str (indL ind (lr.getD i (Str.ofString ""))) u) ∧ Keeps s₂ s₃) E' s₂ := by
  obtain ⟨d, hd1, hdv⟩ := datAt hd hv
  rw [List.getElem?_map] at hd1
  cases hci : lr[i]? with
  | none => rw [hci] at hd1; simp at hd1
  | some l =>
  rw [hci] at hd1
  simp only [Option.map_some, Option.some.injEq] at hd1
  subst hd1
  cases hdv with
  | str _ tl =>
  have hll := hB l (List.mem_of_getElem? hci)
  have hg : lr.getD i (Str.ofString "") = l := by rw [List.getD_eq_getElem?_getD, hci]; rfl
  rw [hg]
  have ln : ∀ (p : Pos) (s₃ : Shared) (Q : Value → Shared → Prop), s₃.heap.Ns C' m₂ → Q (.str l tl) s₃ → wpAny (model prog w) A' (eval (.Name (Str.ofString "line") p) (genEnv scope cl C' code bi env)) Q E' s₃ := fun p s₃ Q hn3 hq =>
    wpAny_Name (wpAny_loadName_local (env := genEnv scope cl C' code bi env) hk hl hn3 hm hq) (by decide)
  refine wpAny_IfExp (wpAny_isTrue_value (ln _ _ _ hn (SBL.truthy (by omega) ?_)))
  rw [len_ne]
  unfold indL
  cases he : l == Str.ofString "" with
  | true =>
    simp only [Bool.not_true, Bool.false_eq_true, if_false, if_true]
    exact ln _ _ _ hn ⟨⟨_, rfl⟩, s₂.heap, _, rfl, fun _ _ e => e⟩
  | false =>
    simp only [Bool.not_false, Bool.false_eq_true, if_false, if_true]
    refine wpAny_BinOp (wpAny_Name (wpAny_loadName_free (env := genEnv scope cl C' code bi env) hk hf hc ⟨oc, hr _ hmc, hoc⟩ (ln _ _ _ hn ?_)) (by decide))
    exact SBL.add (fun t' k _ => ⟨⟨_, rfl⟩, s₂.heap, _, rfl, fun _ _ e => e⟩) (by rw [sizeLine_eq]; omega)
theorem doindent_use {ind : Str} {wv : Value} {la : Str} {lr : List Str} {first blank : Bool} {t : Tok} {ps : Array Value} {rest : List (Addr × Obj)} (hps : ps = #[] ∨ ∃ c', ps = #[rawInt 168, rawInt 41, .ref c']) (hw : (∃ k tw, wv = .int k tw ∧ 0 ≤ k ∧ k < 4 ∧ ind = Txt.mul (Str.ofString " ") k) ∨ ∃ tw, wv = .str ind tw) (B : Below A₀ base outer h₀) (F : Fr h₀ L s.heap m) (X : (hd1.heap_39 w.params).In h₀) (N : News h₀ L s.heap ((268, tabObj ps) :: rest)) (T : Top p loose mean mg mb h₀) (hk : cs.kind = .function) (hd : dp + 40 < recursionLimit) (hu : un + 3000 < cLine) (C : CodeHd h₀ 272 268)
    (ok : LinesOk (la :: lr)) (hil : ind.length ≤ 10) (hr : ∀ p ∈ rest, p.1 ≠ 268) (G : AllBare s.gens) (hlen : (Txt.join nlS (la :: lr)).length ≤ 100)
    (ret : ∀ t' h' tk' gs ps, (ps = #[] ∨ ∃ c', ps = #[rawInt 168, rawInt 41, .ref c']) → AllBare gs → Fr h₀ L h' m → News h₀ L h' ((268, tabObj ps) :: rest) → Q (.str (indD ind first blank (la :: lr)) t') { s with heap := h', toks := tk', gens := gs }) :
    wpAny (model PySem.Challenge.rw_bb0048_01.row.prog w) (ktrTop dp un gd cn cs L a ccd cl outer) (call (.ref 273) [.str (Txt.join nlS (la :: lr)) t, wv, .bool first, .bool blank]) Q E s := by
  have X₀ := X
  have e1 : (Str.ofString "\n").length = 1 := by decide +kernel
  have hla : la.length ≤ 9 := words4_len la (ok.2.2 la (.head _))
  have hB : ∀ l ∈ la :: lr, l.length ≤ 100 := fun l hl => Nat.le_trans (words4_len l (ok.2.2 l hl)) (by decide)
  have hz4 := ok.2.1
  have hjb : (Txt.join (Str.ofString "\n" ++ ind) (la :: lr)).length ≤ 1000 := by
    have z := sum_len hB
    have z2 := StrLaws.join_length_le (Str.ofString "\n" ++ ind) (la :: lr)
    rw [Str.length_append, e1] at z2
    show (PySem.Builtin.Str.glued (Str.ofString "\n" ++ ind) (la :: lr)).length ≤ 1000
    rw [StrLaws.glued_eq_join]
    have z4 : (la :: lr).length * (1 + ind.length) ≤ 4 * 11 := Nat.mul_le_mul hz4 (by omega)
    omega
  revert X; k_fill; intro X
  rcases hw with ⟨k, tw, rfl, hk0, hk4, hind⟩ | ⟨tw, rfl⟩
  · subst hind
    refine wpAny_call ?_
    walk_at "enter"
    have haltJ : HaltJ := ⟨trivial⟩
    k_steps
    · rename_i kF kN kT kX
      with_reducible rename blank = _ => hb
      with_reducible rename first = _ => hf
      subst hb hf
      exact ret _ _ _ _ ps hps G kF (cb_drop kN fun p hp => .tail _ (.tail _ hp))
    · rename_i kF kN kT kX
      with_reducible rename blank = _ => hb
      with_reducible rename first = _ => hf
      subst hb hf
      exact ret _ _ _ _ ps hps G kF (cb_drop kN fun p hp => .tail _ (.tail _ hp))
    · rename_i kF kN kT kX
      with_reducible rename blank = _ => hb
      with_reducible rename first = _ => hf
      with_reducible rename (List.isEmpty _ = true) => he
      with_reducible rename (DatAll [] _ (List.map Dat.str lr)) => dq
      have hlr : lr = [] := by
        have z := dq.length
        rw [List.isEmpty_iff.mp he, List.length_map] at z
        exact List.eq_nil_of_length_eq_zero z.symm
      subst hb hf hlr
      exact ret _ _ _ _ ps hps G kF (cb_drop kN fun p hp => .tail _ (.tail _ hp))
    · rename_i kF kN kT kX
      with_reducible rename blank = _ => hb
      with_reducible rename first = _ => hf
      with_reducible rename (List.isEmpty _ = true) => he
      with_reducible rename (DatAll [] _ (List.map Dat.str lr)) => dq
      have hlr : lr = [] := by
        have z := dq.length
        rw [List.isEmpty_iff.mp he, List.length_map] at z
        exact List.eq_nil_of_length_eq_zero z.symm
      subst hb hf hlr
      exact ret _ _ _ _ ps hps G kF (cb_drop kN fun p hp => .tail _ (.tail _ hp))
    rename_i g' L' hA tkA FG B' X' T' la1 la2 la3 la4 o1 d1 tk2q t2q k2q kxz kxn h5 o2 d2 h4 t91 k91 e91 h3 hb tk1 D9 t9 q9 h9 tk9 dd9 dq9 hq9 lD h2 h1 h8 F9 N9 tk8 he
    have hql : q9.length = lr.length := by
      have z := dq9.length
      rwa [List.length_map] at z
    have hlr : lr ≠ [] := fun e => by
      rw [e] at hql
      rw [List.eq_nil_of_length_eq_zero hql] at he
      cases he
    have hB9 : ∀ l ∈ lr, l.length ≤ 9 := fun l hl => words4_len l (ok.2.2 l (.tail _ hl))
    have hmB : ∀ l ∈ lr.map (indL (Txt.mul (Str.ofString " ") k)), l.length ≤ 100 := fun l hl => by
      obtain ⟨x, hx, rfl⟩ := List.mem_map.mp hl
      exact indL_len hil (hB9 x hx)
    have hml : (lr.map (indL (Txt.mul (Str.ofString " ") k))).length ≤ 3 := by rw [List.length_map]; omega
    have hjl : (Txt.join (Str.ofString "\n") (lr.map (indL (Txt.mul (Str.ofString " ") k)))).length ≤ 1000 := by
      have z := sum_len hmB
      have z2 := StrLaws.join_length_le (Str.ofString "\n") (lr.map (indL (Txt.mul (Str.ofString " ") k)))
      rw [e1] at z2
      show (PySem.Builtin.Str.glued (Str.ofString "\n") (lr.map (indL (Txt.mul (Str.ofString " ") k)))).length ≤ 1000
      rw [StrLaws.glued_eq_join]
      omega
    have hmap : (List.range q9.length).map (fun i => indL (Txt.mul (Str.ofString " ") k) (lr.getD i (Str.ofString ""))) = lr.map (indL (Txt.mul (Str.ofString " ") k)) := by rw [hql]; exact range_getD lr
    have hind : indD (Txt.mul (Str.ofString " ") k) first false (la :: lr) = if first = true then (Txt.mul (Str.ofString " ") k) ++ (la ++ (nlS ++ Txt.join nlS (lr.map (indL (Txt.mul (Str.ofString " ") k))))) else la ++ (nlS ++ Txt.join nlS (lr.map (indL (Txt.mul (Str.ofString " ") k)))) := by
      cases lr with
      | nil => exact absurd rfl hlr
      | cons b r => rfl
    rw [hb, hind] at ret
    refine ⟨?_⟩
    refine genexp_L (P := 268) (ps := ps) (vs := q9) (k := 0 + 1) (ax := D9) (rest := (D9, listOf q9.toArray (0 + 1)) :: (L' + 1, o2) :: rest) (tx := fun i => indL (Txt.mul (Str.ofString " ") k) (lr.getD i (Str.ofString ""))) (c := 272) rfl rfl (by with_unfolding_all rfl) (by decide) (by rfl) (by rfl) (by rfl) (by walk_at "room") F9 (cb_drop N9 (subCons (by k_mem) (subCons (by k_mem) (subCons (by k_mem) fun p hp => .tail _ (.tail _ (.tail _ hp)))))) G T' (CodeHd.keeps C FG.keep) rfl rfl ?hP rfl rfl rfl (by decide) (by with_unfolding_all rfl) (.head _) (by omega) hps ?quiet ?ret (by intro _; rfl)
    case hP => exact List.forall_mem_cons.mpr ⟨Nat.ne_of_gt lD.2.1, List.forall_mem_cons.mpr ⟨Nat.ne_of_gt la2.1, hr⟩⟩
    case quiet =>
      intro C' code bi A' E' i v s₂ m₂ hA hv hn hm hr
      exact lineQ dq9 hB9 hil rfl (by rfl) (by rfl) (by rfl) (.tail _ (.head _)) d2 C' code bi A' E' i v s₂ m₂ hA hv hn hm hr
    case ret =>
      intro ag lo c' h10 tk10 gs hLo hlo F10 N10 G10 X10
      clear N9 F9
      k_steps
      refine ⟨?_⟩
      refine join_GL F10 N10 G10 X10 hLo hlo (tx := fun i => indL (Txt.mul (Str.ofString " ") k) (lr.getD i (Str.ofString ""))) ?_ ?_ (by omega) ?_
      · rintro j v ⟨i, hi, hu⟩
        have hij : i = j := by
          obtain ⟨z1, z2⟩ := List.getElem?_eq_some_iff.mp hi
          rw [List.getElem_range] at z2
          exact z2.symm
        exact hij ▸ hu
      · rw [hmap]
        have z := sum_len hmB
        exact joinOk_of (by rw [e1]; omega)
      · intro h11 tk11 gs11 t11 F11 N11 G11
        rw [hmap]
        clear F10 N10 G10 X10
        k_steps
        · rename_i kF kN kT kX
          with_reducible rename first = _ => hf
          subst hf
          exact ret _ _ _ _ _ (.inr ⟨c', rfl⟩) G11 kF (cb_drop kN (subCons (.head _) fun p hp => .tail _ (.tail _ (.tail _ hp))))
        · rename_i kF kN kT kX
          with_reducible rename first = _ => hf
          subst hf
          exact ret _ _ _ _ _ (.inr ⟨c', rfl⟩) G11 kF (cb_drop kN (subCons (.head _) fun p hp => .tail _ (.tail _ (.tail _ hp))))
  · refine wpAny_call ?_
    walk_at "enter"
    have haltJ : HaltJ := ⟨trivial⟩
    k_steps
    · rename_i kF kN kT kX
      with_reducible rename blank = _ => hb
      with_reducible rename first = _ => hf
      subst hb hf
      exact ret _ _ _ _ ps hps G kF (cb_drop kN fun p hp => .tail _ (.tail _ hp))
    · rename_i kF kN kT kX
      with_reducible rename blank = _ => hb
      with_reducible rename first = _ => hf
      subst hb hf
      exact ret _ _ _ _ ps hps G kF (cb_drop kN fun p hp => .tail _ (.tail _ hp))
    · rename_i kF kN kT kX
      with_reducible rename blank = _ => hb
      with_reducible rename first = _ => hf
      with_reducible rename (List.isEmpty _ = true) => he
      with_reducible rename (DatAll [] _ (List.map Dat.str lr)) => dq
      have hlr : lr = [] := by
        have z := dq.length
        rw [List.isEmpty_iff.mp he, List.length_map] at z
        exact List.eq_nil_of_length_eq_zero z.symm
      subst hb hf hlr
      exact ret _ _ _ _ ps hps G kF (cb_drop kN fun p hp => .tail _ (.tail _ hp))
    · rename_i kF kN kT kX
      with_reducible rename blank = _ => hb
      with_reducible rename first = _ => hf
      with_reducible rename (List.isEmpty _ = true) => he
      with_reducible rename (DatAll [] _ (List.map Dat.str lr)) => dq
      have hlr : lr = [] := by
        have z := dq.length
        rw [List.isEmpty_iff.mp he, List.length_map] at z
        exact List.eq_nil_of_length_eq_zero z.symm
      subst hb hf hlr
      exact ret _ _ _ _ ps hps G kF (cb_drop kN fun p hp => .tail _ (.tail _ hp))
    rename_i g' L' hA tkA FG B' X' T' la1 la2 la3 la4 o1 d1 h5 o2 d2 h4 t91 k91 e91 h3 hb tk1 D9 t9 q9 h9 tk9 dd9 dq9 hq9 lD h2 h1 h8 F9 N9 tk8 he
    have hql : q9.length = lr.length := by
      have z := dq9.length
      rwa [List.length_map] at z
    have hlr : lr ≠ [] := fun e => by
      rw [e] at hql
      rw [List.eq_nil_of_length_eq_zero hql] at he
      cases he
    have hB9 : ∀ l ∈ lr, l.length ≤ 9 := fun l hl => words4_len l (ok.2.2 l (.tail _ hl))
    have hmB : ∀ l ∈ lr.map (indL ind), l.length ≤ 100 := fun l hl => by
      obtain ⟨x, hx, rfl⟩ := List.mem_map.mp hl
      exact indL_len hil (hB9 x hx)
    have hml : (lr.map (indL ind)).length ≤ 3 := by rw [List.length_map]; omega
    have hjl : (Txt.join (Str.ofString "\n") (lr.map (indL ind))).length ≤ 1000 := by
      have z := sum_len hmB
      have z2 := StrLaws.join_length_le (Str.ofString "\n") (lr.map (indL ind))
      rw [e1] at z2
      show (PySem.Builtin.Str.glued (Str.ofString "\n") (lr.map (indL ind))).length ≤ 1000
      rw [StrLaws.glued_eq_join]
      omega
    have hmap : (List.range q9.length).map (fun i => indL ind (lr.getD i (Str.ofString ""))) = lr.map (indL ind) := by rw [hql]; exact range_getD lr
    have hind : indD ind first false (la :: lr) = if first = true then ind ++ (la ++ (nlS ++ Txt.join nlS (lr.map (indL ind)))) else la ++ (nlS ++ Txt.join nlS (lr.map (indL ind))) := by
      cases lr with
      | nil => exact absurd rfl hlr
      | cons b r => rfl
    rw [hb, hind] at ret
    refine ⟨?_⟩
    refine genexp_L (P := 268) (ps := ps) (vs := q9) (k := 0 + 1) (ax := D9) (rest := (D9, listOf q9.toArray (0 + 1)) :: (L' + 1, o2) :: rest) (tx := fun i => indL ind (lr.getD i (Str.ofString ""))) (c := 272) rfl rfl (by with_unfolding_all rfl) (by decide) (by rfl) (by rfl) (by rfl) (by walk_at "room") F9 (cb_drop N9 (subCons (by k_mem) (subCons (by k_mem) (subCons (by k_mem) fun p hp => .tail _ (.tail _ (.tail _ hp)))))) G T' (CodeHd.keeps C FG.keep) rfl rfl ?hP rfl rfl rfl (by decide) (by with_unfolding_all rfl) (.head _) (by omega) hps ?quiet ?ret (by intro _; rfl)
    case hP => exact List.forall_mem_cons.mpr ⟨Nat.ne_of_gt lD.2.1, List.forall_mem_cons.mpr ⟨Nat.ne_of_gt la2.1, hr⟩⟩
    case quiet =>
      intro C' code bi A' E' i v s₂ m₂ hA hv hn hm hr
      exact lineQ dq9 hB9 hil rfl (by rfl) (by rfl) (by rfl) (.tail _ (.head _)) d2 C' code bi A' E' i v s₂ m₂ hA hv hn hm hr
    case ret =>
      intro ag lo c' h10 tk10 gs hLo hlo F10 N10 G10 X10
      clear N9 F9
      k_steps
      refine ⟨?_⟩
      refine join_GL F10 N10 G10 X10 hLo hlo (tx := fun i => indL ind (lr.getD i (Str.ofString ""))) ?_ ?_ (by omega) ?_
      · rintro j v ⟨i, hi, hu⟩
        have hij : i = j := by
          obtain ⟨z1, z2⟩ := List.getElem?_eq_some_iff.mp hi
          rw [List.getElem_range] at z2
          exact z2.symm
        exact hij ▸ hu
      · rw [hmap]
        have z := sum_len hmB
        exact joinOk_of (by rw [e1]; omega)
      · intro h11 tk11 gs11 t11 F11 N11 G11
        rw [hmap]
        clear F10 N10 G10 X10
        k_steps
        · rename_i kF kN kT kX
          with_reducible rename first = _ => hf
          subst hf
          exact ret _ _ _ _ _ (.inr ⟨c', rfl⟩) G11 kF (cb_drop kN (subCons (.head _) fun p hp => .tail _ (.tail _ (.tail _ hp))))
        · rename_i kF kN kT kX
          with_reducible rename first = _ => hf
          subst hf
          exact ret _ _ _ _ _ (.inr ⟨c', rfl⟩) G11 kF (cb_drop kN (subCons (.head _) fun p hp => .tail _ (.tail _ (.tail _ hp))))
end
end
end
end
end
end
end
end
section
local macro_rules | `(tactic| walk_at "exec For") => `(tactic| (k_here; (with_reducible show wpAny _ _ (exec (Stmt.For (Expr.Name _ _) _ _ _ _) _) _ _ _); k_dflt (refine for_J (_F := by k_asm) ?_ (by intro _; rfl) (by passes_own))))
local macro_rules | `(tactic| walk_at "exec For Name Name cons nil") => `(tactic| (k_here; k_dflt (refine for_J (_F := by k_asm) ?_ (by intro _; rfl) (by passes_own))))
local macro_rules | `(tactic| walk_at "exec For Name Call cons nil") => `(tactic| (k_here; k_dflt (refine for_J (_F := by k_asm) ?_ (by intro _; rfl) (by passes_own))))
local macro_rules | `(tactic| walk_at "PostF") => `(tactic| (dsimp only [PostF]))
section
local macro_rules | `(tactic| walk_at "call ref") => `(tactic| (k_here; (with_reducible show wpAny _ _ (call (Value.ref 328) _ _) _ _ _); k_dflt (refine' kind_use ?B ?F ?X ?N ?T ?hk ?hd ?hu ?hv ?hk2 ?hl ?_; (case B => k_asm); (case F => k_asm); (case X => k_asm); (case N => k_asm); (case T => k_asm); (case hk => first | exact rfl | assumption); (case hd => walk_at "room"); (case hu => (have hcL9 := cLine_is; walk_at "room")); (case hv => with_reducible assumption); (case hk2 => with_reducible assumption); (case hl => with_reducible assumption)); intro v9 h9 tk9 hv9 hk9 F9 N9))
local macro_rules | `(tactic| walk_at "compareOp LtE") => `(tactic| (k_here; refine' le_D ?a ?b ?c ?d ?_; (case a => with_reducible assumption); (case b => with_reducible assumption); (case c => with_reducible assumption); (case d => with_reducible assumption)))
local macro_rules | `(tactic| walk_at "compareOp Eq") => `(tactic| (k_here; refine' eq_D ?a ?b ?c ?d ?_; (case a => with_reducible assumption); (case b => with_reducible assumption); (case c => with_reducible assumption); (case d => with_reducible assumption)))
section
local macro_rules | `(tactic| walk_at "compareOp Eq ref ref") => `(tactic| (k_here; k_dflt (refine' eq_nil ?N ?a ?b ?d ?k ?u ?_; (case N => k_asm); (case a => k_mem); (case b => k_mem); (case d => with_reducible assumption); (case k => with_reducible assumption); (case u => units_room))))
local macro_rules | `(tactic| walk_at "call builtin:list.append") => `(tactic| (k_here; k_dflt (refine' append_L ?F ?N ?U ?z ?_; (case F => k_asm); (case N => k_asm); (case U => k_upd); (case z => walk_at "size")); intro h9 F9 N9))
section
local macro_rules | `(tactic| k_all) => `(tactic| (tbn_letter; refine' allSub ?ah ?as; (case ah => with_reducible assumption); (case as => k_sub)))
local macro_rules | `(tactic| walk_at "call ref") => `(tactic| (k_here; (first | (with_reducible show wpAny _ _ (call (Value.ref 352) _ _) _ _ _) | (with_reducible show wpAny _ _ (call (Value.ref 357) _ _) _ _ _)); k_dflt (first
  | (refine' sorted_use ?B ?F ?X ?N ?T ?hk ?hd ?hu ?pk ?hR ?ok ?hRr ?_; (case B => k_asm); (case F => k_asm); (case X => k_asm); (case N => k_asm); (case T => k_asm); (case hk => first | exact rfl | assumption); (case pk => walk_at "pick"); (case hR => with_reducible assumption); (case ok => with_reducible assumption); (case hRr => k_all); (case hd => walk_at "room"); (case hu => (have hcL9 := cLine_is; walk_at "room")))
  | (refine' first_use ?B ?F ?X ?N ?T ?hk ?hd ?hu ?pk ?hR ?ok ?hRr ?_; (case B => k_asm); (case F => k_asm); (case X => k_asm); (case N => k_asm); (case T => k_asm); (case hk => first | exact rfl | assumption); (case pk => walk_at "pick"); (case hR => with_reducible assumption); (case ok => with_reducible assumption); (case hRr => k_all); (case hd => walk_at "room"); (case hu => (have hcL9 := cLine_is; walk_at "room")))); intro J9 vs9 k9 h9 tk9 hD9 ok9 hne9 F9 N9; (have hn9 := gnNe_of hne9); (simp only [GnNe] at hn9)))
section
def groupD (b : Bool) (row : List Dat) (head : Dat) : Dat := .tuple [head, .list (row.filter fun item => eqD (kindD b item) (kindD b head))]
def groupsD (b : Bool) (row : List Dat) : List Dat := (firstD b (sortedD b row)).map (groupD b row)
local macro_rules | `(tactic| walk_at "eval ListComp") => `(tactic| (k_here; (with_reducible show wpAny _ _ (eval (PySem.Expr.ListComp _ [⟨PySem.Expr.Name _ _, _, [], 0⟩] _ _) _) _ _ _); k_dflt (refine listComp_JC (_F := by k_asm) (by decide) (by rfl) (by with_unfolding_all rfl) (by intro _; rfl) (by intro _; rfl) (by rfl) (by decide) (by rfl) ?_)))
theorem groups_K (w : World) (rest : List (Addr × Obj)) (R : Addr) (rvs : List Value) (n : Nat) (ds : List Dat) (b kb : Bool) (hR : DatAll [] rvs ds) (ok : RowOk b kb ds) (hRr : ∀ p ∈ rest, p.1 ≠ R) :
    Says w 362 50 2400 [.ref R, .bool b] ((R, listOf rvs.toArray n) :: rest) (fun news' v' => ∃ J vs k tl, v' = .ref J ∧ news' = (J, listOf vs.toArray k) :: (tl ++ (R, listOf rvs.toArray n) :: rest) ∧ DatAll tl vs (groupsD b ds)) := by
  intro p loose mean mg mb dp un gd cn cs a ccd cl outer A₀ base h₀ L m s Q E B F X N T hk hd hu hret
  revert X; k_fill; intro X
  refine wpAny_call ?_
  walk_at "enter"
  k_steps
  rename_i g' L' hA tkA FG B' X' T' la lb lc ld oS oR dS dR J1 vs1 k1 hB tk1 hD1 ok1 hne1 hn1 J2 vs2 k2 hC tk2 hD2 ok2 hne2 hn2 h2 F2 N2
  have hvl := hD2.length
  have h20 := ok2.2.2.2
  have hrl := hR.length
  have hr20 := ok.2.2.2
  have hgd : groupsD b ds = (firstD b (sortedD b ds)).map (groupD b ds) := rfl
  generalize firstD b (sortedD b ds) = hs at hD2 ok2 hvl h20 hgd
  have N3 : News g' L' h2 ((J2, listOf vs2.toArray k2) :: (R, listOf rvs.toArray n) :: (L' + 1 + 1, oS) :: (L' + 1, oR) :: rest) := cb_drop N2 (subCons (by k_mem) fun p hp => .tail _ (.tail _ hp))
  clear N2 hD1 ok1 hne1 hn1
  refine ⟨J2, vs2, k2, _, fun i ys nw => ∃ outs, nw = outs ++ (J2, listOf vs2.toArray k2) :: (R, listOf rvs.toArray n) :: (L' + 1 + 1, oS) :: (L' + 1, oR) :: rest ∧ DatAll outs ys ((hs.take i).map (groupD b ds)), rfl, F2, N3, by omega, ?_, ⟨[], rfl, .nil⟩, ?_, ?_⟩
  · rintro j ys nw ⟨outs, rfl, _⟩
    exact List.mem_append_right _ (.head _)
  · intro g i v I oI C oC D X oX m₂ h tk ys news' E' hi hyl hv hJ hoC hoX F4 N4 off offX hne
    obtain ⟨outs, rfl, hys⟩ := hJ
    obtain ⟨d, hd1, hdv⟩ := datAt hD2 hv
    have hdk := ok2.1 d (List.mem_of_getElem? hd1)
    have hdl := ok2.2.1 d (List.mem_of_getElem? hd1)
    have htk : (hs.take (i + 1)).map (groupD b ds) = (hs.take i).map (groupD b ds) ++ [groupD b ds d] := by rw [List.take_add_one, hd1]; simp
    have mR : (R, listOf rvs.toArray n) ∈ outs ++ (J2, listOf vs2.toArray k2) :: (R, listOf rvs.toArray n) :: (L' + 1 + 1, oS) :: (L' + 1, oR) :: rest := List.mem_append_right _ (.tail _ (.head _))
    have mS : (L' + 1 + 1, oS) ∈ outs ++ (J2, listOf vs2.toArray k2) :: (R, listOf rvs.toArray n) :: (L' + 1 + 1, oS) :: (L' + 1, oR) :: rest := List.mem_append_right _ (.tail _ (.tail _ (.head _)))
    have mW : (L' + 1, oR) ∈ outs ++ (J2, listOf vs2.toArray k2) :: (R, listOf rvs.toArray n) :: (L' + 1 + 1, oS) :: (L' + 1, oR) :: rest := List.mem_append_right _ (.tail _ (.tail _ (.tail _ (.head _))))
    generalize htl : outs ++ (J2, listOf vs2.toArray k2) :: (R, listOf rvs.toArray n) :: (L' + 1 + 1, oS) :: (L' + 1, oR) :: rest = tl at N4 off offX mR mS mW
    clear N3 F2 hi hv
    k_steps
    rename_i tkX N5
    refine SrcJ.list (vs := rvs) (k := n) (J := fun j zs nw => nw = (I, oI) :: (C, oC) :: (D, lst ys) :: (X, oX) :: tl ∧ DatAll [] zs ((ds.take j).filter fun item => eqD (kindD b item) (kindD b d))) rfl F4 N4 (by k_mem) (by omega) ?_ ⟨rfl, .nil⟩ ?_ ?_
    · rintro j zs nw ⟨rfl, _⟩
      k_mem
    · intro g2 j v2 I2 oI2 C2 oC2 D2 m3 h3 tk3 zs nw E2 hj hzl hv2 ⟨hnw, hzs⟩ hoC2 hm3 F6 N6 off2 hne2
      subst hnw
      obtain ⟨e, he1, hev⟩ := datAt hR hv2
      have hek := ok.1 e (List.mem_of_getElem? he1)
      have hel := ok.2.1 e (List.mem_of_getElem? he1)
      refine wpAny_tests_one ?_
      k_steps
      all_goals (refine TurnJ.intro ((I, oI) :: (C, oC) :: (D, lst ys) :: (X, oX) :: tl) (by with_reducible assumption) (by with_reducible assumption) (by k_sub) off2 ⟨rfl, ?_⟩)
      all_goals (with_reducible rename (eqD _ _ = _) => hle)
      · rw [filterTake _ he1]
        simp only [hle, if_true]
        exact hzs.append (.one hev)
      · rw [filterTake _ he1]
        simp only [hle, Bool.false_eq_true, if_false, List.append_nil]
        exact hzs
    · rintro D2 zs nw h3 tk3 F6 N6 o2 ⟨rfl, hzs⟩
      rw [hrl, List.take_length] at hzs
      simp only [Off1] at o2
      k_steps
      rename_i T4 h17 F17 N17 lt4
      subst htl
      refine TurnJ.intro ((X, oX) :: (T4, ({ cls := .type "tuple", data := .seq [v, Value.ref D2].toArray 0 } : Obj)) :: (D2, lst zs) :: (outs ++ (J2, listOf vs2.toArray k2) :: (R, listOf rvs.toArray n) :: (L' + 1 + 1, oS) :: (L' + 1, oR) :: rest)) F17 N17 (subCons (by k_mem) (subCons (by k_mem) (subCons (by k_mem) (subCons (by k_mem) (subCons (by k_mem) (subCons (by k_mem) fun p hp => .tail _ (.tail _ (.tail _ (.tail _ (.tail _ (.tail _ hp))))))))))) ⟨⟨hne.2.2.2.1, hne.2.2.2.2.1, hne.2.2.2.2.2⟩, ⟨Nat.ne_of_gt lt4.2.1, Nat.ne_of_gt lt4.2.2.1, Nat.ne_of_gt lt4.2.2.2.1⟩, ⟨Ne.symm o2.1, Ne.symm o2.2.1, Ne.symm o2.2.2.1⟩, off⟩ ⟨_, rfl, ?_, (T4, _) :: (D2, lst zs) :: outs, rfl, ?_⟩
      · exact List.forall_mem_cons.mpr ⟨Nat.ne_of_gt lt4.2.2.2.2.1, List.forall_mem_cons.mpr ⟨Ne.symm o2.2.2.2.1, offX⟩⟩
      · rw [htk]
        exact (hys.mono fun p hp => .tail _ (.tail _ hp)).append (.one (.tuple (.head _) (.cons (hdv.mono subNil) (.one (.list (.tail _ (.head _)) (hzs.mono subNil))))))
  · rintro D ys news' h tk F4 N4 o1 ⟨outs, rfl, hys⟩
    rw [hvl, List.take_length] at hys
    k_steps
    rename_i kF kN kT kX
    exact hret _ _ _ _ ⟨D, ys, ys.length, outs, rfl, rfl, hgd ▸ hys⟩ kF (cb_drop kN (subCons (.head _) (subMid (fun p hp => .tail _ (List.mem_append_left _ hp)) (subCons (.tail _ (List.mem_append_right _ (.tail _ (.head _)))) fun p hp => .tail _ (List.mem_append_right _ (.tail _ (.tail _ (.tail _ (.tail _ hp)))))))))
end
section
local macro_rules | `(tactic| walk_at "inplaceOp Add ref") => `(tactic| (k_here; (with_reducible show wpAny _ _ (inplaceOp Operator.Add (Value.ref _) (Value.ref _)) _ _ _); k_dflt (refine' iadd_L ?F ?N ?b ?e ?U ?z ?_; (case F => k_asm); (case N => k_asm); (case b => k_mem); (case U => k_upd); (case e => (simp only [List.length_replicate]; omega)); (case z => (simp only [List.length_replicate]; omega))); intro h9 F9 N9))
local macro_rules | `(tactic| walk_at "binaryOp Mult ref int") => `(tactic| (k_here; (with_reducible show wpAny _ _ (binaryOp Operator.Mult (Value.ref _) (Value.int _ _)) _ _ _); k_dflt (refine' mul1_L ?F ?N ?l ?lo ?hi ?_; (case F => k_asm); (case N => k_asm); (case l => k_mem); (case lo => omega); (case hi => omega)); intro D' h' F' N' l1; (try k_lt l1)))
local macro_rules | `(tactic| walk_at "call type:list") => `(tactic| (k_here; (with_reducible show wpAny _ _ (call (Value.type _) [Value.ref _]) _ _ _); k_dflt (refine' copy_L ?F ?N ?b ?z ?_; (case F => k_asm); (case N => k_asm); (case b => k_mem); (case z => walk_at "size")); intro D' c' h' F' N' l1; (try k_lt l1)))
local macro_rules | `(tactic| walk_at "subscriptTail") => `(tactic| (k_here; (with_reducible show wpAny _ _ (subscriptTail _ _ (Value.ref _) (Value.int (-1) _)) _ _ _); k_dflt (refine' last_L ?N ?m ?z ?_ ?hs; (case N => k_asm); (case m => k_mem); (case z => (try simp only [List.length_cons, List.length_nil, List.length_append]); omega); (case hs => with_unfolding_all rfl))))
local macro_rules | `(tactic| walk_at "setItem ref int") => `(tactic| (k_here; (with_reducible show wpAny _ _ (setItem (Value.ref _) (Value.int (-1) _) _) _ _ _); k_dflt (refine' setlast_L ?F ?N ?U ?_; (case F => k_asm); (case N => k_asm); (case U => k_upd)); intro h9 F9 N9))
local macro_rules | `(tactic| walk_at "subscriptTail Name UnaryOp ref int") => `(tactic| (k_here; (with_reducible show wpAny _ _ (subscriptTail _ _ (Value.ref _) (Value.int (-1) _)) _ _ _); k_dflt (refine' last_L ?N ?m ?z ?_ ?hs; (case N => k_asm); (case m => k_mem); (case z => (try simp only [List.length_cons, List.length_nil, List.length_append]); omega); (case hs => with_unfolding_all rfl))))
section
local macro_rules | `(tactic| walk_at "call ref") => `(tactic| (k_here; (with_reducible show wpAny _ _ (call (Value.ref 241) _ _) _ _ _); k_dflt (refine' prep_use ?B ?F ?X ?N ?T ?hk ?hd ?hu ?_; (case B => k_asm); (case F => k_asm); (case X => k_asm); (case N => k_asm); (case T => k_asm); (case hk => first | exact rfl | assumption); (case hd => walk_at "room"); (case hu => (have hcL9 := cLine_is; walk_at "room"))); intro P9 h9 tk9 l9 F9 N9; (simp only [AllLt] at l9)))
local macro_rules | `(tactic| walk_at "enter_nest") => `(tactic| k_dflt (refine' code_nest ?k1 ?k2 ?k3 ?k4 ?k5 ?kA ?kF ?kK ?k6 ?k7 ?k8 ?k9 ?kB ?_ ?c2 ?c3 ?c4 ?c5; (case kA => exact rfl); (case kF => exact rfl); (case kK => first | assumption | exact rfl); (case k1 => k_asm); (case k2 => k_asm); (case k3 => k_asm); (case k4 => k_asm); (case k5 => k_asm); (case k6 => k_mem); (case k7 => exact codeRec_news (by k_asm) (by k_mem) (by assumption) (by assumption)); (case k8 => first | walk_at "room" | ktr_room); (case k9 => exact BindsTo.of_eq rfl); (case c5 => decide); (case kB => exact locs rfl); (case c2 => exact rfl); (case c3 => exact rfl); (case c4 => exact rfl); k_whole; intro g' L' h' FG' F' N' B' X' T'; (try dsimp only); (try k_lift B'); (try k_fold)))
section
local macro_rules | `(tactic| walk_at "room") => `(tactic| first | (show _ + 0 + 1 + _ < _; dsimp only [Around.in1_depth, ktrTop]; omega) | (show _ + 1 + 0 + _ < _; dsimp only [Around.in1_depth, ktrTop]; omega) | (show _ + 0 + 3 + _ < _; dsimp only [Around.in1_units, ktrTop]; omega) | (show _ + 3 + 0 + _ < _; dsimp only [Around.in1_units, ktrTop]; omega))
theorem getter_use {w : World} {f : Addr} {own news : List (Addr × Obj)} {v : Value} {d : Dat} {b k : Bool}
    {p : Program} {loose : List Str} {mean : ExcName → Option Value} {mg mb : Str → Option Value}
    {dp un : Nat} {gd : Option (List Code)} {cn : Str} {cs : Scope} {a : Addr} {ccd : Value} {cl : List (Str × Addr)} {outer : List Env} {A₀ : Around} {base h₀ : Heap} {L : Addr} {m : Str → Option Value} {s : Shared} {Q E : Value → Shared → Prop}
    (G : Getter w f own b) (B : Below A₀ base outer h₀) (F : Fr h₀ L s.heap m) (X : (hd1.heap_39 w.params).In h₀) (N : News h₀ L s.heap news) (T : Top p loose mean mg mb h₀) (hk : cs.kind = .function) (hd : dp + 10 < recursionLimit) (hu : un + 600 < cLine)
    (hsub : ∀ p ∈ own, p ∈ news) (hv : DatIn [] v d) (hk' : KB k d) (hl : b = false → LenD d)
    (ret : ∀ v' h' tk', DatIn [] v' (kindD b d) → KB k (kindD b d) → Fr h₀ L h' m → News h₀ L h' news → Q v' { s with heap := h', toks := tk' }) :
    wpAny (model PySem.Challenge.rw_bb0048_01.row.prog w) (ktrTop dp un gd cn cs L a ccd cl outer) (call (.ref f) [v]) Q E s := by
  refine G.2 news v d k hsub hv hk' hl p loose mean mg mb dp un gd cn cs a ccd cl outer A₀ base h₀ L m s Q E B F X N T hk hd hu ?_
  rintro v' news' h' tk' ⟨rfl, hv'⟩ F' N'
  exact ret v' h' tk' hv' (hk'.kind b) F' N'
local macro_rules | `(tactic| walk_at "call ref") => `(tactic| (k_here; k_dflt (refine' getter_use ?G ?B ?F ?X ?N ?T ?hk ?hd ?hu ?hs ?hv ?hk2 ?hl ?_; (case G => with_reducible assumption); (case B => k_asm); (case F => k_asm); (case X => k_asm); (case N => k_asm); (case T => k_asm); (case hk => first | exact rfl | assumption); (case hd => walk_at "room"); (case hu => (have hcL9 := cLine_is; walk_at "room")); (case hs => k_sub); (case hv => with_reducible assumption); (case hk2 => with_reducible assumption); (case hl => with_reducible assumption)); intro v9 h9 tk9 hv9 hk9 F9 N9))
local macro_rules | `(tactic| walk_at "callWith ref") => `(tactic| (k_here; k_dflt (refine' callWith_F ?k1 ?_; (case k1 => (refine' Getter.fn ?G ?N ?S; (case G => with_reducible assumption); (case N => k_asm); (case S => k_sub))); k_whole)))
local macro_rules | `(tactic| walk_at "FnAt") => `(tactic| (refine' Getter.fn ?G ?N ?S; (case G => with_reducible assumption); (case N => k_asm); (case S => k_sub)))
local macro_rules | `(tactic| walk_at "compareOp NotIn") => `(tactic| (k_here; k_dflt (refine' notin_D ?N ?U ?hs ?z ?a ?b ?_; (case N => k_asm); (case U => k_updF); (case hs => with_reducible assumption); (case z => omega); (case a => with_reducible assumption); (case b => with_reducible assumption))))
local macro_rules | `(tactic| walk_at "getMethod ref") => `(tactic| (k_here; (with_reducible show wpAny _ _ (getMethod (Value.ref _) (Str.ofString "add") _) _ _ _); k_dflt (refine' setD_method ?N ?U ?hs ?z ?_; (case N => k_asm); (case U => k_updF); (case hs => with_reducible assumption); (case z => omega))))
local macro_rules | `(tactic| walk_at "call builtin:set.add") => `(tactic| (k_here; k_dflt (refine' add_D ?F ?N ?U ?hs ?z ?a ?b ?_; (case F => k_asm); (case N => k_asm); (case U => k_updF); (case hs => with_reducible assumption); (case z => omega); (case a => with_reducible assumption); (case b => with_reducible assumption)); intro h9 so9 F9 N9 hs9))
theorem mapUniq (a b u1 u2 : Option Value) (f : Str → Option Value) :
    (fun y => if y = Str.ofString "key" then a else if y = Str.ofString "item" then b else if y = Str.ofString "item" then u1 else if y = Str.ofString "key" then u2 else f y) =
    fun y => if y = Str.ofString "item" then b else if y = Str.ofString "key" then a else f y := by
  funext y
  by_cases e1 : y = Str.ofString "item"
  · subst e1; rfl
  by_cases e2 : y = Str.ofString "key"
  · subst e2; rfl
  simp only [e1, e2, if_false]
section
variable {w : World} {p : Program} {loose : List Str} {mean : ExcName → Option Value} {mg mb : Str → Option Value}
    {dp un : Nat} {gd : Option (List Code)} {cn : Str} {cs : Scope} {a : Addr} {ccd : Value} {cl : List (Str × Addr)} {outer : List Env} {A₀ : Around} {base h₀ : Heap} {L : Addr} {m : Str → Option Value} {s : Shared} {Q E : Value → Shared → Prop} {rest : List (Addr × Obj)}
abbrev uniqMap (R : Addr) (b : Bool) : Str → Option Value := fun y => List.lookup y [(Str.ofString "attribute", .none), (Str.ofString "case_sensitive", .bool b), (Str.ofString "value", .ref R), (Str.ofString "environment", .none)]
def GotAt (w : World) (g : Heap) (L' : Addr) (b : Bool) (R D C : Addr) (oC : Obj) (G : Addr) (gO : Obj) (rest : List (Addr × Obj)) (sr : Shared) (f : Flow) (s' : Shared) : Prop :=
  f = .next ∧ ∃ fa own ps h1 tk1, s' = { sr with heap := h1, toks := tk1 } ∧ Getter w fa own b ∧ TabHit 97 4 getQual ps own ∧ (∀ q ∈ own, AllLt q.1 ((225, tabObj ps) :: (D, lst []) :: (C, oC) :: (G, gO) :: rest)) ∧
    Fr g L' h1 (fun y => if y = Str.ofString "getter" then some (.ref fa) else uniqMap R b y) ∧ News g L' h1 (own ++ (225, tabObj ps) :: (D, lst []) :: (C, oC) :: (G, gO) :: rest)
local macro_rules | `(tactic| walk_at "call ref") => `(tactic| ((with_reducible show wpAny _ _ (call (Value.ref 230) _ _) _ _ _); refine Hold.out ?_))
theorem unique_call {R : Addr} {rs : List Value} {n : Nat} {b kb : Bool} {ds : List Dat} {mF : Addr → Str → Option Value}
    (B : Below A₀ base outer h₀) (F : Fr h₀ L s.heap m) (X : (hd1.heap_39 w.params).In h₀) (N : News h₀ L s.heap ((225, tabObj #[]) :: rest)) (T : Top p loose mean mg mb h₀) (hk : cs.kind = .function) (hd : dp + 40 < recursionLimit) (hu : un + 2400 < cLine) (C : CodeHd h₀ 229 225)
    (hm : (R, listOf rs.toArray n) ∈ rest) (hrs : DatAll [] rs ds) (ok : RowOk b kb ds) (hr : ∀ p ∈ rest, p.1 ≠ 225)
    (fin : ∀ D ys own ps h tk, Fr h₀ L h (mF D) → News h₀ L h ((D, lst ys) :: (own ++ (225, tabObj ps) :: rest)) → Off1 D (own ++ (225, tabObj ps) :: rest) → TabHit 97 4 getQual ps own → (∀ q ∈ own, AllLt q.1 ((225, tabObj ps) :: rest)) → DatAll [] ys (firstD b ds) → Q (.ref D) { s with heap := h, toks := tk, gens := s.gens.push .finished }) :
    wpAny (model PySem.Challenge.rw_bb0048_01.row.prog w) (ktrTop dp un gd cn cs L a ccd cl outer) (call (.ref 265) [.none, .ref R, .bool b]) (SrcG PySem.Challenge.rw_bb0048_01.row.prog w (ktrTop dp un gd cn cs L a ccd cl outer) h₀ L m mF Q) E s := by
  have X₀ := X
  revert X; k_fill; intro X
  refine wpAny_call ?_
  refine' code_gen ?k1 ?k2 ?k3 ?k4 ?k5 ?kA ?kF ?kK ?k6 ?k7 ?k8 ?k9 ?kB ?_ ?c1 ?c2 ?c3 ?c4; (case kA => exact rfl); (case kF => exact rfl); (case kK => first | assumption | exact rfl); (case k1 => k_asm); (case k2 => k_asm); (case k3 => k_asm); (case k4 => k_asm); (case k5 => k_asm); (case k6 => k_is); (case k7 => k_is); (case k8 => first | walk_at "room" | ktr_room); (case k9 => first | exact BindsTo.of_eq rfl | exact binds_K (by k_in) rfl (by k_is) rfl rfl rfl); (case kB => exact locs rfl); (case c1 => decide); (case c2 => exact rfl); (case c3 => exact rfl); (case c4 => exact rfl)
  k_whole
  intro g L' G h₂ tk nm qn FG F' N' B' X' T' l1 l2 l3
  dsimp only
  replace F' : Fr g L' h₂ (uniqMap R b) := F'
  have C' := CodeHd.keeps C FG.keep
  refine ⟨G, s.gens.size, nm, qn, _, g, L', _, (225, tabObj #[]) :: rest, fun ys led => ∃ own ps, led = own ++ (225, tabObj ps) :: rest ∧ TabHit 97 4 getQual ps own ∧ (∀ q ∈ own, AllLt q.1 ((225, tabObj ps) :: rest)) ∧ DatAll [] ys (firstD b ds), rfl, T'.nolimit, Array.getElem?_push_size, FG, F', N', fun p hp => Nat.ne_of_lt (l2 p hp), ?_, ?_⟩
  · intro D C oC mC h tk hoC F1 N1 off hDC hDG hCG hlD hlC
    generalize (Shared.setGen _ _ _) = sr
    refine ⟨ds.length + 2, seg_func ?_⟩
    have hlr := hrs.length
    clear F' N' F N FG
    refine seg_execs_cons (seg_plain (wpAny_mono (Q := GotAt w g L' b R D C oC G (gobjOf s.gens.size nm qn) rest sr) ?_ (fun fl s' hq => ?_) fun _ _ e => e))
    · cases b
      · k_steps
        refine ⟨?_⟩
        refine getter_newF (rest := (D, lst []) :: (C, oC) :: (G, gobjOf s.gens.size nm qn) :: rest) B' F1 X' (cb_drop N1 (by k_sub)) T' rfl (by walk_at "room") (by have hcL9 := cLine_is; walk_at "room") C' (List.forall_mem_cons.mpr ⟨?_, List.forall_mem_cons.mpr ⟨?_, List.forall_mem_cons.mpr ⟨?_, hr⟩⟩⟩) ?_
        · exact Nat.ne_of_gt (hlD (225, _) (.head _))
        · exact Nat.ne_of_gt (hlC (225, _) (.head _))
        · exact Ne.symm (Nat.ne_of_lt (l2 (225, _) (.head _)))
        · intro f own ps h1 tk1 hG hT hlt F2 N2
          k_steps
          exact ⟨rfl, f, own, ps, _, _, rfl, hG, hT, hlt, by with_reducible assumption, by with_reducible assumption⟩
      · k_steps
        refine ⟨?_⟩
        refine getter_newT (rest := (D, lst []) :: (C, oC) :: (G, gobjOf s.gens.size nm qn) :: rest) B' F1 X' (cb_drop N1 (by k_sub)) T' rfl (by walk_at "room") (by have hcL9 := cLine_is; walk_at "room") C' (List.forall_mem_cons.mpr ⟨?_, List.forall_mem_cons.mpr ⟨?_, List.forall_mem_cons.mpr ⟨?_, hr⟩⟩⟩) ?_
        · exact Nat.ne_of_gt (hlD (225, _) (.head _))
        · exact Nat.ne_of_gt (hlC (225, _) (.head _))
        · exact Ne.symm (Nat.ne_of_lt (l2 (225, _) (.head _)))
        · intro f own ps h1 tk1 hG hT hlt F2 N2
          k_steps
          exact ⟨rfl, f, own, ps, _, _, rfl, hG, hT, hlt, by with_reducible assumption, by with_reducible assumption⟩
    obtain ⟨rfl, f, own, ps, h1, tk1, rfl, hG, hT, hlt, F2, N2⟩ := hq
    dsimp only
    have o3 : Off3 G C D (own ++ (225, tabObj ps) :: rest) := Off3.of fun p hp => by
      rcases List.mem_append.mp hp with hp | hp
      · have q := hlt p hp
        exact ⟨Nat.ne_of_gt q.2.2.2.1, Nat.ne_of_gt q.2.2.1, Nat.ne_of_gt q.2.1⟩
      · rcases List.mem_cons.mp hp with rfl | hp
        · exact off.mem (225, tabObj #[]) (.head _)
        · exact off.mem p (.tail _ hp)
    have N3 : News g L' h1 ((D, lst []) :: (C, oC) :: (G, gobjOf s.gens.size nm qn) :: (own ++ (225, tabObj ps) :: rest)) := cb_drop N2 (subCons (by k_mem) (subCons (by k_mem) (subCons (by k_mem) (subMid (fun p hp => List.mem_append.mpr (.inl hp)) fun p hp => List.mem_append.mpr (.inr ?_)))))
    rotate_left
    · rcases List.mem_cons.mp hp with rfl | hp
      · k_mem
      · exact .tail _ (.tail _ (.tail _ (.tail _ hp)))
    have hown : ∀ p ∈ own, p ∈ own ++ (225, tabObj ps) :: rest := subAppL
    have hRm : (R, listOf rs.toArray n) ∈ own ++ (225, tabObj ps) :: rest := List.mem_append.mpr (.inr (.tail _ hm))
    clear N2 N1 F1 hlD hlC hm
    generalize htl : own ++ (225, tabObj ps) :: rest = tl at o3 N3 hown hRm
    refine seg_execs_cons (seg_plain ?_)
    k_steps
    rename_i Z hA ledZ hsi hss lZ h3 F4 N4
    dsimp only
    have hS0 := SetD.new (kb := kb) (b := b) hsi hss
    generalize ({ cls := .type "set", data := .set #[] 0 (.fresh 0 0 ledZ) } : Obj) = so0 at N4 hS0
    clear hsi hss
    refine seg_execs_cons (seg_forList (ax := R) (vs := rs) (k := n) (J := fun i m₁ nw n' => ∃ u1 u2 so ys oC mC, m₁ = (fun y => if y = Str.ofString "item" then u1 else if y = Str.ofString "key" then u2 else if y = Str.ofString "seen" then some (.ref Z) else if y = Str.ofString "getter" then some (.ref f) else uniqMap R b y) ∧ nw = (Z, so) :: (D, lst ys) :: (C, oC) :: (G, gobjOf s.gens.size nm qn) :: tl ∧ NsObj oC mC ∧ n' + i ≥ ds.length + 2 ∧ ys.length ≤ i ∧ SetD PySem.Challenge.rw_bb0048_01.row.prog w kb b ((ds.take i).foldl (fstD b) []) so ∧ DatAll [] ys ((ds.take i).foldl (fstD b) [])) rfl (fun _ _ => rfl) F4 N4 (by k_mem) ?_ ⟨none, none, so0, [], oC, mC, ?_, rfl, hoC, by omega, Nat.le_refl _, hS0, .nil⟩ ?_ ?_ ?_)
    · rintro j m nw n' ⟨u1, u2, so, ys, oC, mC, rfl, rfl, _⟩
      k_mem
    · funext y
      by_cases e1 : y = Str.ofString "item"
      · subst e1; rfl
      by_cases e2 : y = Str.ofString "key"
      · subst e2; rfl
      rw [if_neg e1, if_neg e2]
    · k_steps
    · intro I p i v oI h tk m₁ nw n' s₀ hi hv hJ F5 N5 off5 ih
      obtain ⟨u1, u2, so, ys, oC2, mC2, hm₁, hnw, hoC2, hn', hyl, hso, hys⟩ := hJ
      subst hm₁ hnw
      have hZI : @Ne Nat Z I := off5 (Z, so) (.head _)
      have hDI : @Ne Nat D I := off5 (D, lst ys) (by k_mem)
      have hCI : @Ne Nat C I := off5 (C, oC2) (by k_mem)
      have hGI : @Ne Nat G I := off5 (G, gobjOf s.gens.size nm qn) (by k_mem)
      have htI : ∀ p ∈ tl, p.1 ≠ I := fun p hp => off5 p (.tail _ (.tail _ (.tail _ (.tail _ hp))))
      have htZ : ∀ p ∈ tl, p.1 ≠ Z := allLt_ne lZ.2.2.2
      obtain ⟨d, hd1, hdv⟩ := datAt hrs hv
      have hdk := ok.1 d (List.mem_of_getElem? hd1)
      have hdl := ok.2.1 d (List.mem_of_getElem? hd1)
      have htk : (ds.take (i + 1)).foldl (fstD b) [] = fstD b ((ds.take i).foldl (fstD b) []) d := by
        rw [List.take_add_one, hd1]; simp
      have hfl : ((ds.take i).foldl (fstD b) []).length < 50 := by
        have := firstD_length b (ds.take i) []
        have hl := ok.2.2.2
        rw [List.length_take, List.length_nil] at this; omega
      rw [htk] at ih
      have hlen := ok.2.2.2
      clear htk hRm hr hd1
      generalize (ds.take i).foldl (fstD b) [] = fs at hys hso hfl ih
      k_steps
      refine seg_execs_cons (seg_plain ?_)
      k_steps
      refine seg_execs_cons (seg_If ?_)
      k_steps
      · rename_i h6 v9 h7 tk7 hv9 hk9 h8 F8 N8 hem
        obtain ⟨k, rfl⟩ : ∃ k, n' = k + 1 := ⟨n' - 1, by omega⟩
        refine seg_execs_cons (seg_plain ?_)
        k_steps
        rename_i h9 so9 F9 N9 hs9
        refine seg_execs_cons (seg_Expr_Yield rfl rfl rfl ?_)
        k_steps
        rename_i kap hkap
        refine ⟨_, _, _, ys, oC2, mC2, (Z, so9) :: (I, oI) :: tl, rfl, F9, hoC2, cb_drop N9 (by k_sub), ⟨⟨Nat.ne_of_gt lZ.2.2.1, Nat.ne_of_gt lZ.2.1, Nat.ne_of_gt lZ.1⟩, ⟨Ne.symm hGI, Ne.symm hCI, Ne.symm hDI⟩, o3⟩, by omega, fun h10 tk10 oC5 mC5 hoC5 F10 N10 => hkap .none _ ?_⟩
        dsimp only
        refine seg_execs_nil ?_
        dsimp only
        refine seg_execs_nil (seg_again rfl ?_)
        refine ih _ _ _ ((Z, so9) :: (D, lst (ys ++ [v])) :: (C, oC5) :: (G, gobjOf s.gens.size nm qn) :: tl) _ _ F10 (cb_drop N10 (by k_sub)) (List.forall_mem_cons.mpr ⟨hZI, List.forall_mem_cons.mpr ⟨hDI, List.forall_mem_cons.mpr ⟨hCI, List.forall_mem_cons.mpr ⟨hGI, htI⟩⟩⟩⟩) ⟨some v, some v9, so9, ys ++ [v], oC5, mC5, mapUniq _ _ _ _ _, rfl, hoC5, by omega, by rw [List.length_append, List.length_singleton]; omega, ?_, ?_⟩
        · rw [fstD, if_pos hem]; exact hs9
        · rw [fstD, if_pos hem]; exact hys.append (.one hdv)
      · rename_i h6 v9 h7 tk7 hv9 hk9 h8 F8 N8 hem
        refine seg_execs_nil ?_
        dsimp only
        refine seg_execs_nil (seg_again rfl ?_)
        refine ih _ _ _ ((Z, so) :: (D, lst ys) :: (C, oC2) :: (G, gobjOf s.gens.size nm qn) :: tl) _ _ F8 N8 (List.forall_mem_cons.mpr ⟨hZI, List.forall_mem_cons.mpr ⟨hDI, List.forall_mem_cons.mpr ⟨hCI, List.forall_mem_cons.mpr ⟨hGI, htI⟩⟩⟩⟩) ⟨some v, some v9, so, ys, oC2, mC2, mapUniq _ _ _ _ _, rfl, hoC2, by omega, by omega, ?_, ?_⟩
        · rw [fstD, if_neg (by rw [hem]; exact Bool.false_ne_true)]; exact hso
        · rw [fstD, if_neg (by rw [hem]; exact Bool.false_ne_true)]; exact hys
    · intro h tk m nw n' s₀ F5 N5 hJ
      obtain ⟨u1, u2, so, ys, oC2, mC2, hm₁, hnw, hoC2, hn', hyl, hso, hys⟩ := hJ
      subst hm₁ hnw
      dsimp only
      rw [hlr, List.take_length] at hys
      refine seg_execs_nil ?_
      dsimp only
      refine seg_end (.ok (.ret .none)) ⟨rfl, _, _, _, ys, oC2, mC2, tl, rfl, F5, hoC2, cb_drop N5 (subCons (by k_mem) (subCons (by k_mem) (subCons (by k_mem) fun p hp => .tail _ (.tail _ (.tail _ (.tail _ hp)))))), o3, own, ps, htl.symm, hT, fun q hq => ?_, hys⟩
      have z := hlt q hq
      exact ⟨z.1, z.2.2.2.2⟩
  · rintro D ys led h tk F1 N1 o1 ⟨own, ps, rfl, hT, hlt, hd⟩
    have := fin D ys own ps h tk F1 N1 o1 hT hlt hd
    rw [push_fin]
    exact this
end
end
section
local macro_rules | `(tactic| walk_at "call ref") => `(tactic| (k_here; k_dflt (refine' getter_use ?G ?B ?F ?X ?N ?T ?hk ?hd ?hu ?hs ?hv ?hk2 ?hl ?_; (case G => with_reducible assumption); (case B => k_asm); (case F => k_asm); (case X => k_asm); (case N => k_asm); (case T => k_asm); (case hk => first | exact rfl | assumption); (case hd => walk_at "room"); (case hu => (have hcL9 := cLine_is; walk_at "room")); (case hs => k_sub); (case hv => with_reducible assumption); (case hk2 => with_reducible assumption); (case hl => with_reducible assumption)); intro v9 h9 tk9 hv9 hk9 F9 N9))
local macro_rules | `(tactic| walk_at "callWith ref") => `(tactic| (k_here; k_dflt (refine' callWith_F ?k1 ?_; (case k1 => (refine' Getter.fn ?G ?N ?S; (case G => with_reducible assumption); (case N => k_asm); (case S => k_sub))); k_whole)))
local macro_rules | `(tactic| walk_at "FnAt") => `(tactic| (refine' Getter.fn ?G ?N ?S; (case G => with_reducible assumption); (case N => k_asm); (case S => k_sub)))
section
def grpStep (b : Bool) : List (Dat × List Dat) × Option (Dat × List Dat) → Dat → List (Dat × List Dat) × Option (Dat × List Dat)
  | (gs, none), d => (gs, some (kindD b d, [d]))
  | (gs, some (m, r)), d => if eqD m (kindD b d) then (gs, some (m, r ++ [d])) else (gs ++ [(m, r)], some (kindD b d, [d]))
def grpD (b : Bool) (ds : List Dat) : List (Dat × List Dat) := let a := ds.foldl (grpStep b) ([], none); a.1 ++ a.2.toList
def grpT (q : Dat × List Dat) : Dat := .tuple [q.1, .list q.2]
abbrev tupO (mk : Value) (l : Addr) (n : Nat) : Obj := { cls := .type "tuple", data := .seq [mk, .ref l].toArray n }
theorem mapGrp (a b u1 u2 : Option Value) (f : Str → Option Value) :
    (fun y => if y = Str.ofString "mark" then a else if y = Str.ofString "row" then b else if y = Str.ofString "row" then u1 else if y = Str.ofString "mark" then u2 else f y) =
    fun y => if y = Str.ofString "row" then b else if y = Str.ofString "mark" then a else f y := by
  funext y
  by_cases e1 : y = Str.ofString "row"
  · subst e1; rfl
  by_cases e2 : y = Str.ofString "mark"
  · subst e2; rfl
  simp only [e1, e2, if_false]
abbrev grpMap (R f : Addr) : Str → Option Value := fun y => List.lookup y [(Str.ofString "key", .ref f), (Str.ofString "rows", .ref R)]
theorem truthy_snoc {prog : Program} {w : World} {A : Around} {E : Value → Shared → Prop} {s : Shared} {h₀ : Heap} {L : Addr} {news : List (Addr × Obj)} {l : Addr} {vs : List Value} {x : Value} {n : Nat} {Q : Bool → Shared → Prop} (N : News h₀ L s.heap news) (hm : (l, listOf (vs ++ [x]).toArray n) ∈ news) (hz : vs.length ≤ 1000)
    (h : ∀ tk, Q true { s with toks := tk }) : wpAny (model prog w) A (truthy (.ref l)) Q E s :=
  kgr_truthy N hm rfl rfl (by rw [List.length_append, List.length_singleton]; omega) (by
    have e : (!(vs ++ [x]).isEmpty) = true := by simp
    rw [e]; exact h _)
local macro_rules | `(tactic| walk_at "truthy ref") => `(tactic| (k_here; (with_reducible show wpAny _ _ (truthy (Value.ref _)) _ _ _); k_dflt (refine' truthy_snoc ?N ?m ?z ?_; (case N => k_asm); (case m => k_mem); (case z => omega)); intro tk9))
section
variable {w : World} {p : Program} {loose : List Str} {mean : ExcName → Option Value} {mg mb : Str → Option Value}
    {dp un : Nat} {gd : Option (List Code)} {cn : Str} {cs : Scope} {a : Addr} {ccd : Value} {cl : List (Str × Addr)} {outer : List Env} {A₀ : Around} {base h₀ : Heap} {L : Addr} {m : Str → Option Value} {s : Shared} {Q E : Value → Shared → Prop}
/-- the ledger between the turns -/
def GrpAt (kb : Bool) (i : Nat) (f0 : Addr) (news : List (Addr × Obj)) (acc : List (Dat × List Dat) × Option (Dat × List Dat)) (nw : List (Addr × Obj)) : Prop :=
  (acc = ([], none) ∧ nw = (f0, listOf (List.toArray []) 0) :: news) ∨
  ∃ gs md rd ts l run kr T n mk outs kk, acc = (gs, some (md, rd)) ∧ nw = (f0, listOf (ts ++ [Value.ref T]).toArray kk) :: (l, listOf run.toArray kr) :: (T, tupO mk l n) :: (outs ++ news) ∧
    DatAll outs ts (gs.map grpT) ∧ DatIn [] mk md ∧ KB kb md ∧ DatAll [] run rd ∧ @LT.lt Nat _ f0 l ∧ @LT.lt Nat _ l T ∧ AllLt l (outs ++ news) ∧ gs.length + 1 ≤ i ∧ rd.length ≤ i ∧ (∀ p ∈ outs, @LT.lt Nat _ f0 p.1) ∧ ∀ q ∈ outs, AllLt q.1 news
theorem groupby_use {R f : Addr} {own news : List (Addr × Obj)} {b kb : Bool} {rvs : List Value} {n : Nat} {ds : List Dat} (G : Getter w f own b) (hsub : ∀ p ∈ own, p ∈ news)
    (B : Below A₀ base outer h₀) (F : Fr h₀ L s.heap m) (X : (hd1.heap_39 w.params).In h₀) (N : News h₀ L s.heap news) (T : Top p loose mean mg mb h₀) (hk : cs.kind = .function) (hd : dp + 40 < recursionLimit) (hu : un + 3000 < cLine)
    (hm : (R, listOf rvs.toArray n) ∈ news) (hrs : DatAll [] rvs ds) (ok : RowOk b kb ds)
    (ret : ∀ J vs outs k h' tk', DatAll outs vs ((grpD b ds).map grpT) → (∀ q ∈ outs, AllLt q.1 news) → AllLt J news → (∀ q ∈ outs, @LT.lt Nat _ J q.1) → Fr h₀ L h' m → News h₀ L h' ((J, listOf (List.toArray vs) k) :: (outs ++ news)) → Q (.ref J) { s with heap := h', toks := tk' }) :
    wpAny (model PySem.Challenge.rw_bb0048_01.row.prog w) (ktrTop dp un gd cn cs L a ccd cl outer) (call (.ref 296) [.ref R, .ref f]) Q E s := by
  revert X; k_fill; intro X
  refine wpAny_call ?_
  walk_at "enter"
  rename_i g' L' hA FG F0 N0 B' X' T'
  k_steps
  rename_i f0 h1 l1 h2 F1 N1
  replace F1 : Fr g' L' h2 (fun y => if y = Str.ofString "found" then some (.ref f0) else grpMap R f y) := F1
  have hlr := hrs.length
  refine SrcF.list (vs := rvs) (k := n) (J := fun i m₁ nw => ∃ u1 u2, m₁ = (fun y => if y = Str.ofString "row" then u1 else if y = Str.ofString "mark" then u2 else if y = Str.ofString "found" then some (.ref f0) else grpMap R f y) ∧ GrpAt kb i f0 news ((ds.take i).foldl (grpStep b) ([], none)) nw) rfl F1 N1 (by k_mem) ?_ ⟨none, none, ?_, .inl ⟨rfl, rfl⟩⟩ ?_ ?_
  · rintro j m₁ nw ⟨u1, u2, rfl, (⟨_, rfl⟩ | ⟨gs, md, rd, ts, l, run, kr, T, n, mk, outs, kk, _, rfl, _⟩)⟩
    · exact .tail _ hm
    · exact .tail _ (.tail _ (.tail _ (List.mem_append_right _ hm)))
  · funext y
    by_cases e1 : y = Str.ofString "row"
    · subst e1; rfl
    by_cases e2 : y = Str.ofString "mark"
    · subst e2; rfl
    rw [if_neg e1, if_neg e2]
  · intro g i v I oI h tk m₁ nw hi hv hJ F2 N2 off
    obtain ⟨u1, u2, hm₁, hg⟩ := hJ
    subst hm₁
    obtain ⟨d, hd1, hdv⟩ := datAt hrs hv
    have hdk := ok.1 d (List.mem_of_getElem? hd1)
    have hdl := ok.2.1 d (List.mem_of_getElem? hd1)
    have htk : (ds.take (i + 1)).foldl (grpStep b) ([], none) = grpStep b ((ds.take i).foldl (grpStep b) ([], none)) d := by
      rw [List.take_add_one, hd1]; simp
    have hlen := ok.2.2.2
    have l1' := allLt_of l1
    have l1n := allLt_ne l1'
    generalize (ds.take i).foldl (grpStep b) ([], none) = acc at hg htk
    rcases hg with ⟨rfl, rfl⟩ | ⟨gs, md, rd, ts, l, run, kr, T, n, mk, outs, kk, rfl, rfl, hts, hmk, hmb, hrun, lf, lT, lo, hgl, hrl, ho0, hoN⟩
    · have hnI : ∀ p ∈ news, p.1 ≠ I := fun p hp => off p (.tail _ hp)
      have hfI : @Ne Nat f0 I := off (f0, _) (.head _)
      k_steps
      rename_i v9 h9 tk9 hv9 hk9 hS tk1 tk2 l9 hB ltl T9 hC F8 N8 ltT h10 F10 N10
      refine TurnF.intro ((f0, listOf ([] ++ [Value.ref T9]).toArray (0 + 1)) :: (l9, listOf [v].toArray 0) :: (T9, tupO v9 l9 0) :: ([] ++ news)) F10 N10 (subCons (by k_mem) (subCons (by k_mem) (subCons (by k_mem) (subCons (by k_mem) fun p hp => .tail _ (.tail _ (.tail _ (.tail _ hp))))))) ?_ ⟨some v, some v9, mapGrp _ _ _ _ _, .inr ⟨[], kindD b d, [d], [], l9, [v], 0, T9, 0, v9, [], 1, htk, rfl, .nil, hv9, hk9, .one hdv, ltl.2.1, ltT.1, ltl.2.2, by simp, by simp, (fun _ h => nomatch h), (fun _ h => nomatch h)⟩⟩
      exact List.forall_mem_cons.mpr ⟨hfI, List.forall_mem_cons.mpr ⟨Nat.ne_of_gt ltl.1, List.forall_mem_cons.mpr ⟨Nat.ne_of_gt ltT.2.1, hnI⟩⟩⟩
    · have hfI : @Ne Nat f0 I := off (f0, _) (.head _)
      have hlI : @Ne Nat l I := off (l, _) (.tail _ (.head _))
      have hTI : @Ne Nat T I := off (T, _) (.tail _ (.tail _ (.head _)))
      have hoI : ∀ p ∈ outs ++ news, p.1 ≠ I := fun p hp => off p (.tail _ (.tail _ (.tail _ hp)))
      have hof : ∀ p ∈ outs ++ news, p.1 ≠ f0 := fun p hp => (List.mem_append.mp hp).elim (fun hp => Nat.ne_of_gt (ho0 p hp)) fun hp => l1n p hp
      have hol := allLt_ne lo
      have hon : ∀ p ∈ own, p ∈ outs ++ news := fun p hp => List.mem_append_right _ (hsub p hp)
      have htsl := hts.length
      have hrul := hrun.length
      rw [List.length_map] at htsl
      generalize htl : outs ++ news = tl at F2 N2 hoI hof hol hon off lo
      k_steps
      · rename_i v9 h9 tk9 hv9 hk9 hS FS NS tk1 tk2 heq tk3 h10 F10 N10
        subst htl
        refine TurnF.intro ((f0, listOf (ts ++ [Value.ref T]).toArray kk) :: (l, listOf (run ++ [v]).toArray (kr + 1)) :: (T, tupO mk l n) :: (outs ++ news)) F10 N10 subSelf ?_ ⟨some v, some v9, mapGrp _ _ _ _ _, .inr ⟨gs, md, rd ++ [d], ts, l, run ++ [v], kr + 1, T, n, mk, outs, kk, by rw [htk, grpStep, if_pos heq], rfl, hts, hmk, hmb, hrun.append (.one hdv), lf, lT, lo, by omega, by rw [List.length_append, List.length_singleton]; omega, ho0, hoN⟩⟩
        exact List.forall_mem_cons.mpr ⟨hfI, List.forall_mem_cons.mpr ⟨hlI, List.forall_mem_cons.mpr ⟨hTI, hoI⟩⟩⟩
      · rename_i v9 h9 tk9 hv9 hk9 hS tk1 tk2 heq tk3 l9 hB ltl T9 hC F8 N8 ltT h10 F10 N10
        subst htl
        refine TurnF.intro ((f0, listOf ((ts ++ [Value.ref T]) ++ [Value.ref T9]).toArray (kk + 1)) :: (l9, listOf [v].toArray 0) :: (T9, tupO v9 l9 0) :: (((l, listOf run.toArray kr) :: (T, tupO mk l n) :: outs) ++ news)) F10 N10 (subCons (by k_mem) (subCons (by k_mem) (subCons (by k_mem) (subCons (by k_mem) fun p hp => .tail _ (.tail _ (.tail _ (.tail _ hp))))))) ?_ ⟨some v, some v9, mapGrp _ _ _ _ _, .inr ⟨gs ++ [(md, rd)], kindD b d, [d], ts ++ [Value.ref T], l9, [v], 0, T9, 0, v9, (l, listOf run.toArray kr) :: (T, tupO mk l n) :: outs, kk + 1, by rw [htk, grpStep, if_neg (by rw [heq]; exact Bool.false_ne_true)], rfl, ?_, hv9, hk9, .one hdv, ltl.2.1, ltT.1, ⟨ltl.2.2.1, ltl.2.2.2.1, ltl.2.2.2.2⟩, by rw [List.length_append, List.length_singleton]; omega, by simp, ?_, ?_⟩⟩
        · exact List.forall_mem_cons.mpr ⟨hfI, List.forall_mem_cons.mpr ⟨Nat.ne_of_gt ltl.1, List.forall_mem_cons.mpr ⟨Nat.ne_of_gt ltT.2.1, List.forall_mem_cons.mpr ⟨hlI, List.forall_mem_cons.mpr ⟨hTI, hoI⟩⟩⟩⟩⟩
        · rw [List.map_append]
          refine (hts.mono fun p hp => .tail _ (.tail _ hp)).append (.one (.tuple (.tail _ (.head _)) (.cons (hmk.mono subNil) (.one (.list (.head _) (hrun.mono subNil))))))
        · exact List.forall_mem_cons.mpr ⟨lf, List.forall_mem_cons.mpr ⟨Nat.lt_trans lf lT, ho0⟩⟩
        · have z := (allLt_app.mp lo).2
          exact List.forall_mem_cons.mpr ⟨z, List.forall_mem_cons.mpr ⟨allLt_of fun p hp => Nat.lt_trans (ktn_ltOf z p hp) lT, hoN⟩⟩
  · rintro m₁ nw h tk F2 N2 ⟨u1, u2, rfl, hg⟩
    rw [hlr, List.take_length] at hg
    have l1' := allLt_of l1
    k_steps
    rename_i kF kN kT kX
    rcases hg with ⟨e, rfl⟩ | ⟨gs, md, rd, ts, l, run, kr, T, n, mk, outs, kk, e, rfl, hts, hmk, hmb, hrun, lf, lT, lo, hgl, hrl, ho0, hoN⟩
    · refine ret f0 [] [] 0 _ _ ?_ (fun _ h => nomatch h) l1' (fun _ h => nomatch h) kF kN
      rw [grpD, e]; exact .nil
    · refine ret f0 (ts ++ [Value.ref T]) ((l, listOf run.toArray kr) :: (T, tupO mk l n) :: outs) kk _ _ ?_ ?_ l1' ?_ kF kN
      · rw [grpD, e]
        show DatAll _ _ ((gs ++ [(md, rd)]).map grpT)
        rw [List.map_append]
        exact (hts.mono fun p hp => .tail _ (.tail _ hp)).append (.one (.tuple (.tail _ (.head _)) (.cons (hmk.mono subNil) (.one (.list (.head _) (hrun.mono subNil))))))
      · have z := (allLt_app.mp lo).2
        exact List.forall_mem_cons.mpr ⟨z, List.forall_mem_cons.mpr ⟨allLt_of fun p hp => Nat.lt_trans (ktn_ltOf z p hp) lT, hoN⟩⟩
      · exact List.forall_mem_cons.mpr ⟨lf, List.forall_mem_cons.mpr ⟨Nat.lt_trans lf lT, ho0⟩⟩
end
end
end
end
end
end
section
local macro_rules | `(tactic| walk_at "inplaceOp Add ref") => `(tactic| (k_here; (with_reducible show wpAny _ _ (inplaceOp Operator.Add (Value.ref _) (Value.ref _)) _ _ _); k_dflt (refine' iadd_L ?F ?N ?b ?e ?U ?z ?_; (case F => k_asm); (case N => k_asm); (case b => k_mem); (case U => k_upd); (case e => (simp only [List.length_replicate]; omega)); (case z => (simp only [List.length_replicate]; omega))); intro h9 F9 N9))
local macro_rules | `(tactic| walk_at "binaryOp Mult ref int") => `(tactic| (k_here; (with_reducible show wpAny _ _ (binaryOp Operator.Mult (Value.ref _) (Value.int _ _)) _ _ _); k_dflt (refine' mul1_L ?F ?N ?l ?lo ?hi ?_; (case F => k_asm); (case N => k_asm); (case l => k_mem); (case lo => omega); (case hi => omega)); intro D' h' F' N' l1; (try k_lt l1)))
local macro_rules | `(tactic| walk_at "call type:list") => `(tactic| (k_here; (with_reducible show wpAny _ _ (call (Value.type _) [Value.ref _]) _ _ _); k_dflt (refine' copy_L ?F ?N ?b ?z ?_; (case F => k_asm); (case N => k_asm); (case b => k_mem); (case z => walk_at "size")); intro D' c' h' F' N' l1; (try k_lt l1)))
local macro_rules | `(tactic| walk_at "subscriptTail") => `(tactic| (k_here; (with_reducible show wpAny _ _ (subscriptTail _ _ (Value.ref _) (Value.int (-1) _)) _ _ _); k_dflt (refine' last_L ?N ?m ?z ?_ ?hs; (case N => k_asm); (case m => k_mem); (case z => (try simp only [List.length_cons, List.length_nil, List.length_append]); omega); (case hs => with_unfolding_all rfl))))
local macro_rules | `(tactic| walk_at "setItem ref int") => `(tactic| (k_here; (with_reducible show wpAny _ _ (setItem (Value.ref _) (Value.int (-1) _) _) _ _ _); k_dflt (refine' setlast_L ?F ?N ?U ?_; (case F => k_asm); (case N => k_asm); (case U => k_upd)); intro h9 F9 N9))
local macro_rules | `(tactic| walk_at "subscriptTail Name UnaryOp ref int") => `(tactic| (k_here; (with_reducible show wpAny _ _ (subscriptTail _ _ (Value.ref _) (Value.int (-1) _)) _ _ _); k_dflt (refine' last_L ?N ?m ?z ?_ ?hs; (case N => k_asm); (case m => k_mem); (case z => (try simp only [List.length_cons, List.length_nil, List.length_append]); omega); (case hs => with_unfolding_all rfl))))
section
local macro_rules | `(tactic| walk_at "call ref") => `(tactic| (k_here; (with_reducible show wpAny _ _ (call (Value.ref 241) _ _) _ _ _); k_dflt (refine' prep_use ?B ?F ?X ?N ?T ?hk ?hd ?hu ?_; (case B => k_asm); (case F => k_asm); (case X => k_asm); (case N => k_asm); (case T => k_asm); (case hk => first | exact rfl | assumption); (case hd => walk_at "room"); (case hu => (have hcL9 := cLine_is; walk_at "room"))); intro P9 h9 tk9 l9 F9 N9; (simp only [AllLt] at l9)))
local macro_rules | `(tactic| walk_at "enter_nest") => `(tactic| k_dflt (refine' code_nest ?k1 ?k2 ?k3 ?k4 ?k5 ?kA ?kF ?kK ?k6 ?k7 ?k8 ?k9 ?kB ?_ ?c2 ?c3 ?c4 ?c5; (case kA => exact rfl); (case kF => exact rfl); (case kK => first | assumption | exact rfl); (case k1 => k_asm); (case k2 => k_asm); (case k3 => k_asm); (case k4 => k_asm); (case k5 => k_asm); (case k6 => k_mem); (case k7 => exact codeRec_news (by k_asm) (by k_mem) (by assumption) (by assumption)); (case k8 => first | walk_at "room" | ktr_room); (case k9 => exact BindsTo.of_eq rfl); (case c5 => decide); (case kB => exact locs rfl); (case c2 => exact rfl); (case c3 => exact rfl); (case c4 => exact rfl); k_whole; intro g' L' h' FG' F' N' B' X' T'; (try dsimp only); (try k_lift B'); (try k_fold)))
section
local macro_rules | `(tactic| walk_at "exec For Tuple Call") => `(tactic| (k_here; (rename Fr _ _ _ _ => lF'); (with_unfolding_all refine' For_turns lF' ?_; k_whole)))
local macro_rules | `(tactic| walk_at "call ref") => `(tactic| (k_here; (with_reducible show wpAny _ _ (call (Value.ref 222) _ _) _ _ _); k_dflt (refine' ignore_use ?B ?F ?X ?N ?T ?hk ?hd ?hu ?hv ?hk2 ?hl ?_; (case B => k_asm); (case F => k_asm); (case X => k_asm); (case N => k_asm); (case T => k_asm); (case hk => first | exact rfl | assumption); (case hd => walk_at "room"); (case hu => (have hcL9 := cLine_is; walk_at "room")); (case hv => with_reducible assumption); (case hk2 => with_reducible assumption); (case hl => with_reducible assumption)); intro v9 h9 tk9 hv9 F9 N9))
/-- the closure at f, its objects own: it hands back a new list of its argument's kind -/
def GetterL (w : World) (f : Addr) (own : List (Addr × Obj)) (b : Bool) : Prop := (∃ fo, (f, fo) ∈ own ∧ ∃ fd, fo.data = .func fd) ∧
  ∀ (news : List (Addr × Obj)) (v : Value) (d : Dat) (k : Bool), (∀ p ∈ own, p ∈ news) → DatIn [] v d → KB k d → (b = false → LenD d) → Says w f 10 900 [v] news (fun news' v' => ∃ J v2 n, v' = .ref J ∧ news' = (J, listOf #[v2] n) :: news ∧ AllLt J news ∧ DatIn [] v2 (kindD b d))
local macro_rules | `(tactic| walk_at "binaryOp Mult ref int") => `(tactic| (with_reducible rename Halt _ => halt9; refine Hold.out ?_))
theorem multi_new {w : World} {b : Bool} {pv : Value} (hp : (b = true ∧ pv = .none) ∨ (b = false ∧ pv = .ref 222)) {rest : List (Addr × Obj)} 
  {p : Program} {loose : List Str} {mean : ExcName → Option Value} {mg mb : Str → Option Value}
    {dp un : Nat} {gd : Option (List Code)} {cn : Str} {cs : Scope} {a : Addr} {ccd : Value} {cl : List (Str × Addr)} {outer : List Env} {A₀ : Around} {base h₀ : Heap} {L : Addr} {m : Str → Option Value} {s : Shared} {Q E : Value → Shared → Prop} (B : Below A₀ base outer h₀) (F : Fr h₀ L s.heap m) (X : (hd1.heap_39 w.params).In h₀) (N : News h₀ L s.heap ((233, tabObj #[]) :: rest)) (T : Top p loose mean mg mb h₀) (hk : cs.kind = .function) (hd : dp + 20 < recursionLimit) (hu : un + 1200 < cLine) (C : CodeHd h₀ 235 233) 
    (hr : ∀ p ∈ rest, p.1 ≠ 233)
    (ret : ∀ f own ps h' tk', GetterL w f own b → Fr h₀ L h' m → News h₀ L h' (own ++ (233, tabObj ps) :: rest) → Q (.ref f) { s with heap := h', toks := tk' }) :
    wpAny (model PySem.Challenge.rw_bb0048_01.row.prog w) (ktrTop dp un gd cn cs L a ccd cl outer) (call (.ref 236) [.none, .none] [(Str.ofString "postprocess", pv)]) Q E s := by
  revert X; k_fill; intro X
  refine wpAny_call ?_
  walk_at "enter"
  rename_i g' L' hA tkA FG F0 B' X' T' la lb lc ld c1 c2 c3 dc1 dc2 dc3 N0
  have C' := CodeHd.keeps C FG.keep
  k_steps
  rename_i tk1 l hB l1 hC F1 N1
  refine SrcJ.list (vs := [Value.none]) (k := 0) (J := fun i ys nw => (i = 0 ∧ ys = [] ∧ nw = (l, listOf #[Value.none] 0) :: (L' + 1 + 1 + 1, c1) :: (L' + 1 + 1, c2) :: (L' + 1, c3) :: (233, tabObj #[]) :: rest) ∨
    (i = 1 ∧ ∃ P, ys = [Value.ref P] ∧ nw = (P, listOf #[] 0) :: (l, listOf #[Value.none] 0) :: (L' + 1 + 1 + 1, c1) :: (L' + 1 + 1, c2) :: (L' + 1, c3) :: (233, tabObj #[]) :: rest ∧ (@LT.lt Nat _ l P ∧ @LT.lt Nat _ (L' + 1 + 1 + 1) P ∧ @LT.lt Nat _ (L' + 1 + 1) P ∧ @LT.lt Nat _ (L' + 1) P ∧ @LT.lt Nat _ 233 P ∧ AllLt P rest))) rfl F1 N1 (by k_mem) (by decide) ?_ (.inl ⟨rfl, rfl, rfl⟩) ?_ ?_
  · rintro j ys nw (⟨_, _, rfl⟩ | ⟨_, P, _, rfl, _⟩) <;> k_mem
  · intro g i v I oI C2 oC D m₂ h tk ys nw E' hi hyl hv hJ hoC hm₂ F2 N2 off hne
    obtain rfl : i = 0 := by simp only [List.length_singleton] at hi; omega
    cases hv
    rcases hJ with ⟨_, rfl, rfl⟩ | ⟨h, _⟩
    rotate_left
    · cases h
    refine wpAny_tests_nil ?_
    simp only [if_true]
    k_steps
    rename_i P h9 tk9 l9 F9 N9
    refine TurnJ.intro ((P, listOf #[] 0) :: (l, listOf #[Value.none] 0) :: (L' + 1 + 1 + 1, c1) :: (L' + 1 + 1, c2) :: (L' + 1, c3) :: (233, tabObj #[]) :: rest) F9 N9 (by k_sub) ⟨⟨Nat.ne_of_gt l9.1, Nat.ne_of_gt l9.2.1, Nat.ne_of_gt l9.2.2.1⟩, off⟩ (.inr ⟨by first | trivial | rfl, P, rfl, rfl, l9.2.2.2⟩)
  · rintro D ys nw h tk F2 N2 o1 (⟨h, _⟩ | ⟨_, P, rfl, rfl, lP⟩)
    · cases h
    simp only [Off1] at o1
    k_steps
    rename_i h2 o4 d4 f c' oc vs t ct dc h3 tk3 dd1 dd2 lq1 lq2 h4 F4 N4 kF kN kT kX
    have kN' := kN
    refine ret f ((f, _) :: (c', oc) :: (D, lst [Value.ref P]) :: (P, listOf #[] 0) :: (l, listOf #[Value.none] 0) :: (L' + 1 + 1 + 1, o4) :: (L' + 1 + 1, c2) :: [(L' + 1, c3)]) _ _ _ ?_ kF kN'
    · clear kN kN' N4 F4 kF N F kT kX ret X hu hd
      refine ⟨⟨_, .head _, _, rfl⟩, ?_⟩
      intro news v d k hsub hv hkb hlen p loose mean mg mb dp un gd cn cs a ccd cl outer A₀ base h₀ L m s Q E B F X N T hk hd hu hret
      have N1 := cb_drop N (subMid hsub subSelf)
      simp only [List.cons_append, List.nil_append] at N1
      revert X; k_fill; intro X
      refine wpAny_call ?_
      walk_at "enter_nest"
      rename_i g5 L5 h5 FG5 F5 N5 B5 X5 T5
      have halt : Halt 0 := ⟨trivial⟩
      k_steps
      refine ⟨?_⟩
      rename Halt _ => hal9
      clear hal9
      simp only [List.length_cons, List.length_nil, Nat.zero_add]
      k_steps
      rename_i tk5 l5 h6 l6 D6 h7 l7 h8 F8 N8
      have e8 : List.replicate ((1 : Nat) : Int).toNat Value.none = [Value.none] := rfl
      rw [e8] at N8
      clear N1
      refine ktu_enum (lo := lst [Value.ref P]) (vs := [Value.ref P]) (xs := [Itm.pair (fun t => Value.int 0 t) (Value.ref P)]) rfl F8 N8 (by k_mem) rfl rfl rfl ?_
      intro I2 lI
      have lJ := lI
      k_lt lJ
      refine ItemsRest.pair fun T t2 h tk hT F9 => ?_
      refine AllObj.cons fun oe he => AllObj.cons fun oi hi => AllObj.nil fun N9 => ?_
      simp only [List.cons_append, List.nil_append] at N9
      k_steps
      rename_i h10 tk10 h11 h12 h13 h14 F10 N10
      refine SrcF.list (vs := []) (k := 0) (J := fun _ m₁ nw => m₁ = _ ∧ nw = _) rfl F10 N10 (by k_mem) (fun _ _ _ h => h.2 ▸ by k_mem) ⟨rfl, rfl⟩ (fun _ _ _ _ _ _ _ _ _ hi => absurd hi (Nat.not_lt_zero _)) ?_
      rintro m' nw h15 tk15 F15 N15 ⟨rfl, rfl⟩
      rcases hp with ⟨rfl, rfl⟩ | ⟨rfl, rfl⟩
      · clear N10 F10
        k_steps
        rename_i h22 F22 N22
        refine ⟨_, _, _, _, rfl, F22, N22, fun p hp q hq => ?_, by k_subL, ItemsRest.zero fun h23 tk23 F23 N23 => ?_⟩
        · have hp' : @LT.lt Nat _ p.1 I2 := by
            rcases List.mem_cons.mp hp with rfl | hp
            · exact lI (D6, listOf #[Value.none] 0) (.head _)
            · exact lI p (.tail _ hp)
          rcases List.mem_cons.mp hq with rfl | hq
          · exact Nat.ne_of_lt (Nat.lt_succ_of_lt hp')
          · rw [List.mem_singleton.mp hq]; exact Nat.ne_of_lt hp'
        · clear F22 N22
          k_steps
          rename_i kF7 kN7 kT7 kX7
          exact hret _ _ _ _ ⟨D6, v, 0, rfl, rfl, l7.2.2.2.2.2.2.2.2.2, hv⟩ kF7 (cb_drop kN7 (subCons (.head _) fun p hp => .tail _ (.tail _ (.tail _ (.tail _ (.tail _ (.tail _ (.tail _ (.tail _ (.tail _ (.tail _ hp)))))))))))
      · have hlen' := hlen rfl
        clear N10 F10
        k_steps
        rename_i v9 h20 tk20 hv9 h21 F21 N21 h22 F22 N22
        clear F21 N21
        refine ⟨_, _, _, _, rfl, F22, N22, fun p hp q hq => ?_, by k_subL, ItemsRest.zero fun h23 tk23 F23 N23 => ?_⟩
        · have hp' : @LT.lt Nat _ p.1 I2 := by
            rcases List.mem_cons.mp hp with rfl | hp
            · exact lI (D6, listOf #[Value.none] 0) (.head _)
            · exact lI p (.tail _ hp)
          rcases List.mem_cons.mp hq with rfl | hq
          · exact Nat.ne_of_lt (Nat.lt_succ_of_lt hp')
          · rw [List.mem_singleton.mp hq]; exact Nat.ne_of_lt hp'
        · clear F22 N22
          k_steps
          rename_i kF7 kN7 kT7 kX7
          exact hret _ _ _ _ ⟨D6, v9, 0, rfl, rfl, l7.2.2.2.2.2.2.2.2.2, hv9⟩ kF7 (cb_drop kN7 (subCons (.head _) fun p hp => .tail _ (.tail _ (.tail _ (.tail _ (.tail _ (.tail _ (.tail _ (.tail _ (.tail _ (.tail _ hp)))))))))))
end
end
end
end
end
section
local macro_rules | `(tactic| walk_at "compareOp Eq ref ref") => `(tactic| (k_here; k_dflt (refine' eq_nil ?N ?a ?b ?d ?k ?u ?_; (case N => k_asm); (case a => k_mem); (case b => k_mem); (case d => with_reducible assumption); (case k => with_reducible assumption); (case u => units_room))))
local macro_rules | `(tactic| walk_at "call builtin:list.append") => `(tactic| (k_here; k_dflt (refine' append_L ?F ?N ?U ?z ?_; (case F => k_asm); (case N => k_asm); (case U => k_upd); (case z => walk_at "size")); intro h9 F9 N9))
section
local macro_rules | `(tactic| walk_at "inplaceOp Add ref") => `(tactic| (k_here; (with_reducible show wpAny _ _ (inplaceOp Operator.Add (Value.ref _) (Value.ref _)) _ _ _); k_dflt (refine' iadd_L ?F ?N ?b ?e ?U ?z ?_; (case F => k_asm); (case N => k_asm); (case b => k_mem); (case U => k_upd); (case e => (simp only [List.length_replicate]; omega)); (case z => (simp only [List.length_replicate]; omega))); intro h9 F9 N9))
local macro_rules | `(tactic| walk_at "binaryOp Mult ref int") => `(tactic| (k_here; (with_reducible show wpAny _ _ (binaryOp Operator.Mult (Value.ref _) (Value.int _ _)) _ _ _); k_dflt (refine' mul1_L ?F ?N ?l ?lo ?hi ?_; (case F => k_asm); (case N => k_asm); (case l => k_mem); (case lo => omega); (case hi => omega)); intro D' h' F' N' l1; (try k_lt l1)))
local macro_rules | `(tactic| walk_at "call type:list") => `(tactic| (k_here; (with_reducible show wpAny _ _ (call (Value.type _) [Value.ref _]) _ _ _); k_dflt (refine' copy_L ?F ?N ?b ?z ?_; (case F => k_asm); (case N => k_asm); (case b => k_mem); (case z => walk_at "size")); intro D' c' h' F' N' l1; (try k_lt l1)))
local macro_rules | `(tactic| walk_at "subscriptTail") => `(tactic| (k_here; (with_reducible show wpAny _ _ (subscriptTail _ _ (Value.ref _) (Value.int (-1) _)) _ _ _); k_dflt (refine' last_L ?N ?m ?z ?_ ?hs; (case N => k_asm); (case m => k_mem); (case z => (try simp only [List.length_cons, List.length_nil, List.length_append]); omega); (case hs => with_unfolding_all rfl))))
local macro_rules | `(tactic| walk_at "setItem ref int") => `(tactic| (k_here; (with_reducible show wpAny _ _ (setItem (Value.ref _) (Value.int (-1) _) _) _ _ _); k_dflt (refine' setlast_L ?F ?N ?U ?_; (case F => k_asm); (case N => k_asm); (case U => k_upd)); intro h9 F9 N9))
local macro_rules | `(tactic| walk_at "subscriptTail Name UnaryOp ref int") => `(tactic| (k_here; (with_reducible show wpAny _ _ (subscriptTail _ _ (Value.ref _) (Value.int (-1) _)) _ _ _); k_dflt (refine' last_L ?N ?m ?z ?_ ?hs; (case N => k_asm); (case m => k_mem); (case z => (try simp only [List.length_cons, List.length_nil, List.length_append]); omega); (case hs => with_unfolding_all rfl))))
section
abbrev slicesMap (R : Addr) (many : Int) (t : Tok) (fill : Value) : Str → Option Value := fun y => List.lookup y [(Str.ofString "fill", fill), (Str.ofString "many", .int many t), (Str.ofString "row", .ref R)]
theorem sliceStep (b i q r : Nat) : (b : Int) + ((q : Int) + if decide ((0 : Int) + (i : Int) * 1 < (r : Int)) = true then 1 else 0) = ((b + (q + if i < r then 1 else 0) : Nat) : Int) := by
  by_cases h : i < r
  · rw [if_pos h, if_pos (by simp; omega)]; omega
  · rw [if_neg h, if_neg (by simp; omega)]; omega
theorem mapSl (b c e u1 u2 u3 : Option Value) (f : Str → Option Value) :
    (fun y => if y = Str.ofString "begin" then b else if y = Str.ofString "size" then c else if y = Str.ofString "k" then e else if y = Str.ofString "k" then u1 else if y = Str.ofString "size" then u2 else if y = Str.ofString "begin" then u3 else f y) =
    fun y => if y = Str.ofString "k" then e else if y = Str.ofString "size" then c else if y = Str.ofString "begin" then b else f y := by
  funext y
  by_cases e1 : y = Str.ofString "k"
  · subst e1; rfl
  by_cases e2 : y = Str.ofString "size"
  · subst e2; rfl
  by_cases e3 : y = Str.ofString "begin"
  · subst e3; rfl
  simp only [e1, e2, e3, if_false]
theorem slices_K (w : World) (rest : List (Addr × Obj)) (R : Addr) (rvs : List Value) (n : Nat) (ds : List Dat) (many : Int) (t : Tok) (fill : Value) (fd : Dat) (hR : DatAll [] rvs ds) (hlen : ds.length ≤ 9) (hm0 : 1 ≤ many) (hm1 : many ≤ 5) (hRr : ∀ p ∈ rest, p.1 ≠ R)
    (hf : (fill = .none ∧ fd = .none) ∨ (∃ i t, fill = .int i t ∧ fd = .int i) ∨ (∃ x t, fill = .str x t ∧ fd = .str x)) :
    Says w 347 20 1200 [.ref R, .int many t, fill] ((R, listOf rvs.toArray n) :: rest) (fun news' v' => ∃ J vs k outs, v' = .ref J ∧ news' = (J, listOf vs.toArray k) :: outs ++ (R, listOf rvs.toArray n) :: rest ∧ Off1 J (outs ++ (R, listOf rvs.toArray n) :: rest) ∧ (∀ q ∈ outs, AllLt q.1 ((R, listOf rvs.toArray n) :: rest)) ∧ DatAll outs vs ((sliceD many.toNat fd ds).map .list)) := by
  intro p loose mean mg mb dp un gd cn cs a ccd cl outer A₀ base h₀ L m s Q E B F X N T hk hd hu hret
  revert X; k_fill; intro X
  refine wpAny_call ?_
  walk_at "enter"
  have hvl := hR.length
  k_steps
  rename_i g' L' hA FG B' X' T' f0 hB lt1 hC hD F0 N0 hE tkE t1 t2 t3 hr F1 N1 up
  obtain ⟨k, rfl⟩ : ∃ k : Nat, many = k := ⟨many.toNat, by omega⟩
  obtain ⟨n1, hnr, hn, hsm⟩ := range1_facts (r := (k : Nat)) (by omega) (by omega)
  obtain rfl : n1 = k := by omega
  obtain ⟨tb, F2⟩ : ∃ tb, Fr g' L' hE (fun y => if y = Str.ofString "begin" then some (.int ((0 : Nat) : Int) tb) else if y = Str.ofString "found" then some (.ref f0) else slicesMap R n1 t fill y) := ⟨_, F1⟩
  clear F1 F0 N0
  refine SrcF.range (J := fun i m₁ nw => ∃ uk us b tb ys kk outs, m₁ = (fun y => if y = Str.ofString "k" then uk else if y = Str.ofString "size" then us else if y = Str.ofString "begin" then some (.int ((b : Nat) : Int) tb) else if y = Str.ofString "found" then some (.ref f0) else slicesMap R n1 t fill y) ∧ nw = (f0, listOf (List.toArray ys) kk) :: (outs ++ (R, listOf rvs.toArray n) :: rest) ∧ Off1 f0 outs ∧ (∀ q ∈ outs, AllLt q.1 ((R, listOf rvs.toArray n) :: rest)) ∧ b = min i (ds.length % n1) + i * (ds.length / n1) ∧ DatAll outs ys ((List.range i).map fun j => .list (sliceAt n1 fd ds j))) rfl F2 N1 hr hsm hn ⟨none, none, 0, tb, [], 0, [], ?_, rfl, trivial, (fun _ h => nomatch h), by omega, .nil⟩ ?_ ?_
  · funext y
    by_cases e1 : y = Str.ofString "k"
    · subst e1; rfl
    by_cases e2 : y = Str.ofString "size"
    · subst e2; rfl
    rw [if_neg e1, if_neg e2]
  · intro g i v I oI h tk m₁ nw hi hP hJ F3 N3 off
    obtain ⟨vt, rfl⟩ := hP
    obtain ⟨uk, us, b, tb, ys, kk, outs, rfl, rfl, of0, hol, hb, hys⟩ := hJ
    clear hr hn hsm
    have hvl9 : rvs.length ≤ 9 := by omega
    have hyl : ys.length = i := by simpa using hys.length
    have oT : ∀ p ∈ outs ++ (R, listOf rvs.toArray n) :: rest, p.1 ≠ f0 := fun p hp => by
      rcases List.mem_append.mp hp with hp | hp
      · exact off1_ne of0 p hp
      · rcases List.mem_cons.mp hp with rfl | hp
        · exact Nat.ne_of_lt lt1.1
        · exact allLt_ne lt1.2 p hp
    have ofI : @Ne Nat f0 I := off (f0, _) (.head _)
    have oI' : ∀ p ∈ outs ++ (R, listOf rvs.toArray n) :: rest, p.1 ≠ I := fun p hp => off p (.tail _ hp)
    have hRm : (R, listOf rvs.toArray n) ∈ outs ++ (R, listOf rvs.toArray n) :: rest := List.mem_append.mpr (.inr (.head _))
    have hq : Int.fdiv (rvs.length : Nat) (n1 : Nat) = ((ds.length / n1 : Nat) : Int) := by rw [hvl, Int.fdiv_eq_ediv_of_nonneg _ (by omega), Int.natCast_ediv]
    have hr2 : Int.fmod (rvs.length : Nat) (n1 : Nat) = ((ds.length % n1 : Nat) : Int) := by rw [hvl, Int.fmod_eq_emod_of_nonneg _ (by omega), Int.natCast_emod]
    have hb' : b + (ds.length / n1 + if i < ds.length % n1 then 1 else 0) = min (i + 1) (ds.length % n1) + (i + 1) * (ds.length / n1) := by
      rw [Nat.succ_mul, hb]
      generalize ds.length / n1 = q
      generalize ds.length % n1 = r
      split <;> omega
    generalize htl : outs ++ (R, listOf rvs.toArray n) :: rest = tl at F3 N3 oT oI' hRm off
    rcases hf with ⟨rfl, rfl⟩ | ⟨fi, ft, rfl, rfl⟩ | ⟨fx, ft, rfl, rfl⟩
    · k_steps
      rename_i D9 h9a z9 hz9 hzl9 ltA E0 hA2 ltB E1 hA3 ltC h9b hF F9 N9
      rw [hq, hr2, sliceStep] at hz9 F9
      subst htl
      have hz : z9 = (rvs.drop b).take (ds.length / n1 + if i < ds.length % n1 then 1 else 0) := by
        generalize (ds.length / n1 + if i < ds.length % n1 then 1 else 0) = xx at hz9
        rw [hz9, pick_run rvs (by omega) (by omega), show ((b + xx : Nat) : Int).toNat - ((b : Nat) : Int).toNat = xx by omega]
        rfl
      have hzd : DatAll [] z9 ((ds.drop b).take (ds.length / n1 + if i < ds.length % n1 then 1 else 0)) := by
        rw [hz]; exact datTake (datDrop hR _) _
      refine TurnF.intro ((f0, listOf (ys ++ [Value.ref E1]).toArray (kk + 1)) :: ((E1, listOf (z9 ++ []).toArray 0) :: outs ++ (R, listOf rvs.toArray n) :: rest)) F9 N9 (subCons (by k_mem) (subCons (by k_mem) (subCons (by k_mem) fun p hp => .tail _ (.tail _ (.tail _ (.tail _ (.tail _ hp))))))) ?_ ⟨_, _, _, _, ys ++ [Value.ref E1], kk + 1, (E1, listOf (z9 ++ []).toArray 0) :: outs, mapSl _ _ _ _ _ _ _, rfl, ⟨Nat.ne_of_gt ltC.2.2.2.1, of0⟩, List.forall_mem_cons.mpr ⟨(allLt_app.mp ltC.2.2.2.2).2, hol⟩, hb', ?_⟩
      · exact List.forall_mem_cons.mpr ⟨ofI, List.forall_mem_cons.mpr ⟨Nat.ne_of_gt ltC.2.2.1, oI'⟩⟩
      · rw [List.range_succ, List.map_append]
        refine (hys.mono fun p hp => .tail _ hp).append (.one (.list (.head _) ?_))
        rw [sliceAt, ← hb]
        rw [List.append_nil]; exact hzd.mono subNil
    · k_steps
      · rename_i D9 h9a z9 hz9 hzl9 ltA hcmp E0 hA2 ltB E1 hA3 ltC h9b hF F9 N9
        rw [hq, hr2, sliceStep] at hz9 F9
        rw [hr2] at hcmp
        subst htl
        have hz : z9 = (rvs.drop b).take (ds.length / n1 + if i < ds.length % n1 then 1 else 0) := by
          generalize (ds.length / n1 + if i < ds.length % n1 then 1 else 0) = xx at hz9
          rw [hz9, pick_run rvs (by omega) (by omega), show ((b + xx : Nat) : Int).toNat - ((b : Nat) : Int).toNat = xx by omega]
          rfl
        have hzd : DatAll [] z9 ((ds.drop b).take (ds.length / n1 + if i < ds.length % n1 then 1 else 0)) := by
          rw [hz]; exact datTake (datDrop hR _) _
        refine TurnF.intro ((f0, listOf (ys ++ [Value.ref E1]).toArray (kk + 1)) :: ((E1, listOf (z9 ++ [Value.int fi ft]).toArray 0) :: outs ++ (R, listOf rvs.toArray n) :: rest)) F9 N9 (subCons (by k_mem) (subCons (by k_mem) (subCons (by k_mem) fun p hp => .tail _ (.tail _ (.tail _ (.tail _ (.tail _ hp))))))) ?_ ⟨_, _, _, _, ys ++ [Value.ref E1], kk + 1, (E1, listOf (z9 ++ [Value.int fi ft]).toArray 0) :: outs, mapSl _ _ _ _ _ _ _, rfl, ⟨Nat.ne_of_gt ltC.2.2.2.1, of0⟩, List.forall_mem_cons.mpr ⟨(allLt_app.mp ltC.2.2.2.2).2, hol⟩, hb', ?_⟩
        · exact List.forall_mem_cons.mpr ⟨ofI, List.forall_mem_cons.mpr ⟨Nat.ne_of_gt ltC.2.2.1, oI'⟩⟩
        · rw [List.range_succ, List.map_append]
          refine (hys.mono fun p hp => .tail _ hp).append (.one (.list (.head _) ?_))
          rw [sliceAt, ← hb]
          rw [padD_int, if_pos (by simp; omega)]; exact (hzd.append (.one (by constructor))).mono subNil
      · rename_i D9 h9a z9 hz9 hzl9 ltA hcmp E0 hA2 ltB E1 hA3 ltC h9b hF F9 N9
        rw [hq, hr2, sliceStep] at hz9 F9
        rw [hr2] at hcmp
        subst htl
        have hz : z9 = (rvs.drop b).take (ds.length / n1 + if i < ds.length % n1 then 1 else 0) := by
          generalize (ds.length / n1 + if i < ds.length % n1 then 1 else 0) = xx at hz9
          rw [hz9, pick_run rvs (by omega) (by omega), show ((b + xx : Nat) : Int).toNat - ((b : Nat) : Int).toNat = xx by omega]
          rfl
        have hzd : DatAll [] z9 ((ds.drop b).take (ds.length / n1 + if i < ds.length % n1 then 1 else 0)) := by
          rw [hz]; exact datTake (datDrop hR _) _
        refine TurnF.intro ((f0, listOf (ys ++ [Value.ref E1]).toArray (kk + 1)) :: ((E1, listOf (z9 ++ []).toArray 0) :: outs ++ (R, listOf rvs.toArray n) :: rest)) F9 N9 (subCons (by k_mem) (subCons (by k_mem) (subCons (by k_mem) fun p hp => .tail _ (.tail _ (.tail _ (.tail _ (.tail _ hp))))))) ?_ ⟨_, _, _, _, ys ++ [Value.ref E1], kk + 1, (E1, listOf (z9 ++ []).toArray 0) :: outs, mapSl _ _ _ _ _ _ _, rfl, ⟨Nat.ne_of_gt ltC.2.2.2.1, of0⟩, List.forall_mem_cons.mpr ⟨(allLt_app.mp ltC.2.2.2.2).2, hol⟩, hb', ?_⟩
        · exact List.forall_mem_cons.mpr ⟨ofI, List.forall_mem_cons.mpr ⟨Nat.ne_of_gt ltC.2.2.1, oI'⟩⟩
        · rw [List.range_succ, List.map_append]
          refine (hys.mono fun p hp => .tail _ hp).append (.one (.list (.head _) ?_))
          rw [sliceAt, ← hb]
          rw [List.append_nil, padD_int, if_neg (by simp; omega)]; exact hzd.mono subNil
    · k_steps
      · rename_i D9 h9a z9 hz9 hzl9 ltA hcmp E0 hA2 ltB E1 hA3 ltC h9b hF F9 N9
        rw [hq, hr2, sliceStep] at hz9 F9
        rw [hr2] at hcmp
        subst htl
        have hz : z9 = (rvs.drop b).take (ds.length / n1 + if i < ds.length % n1 then 1 else 0) := by
          generalize (ds.length / n1 + if i < ds.length % n1 then 1 else 0) = xx at hz9
          rw [hz9, pick_run rvs (by omega) (by omega), show ((b + xx : Nat) : Int).toNat - ((b : Nat) : Int).toNat = xx by omega]
          rfl
        have hzd : DatAll [] z9 ((ds.drop b).take (ds.length / n1 + if i < ds.length % n1 then 1 else 0)) := by
          rw [hz]; exact datTake (datDrop hR _) _
        refine TurnF.intro ((f0, listOf (ys ++ [Value.ref E1]).toArray (kk + 1)) :: ((E1, listOf (z9 ++ [Value.str fx ft]).toArray 0) :: outs ++ (R, listOf rvs.toArray n) :: rest)) F9 N9 (subCons (by k_mem) (subCons (by k_mem) (subCons (by k_mem) fun p hp => .tail _ (.tail _ (.tail _ (.tail _ (.tail _ hp))))))) ?_ ⟨_, _, _, _, ys ++ [Value.ref E1], kk + 1, (E1, listOf (z9 ++ [Value.str fx ft]).toArray 0) :: outs, mapSl _ _ _ _ _ _ _, rfl, ⟨Nat.ne_of_gt ltC.2.2.2.1, of0⟩, List.forall_mem_cons.mpr ⟨(allLt_app.mp ltC.2.2.2.2).2, hol⟩, hb', ?_⟩
        · exact List.forall_mem_cons.mpr ⟨ofI, List.forall_mem_cons.mpr ⟨Nat.ne_of_gt ltC.2.2.1, oI'⟩⟩
        · rw [List.range_succ, List.map_append]
          refine (hys.mono fun p hp => .tail _ hp).append (.one (.list (.head _) ?_))
          rw [sliceAt, ← hb]
          rw [padD_str, if_pos (by simp; omega)]; exact (hzd.append (.one (by constructor))).mono subNil
      · rename_i D9 h9a z9 hz9 hzl9 ltA hcmp E0 hA2 ltB E1 hA3 ltC h9b hF F9 N9
        rw [hq, hr2, sliceStep] at hz9 F9
        rw [hr2] at hcmp
        subst htl
        have hz : z9 = (rvs.drop b).take (ds.length / n1 + if i < ds.length % n1 then 1 else 0) := by
          generalize (ds.length / n1 + if i < ds.length % n1 then 1 else 0) = xx at hz9
          rw [hz9, pick_run rvs (by omega) (by omega), show ((b + xx : Nat) : Int).toNat - ((b : Nat) : Int).toNat = xx by omega]
          rfl
        have hzd : DatAll [] z9 ((ds.drop b).take (ds.length / n1 + if i < ds.length % n1 then 1 else 0)) := by
          rw [hz]; exact datTake (datDrop hR _) _
        refine TurnF.intro ((f0, listOf (ys ++ [Value.ref E1]).toArray (kk + 1)) :: ((E1, listOf (z9 ++ []).toArray 0) :: outs ++ (R, listOf rvs.toArray n) :: rest)) F9 N9 (subCons (by k_mem) (subCons (by k_mem) (subCons (by k_mem) fun p hp => .tail _ (.tail _ (.tail _ (.tail _ (.tail _ hp))))))) ?_ ⟨_, _, _, _, ys ++ [Value.ref E1], kk + 1, (E1, listOf (z9 ++ []).toArray 0) :: outs, mapSl _ _ _ _ _ _ _, rfl, ⟨Nat.ne_of_gt ltC.2.2.2.1, of0⟩, List.forall_mem_cons.mpr ⟨(allLt_app.mp ltC.2.2.2.2).2, hol⟩, hb', ?_⟩
        · exact List.forall_mem_cons.mpr ⟨ofI, List.forall_mem_cons.mpr ⟨Nat.ne_of_gt ltC.2.2.1, oI'⟩⟩
        · rw [List.range_succ, List.map_append]
          refine (hys.mono fun p hp => .tail _ hp).append (.one (.list (.head _) ?_))
          rw [sliceAt, ← hb]
          rw [List.append_nil, padD_str, if_neg (by simp; omega)]; exact hzd.mono subNil
  · intro m₁ nw h tk F3 N3 hJ
    obtain ⟨uk, us, b, tb, ys, kk, outs, rfl, rfl, of0, hol, hb, hys⟩ := hJ
    clear hr hn hsm
    k_steps
    rename_i kF kN kT kX
    refine hret _ ((f0, listOf ys.toArray kk) :: outs ++ (R, listOf rvs.toArray n) :: rest) _ _ ⟨f0, ys, kk, outs, rfl, rfl, off1_of fun p hp => ?_, hol, ?_⟩ kF kN
    · rcases List.mem_append.mp hp with hp | hp
      · exact off1_ne of0 p hp
      · rcases List.mem_cons.mp hp with rfl | hp
        · exact Nat.ne_of_lt lt1.1
        · exact allLt_ne lt1.2 p hp
    · rw [show ((n1 : Int)).toNat = n1 by omega, sliceD, List.map_map]
      exact hys
end
end
end
section
local macro_rules | `(tactic| walk_at "call ref") => `(tactic| (k_here; (with_reducible show wpAny _ _ (call (Value.ref 328) _ _) _ _ _); k_dflt (refine' kind_use ?B ?F ?X ?N ?T ?hk ?hd ?hu ?hv ?hk2 ?hl ?_; (case B => k_asm); (case F => k_asm); (case X => k_asm); (case N => k_asm); (case T => k_asm); (case hk => first | exact rfl | assumption); (case hd => walk_at "room"); (case hu => (have hcL9 := cLine_is; walk_at "room")); (case hv => with_reducible assumption); (case hk2 => with_reducible assumption); (case hl => with_reducible assumption)); intro v9 h9 tk9 hv9 hk9 F9 N9))
local macro_rules | `(tactic| walk_at "compareOp LtE") => `(tactic| (k_here; refine' le_D ?a ?b ?c ?d ?_; (case a => with_reducible assumption); (case b => with_reducible assumption); (case c => with_reducible assumption); (case d => with_reducible assumption)))
local macro_rules | `(tactic| walk_at "compareOp Eq") => `(tactic| (k_here; refine' eq_D ?a ?b ?c ?d ?_; (case a => with_reducible assumption); (case b => with_reducible assumption); (case c => with_reducible assumption); (case d => with_reducible assumption)))
section
local macro_rules | `(tactic| walk_at "compareOp Eq ref ref") => `(tactic| (k_here; k_dflt (refine' eq_nil ?N ?a ?b ?d ?k ?u ?_; (case N => k_asm); (case a => k_mem); (case b => k_mem); (case d => with_reducible assumption); (case k => with_reducible assumption); (case u => units_room))))
local macro_rules | `(tactic| walk_at "call builtin:list.append") => `(tactic| (k_here; k_dflt (refine' append_L ?F ?N ?U ?z ?_; (case F => k_asm); (case N => k_asm); (case U => k_upd); (case z => walk_at "size")); intro h9 F9 N9))
section
local macro_rules | `(tactic| k_all) => `(tactic| (tbn_letter; refine' allSub ?ah ?as; (case ah => with_reducible assumption); (case as => k_sub)))
local macro_rules | `(tactic| walk_at "call ref") => `(tactic| (k_here; (first | (with_reducible show wpAny _ _ (call (Value.ref 352) _ _) _ _ _) | (with_reducible show wpAny _ _ (call (Value.ref 357) _ _) _ _ _)); k_dflt (first
  | (refine' sorted_use ?B ?F ?X ?N ?T ?hk ?hd ?hu ?pk ?hR ?ok ?hRr ?_; (case B => k_asm); (case F => k_asm); (case X => k_asm); (case N => k_asm); (case T => k_asm); (case hk => first | exact rfl | assumption); (case pk => walk_at "pick"); (case hR => with_reducible assumption); (case ok => with_reducible assumption); (case hRr => k_all); (case hd => walk_at "room"); (case hu => (have hcL9 := cLine_is; walk_at "room")))
  | (refine' first_use ?B ?F ?X ?N ?T ?hk ?hd ?hu ?pk ?hR ?ok ?hRr ?_; (case B => k_asm); (case F => k_asm); (case X => k_asm); (case N => k_asm); (case T => k_asm); (case hk => first | exact rfl | assumption); (case pk => walk_at "pick"); (case hR => with_reducible assumption); (case ok => with_reducible assumption); (case hRr => k_all); (case hd => walk_at "room"); (case hu => (have hcL9 := cLine_is; walk_at "room")))); intro J9 vs9 k9 h9 tk9 hD9 ok9 hne9 F9 N9; (have hn9 := gnNe_of hne9); (simp only [GnNe] at hn9)))
section
local macro_rules | `(tactic| walk_at "inplaceOp Add ref") => `(tactic| (k_here; (with_reducible show wpAny _ _ (inplaceOp Operator.Add (Value.ref _) (Value.ref _)) _ _ _); k_dflt (refine' iadd_L ?F ?N ?b ?e ?U ?z ?_; (case F => k_asm); (case N => k_asm); (case b => k_mem); (case U => k_upd); (case e => (simp only [List.length_replicate]; omega)); (case z => (simp only [List.length_replicate]; omega))); intro h9 F9 N9))
local macro_rules | `(tactic| walk_at "binaryOp Mult ref int") => `(tactic| (k_here; (with_reducible show wpAny _ _ (binaryOp Operator.Mult (Value.ref _) (Value.int _ _)) _ _ _); k_dflt (refine' mul1_L ?F ?N ?l ?lo ?hi ?_; (case F => k_asm); (case N => k_asm); (case l => k_mem); (case lo => omega); (case hi => omega)); intro D' h' F' N' l1; (try k_lt l1)))
local macro_rules | `(tactic| walk_at "call type:list") => `(tactic| (k_here; (with_reducible show wpAny _ _ (call (Value.type _) [Value.ref _]) _ _ _); k_dflt (refine' copy_L ?F ?N ?b ?z ?_; (case F => k_asm); (case N => k_asm); (case b => k_mem); (case z => walk_at "size")); intro D' c' h' F' N' l1; (try k_lt l1)))
local macro_rules | `(tactic| walk_at "subscriptTail") => `(tactic| (k_here; (with_reducible show wpAny _ _ (subscriptTail _ _ (Value.ref _) (Value.int (-1) _)) _ _ _); k_dflt (refine' last_L ?N ?m ?z ?_ ?hs; (case N => k_asm); (case m => k_mem); (case z => (try simp only [List.length_cons, List.length_nil, List.length_append]); omega); (case hs => with_unfolding_all rfl))))
local macro_rules | `(tactic| walk_at "setItem ref int") => `(tactic| (k_here; (with_reducible show wpAny _ _ (setItem (Value.ref _) (Value.int (-1) _) _) _ _ _); k_dflt (refine' setlast_L ?F ?N ?U ?_; (case F => k_asm); (case N => k_asm); (case U => k_upd)); intro h9 F9 N9))
local macro_rules | `(tactic| walk_at "subscriptTail Name UnaryOp ref int") => `(tactic| (k_here; (with_reducible show wpAny _ _ (subscriptTail _ _ (Value.ref _) (Value.int (-1) _)) _ _ _); k_dflt (refine' last_L ?N ?m ?z ?_ ?hs; (case N => k_asm); (case m => k_mem); (case z => (try simp only [List.length_cons, List.length_nil, List.length_append]); omega); (case hs => with_unfolding_all rfl))))
section
local macro_rules | `(tactic| walk_at "call ref") => `(tactic| (k_here; (with_reducible show wpAny _ _ (call (Value.ref 241) _ _) _ _ _); k_dflt (refine' prep_use ?B ?F ?X ?N ?T ?hk ?hd ?hu ?_; (case B => k_asm); (case F => k_asm); (case X => k_asm); (case N => k_asm); (case T => k_asm); (case hk => first | exact rfl | assumption); (case hd => walk_at "room"); (case hu => (have hcL9 := cLine_is; walk_at "room"))); intro P9 h9 tk9 l9 F9 N9; (simp only [AllLt] at l9)))
local macro_rules | `(tactic| walk_at "enter_nest") => `(tactic| k_dflt (refine' code_nest ?k1 ?k2 ?k3 ?k4 ?k5 ?kA ?kF ?kK ?k6 ?k7 ?k8 ?k9 ?kB ?_ ?c2 ?c3 ?c4 ?c5; (case kA => exact rfl); (case kF => exact rfl); (case kK => first | assumption | exact rfl); (case k1 => k_asm); (case k2 => k_asm); (case k3 => k_asm); (case k4 => k_asm); (case k5 => k_asm); (case k6 => k_mem); (case k7 => exact codeRec_news (by k_asm) (by k_mem) (by assumption) (by assumption)); (case k8 => first | walk_at "room" | ktr_room); (case k9 => exact BindsTo.of_eq rfl); (case c5 => decide); (case kB => exact locs rfl); (case c2 => exact rfl); (case c3 => exact rfl); (case c4 => exact rfl); k_whole; intro g' L' h' FG' F' N' B' X' T'; (try dsimp only); (try k_lift B'); (try k_fold)))
section
def dfl (k : Bool) : Dat := if k then .str (Str.ofString "") else .int 0
theorem kb_getD {k : Bool} {ds : List Dat} (h : ∀ d ∈ ds, KB k d) (i : Nat) : KB k (ds.getD i (dfl k)) := by
  by_cases hi : i < ds.length
  · have e : ds.getD i (dfl k) = ds[i] := by simp [hi]
    rw [e]; exact h _ (by simp)
  · have e : ds.getD i (dfl k) = dfl k := by simp [Nat.le_of_not_lt hi]
    rw [e]; cases k
    · exact .int 0
    · exact .str _
theorem dat_getD {vs : List Value} {ds : List Dat} (h : DatAll [] vs ds) {i : Nat} {v : Value} (hv : vs[i]? = some v) (d0 : Dat) : DatIn [] v (ds.getD i d0) ∧ ds.getD i d0 ∈ ds := by
  obtain ⟨d, h1, h2⟩ := datAt h hv
  have e : ds.getD i d0 = d := by rw [List.getD_eq_getElem?_getD, h1]; rfl
  rw [e]
  exact ⟨h2, List.mem_of_getElem? h1⟩
/-- the keys made: one list each, of the item's kind -/
def KL (b kb : Bool) (ds : List Dat) (i : Nat) (keys : List Value) (made : List (Addr × Obj)) : Prop :=
  keys.length = i ∧ ∀ j, j < i → ∃ J v2 n, keys[j]? = some (.ref J) ∧ (J, listOf #[v2] n) ∈ made ∧ DatIn [] v2 (kindD b (ds.getD j (dfl kb)))
section
variable {w : World} {p : Program} {loose : List Str} {mean : ExcName → Option Value} {mg mb : Str → Option Value}
    {dp un : Nat} {gd : Option (List Code)} {cn : Str} {cs : Scope} {a : Addr} {ccd : Value} {cl : List (Str × Addr)} {outer : List Env} {A₀ : Around} {base h₀ : Heap} {L : Addr} {m : Str → Option Value} {s : Shared} {Q E : Value → Shared → Prop}
theorem keyOk_L {f : Addr} {own news : List (Addr × Obj)} {b kb : Bool} {vs : List Value} {ds : List Dat} (G : GetterL w f own b) (hsub : ∀ p ∈ own, p ∈ news)
    (B : Below A₀ base outer h₀) (X : (hd1.heap_39 w.params).In h₀) (T : Top p loose mean mg mb h₀) (hk : cs.kind = .function) (hd : dp + 20 < recursionLimit) (hu : un + 2000 < cLine)
    (hrs : DatAll [] vs ds) (ok : RowOk b kb ds) :
    KeyOk PySem.Challenge.rw_bb0048_01.row.prog w (ktrTop dp un gd cn cs L a ccd cl outer).in1.in1 h₀ L m news s (.ref f) vs (fun i j => ltD (kindD b (ds.getD i (dfl kb))) (kindD b (ds.getD j (dfl kb)))) (.type "list") (KL b kb ds) where
  weak := ltD_weak fun i => (kb_getD ok.1 i).kind b
  none := ⟨rfl, fun j h => absurd h (Nat.not_lt_zero _)⟩
  turn := by
    intro i v h tk made keys own' hv hkl hK hmd F N
    obtain ⟨hvd, hmem⟩ := dat_getD hrs hv (dfl kb)
    refine G.2 (made ++ (news ++ own')) v _ kb (fun p hp => List.mem_append_right _ (List.mem_append_left _ (hsub p hp))) hvd (ok.1 _ hmem) (fun hb => ok.2.1 _ hmem hb) p loose mean mg mb dp (un + 1 + 1) gd cn cs a ccd cl outer A₀ base h₀ L m { s with heap := h, toks := tk } _ _ B F X N T hk (by omega) (by omega) ?_
    rintro v' news' h' tk' ⟨J, v2, n, rfl, rfl, hJ, hv2⟩ F' N'
    refine ⟨h', tk', (J, listOf #[v2] n) :: made, rfl, F', N', fun p hp q hq => ?_, by rw [List.length_append, List.length_singleton, hkl], fun j hj => ?_⟩
    · rcases List.mem_cons.mp hp with rfl | hp
      · exact Nat.ne_of_gt (ktn_ltOf hJ q (List.mem_append_right _ (List.mem_append_right _ hq)))
      · exact hmd p hp q hq
    · rcases Nat.lt_or_ge j i with hj' | hj'
      · obtain ⟨J', v2', n', e, hm, hd'⟩ := hK.2 j hj'
        refine ⟨J', v2', n', ?_, .tail _ hm, hd'⟩
        rw [List.getElem?_append_left (by omega)]; exact e
      · obtain rfl : j = i := by omega
        refine ⟨J, v2, n, ?_, .head _, hv2⟩
        rw [List.getElem?_append_right (by omega), hkl, Nat.sub_self]; rfl
  kind := by
    intro keys made h own' hK N k hk'
    obtain ⟨j, hj, rfl⟩ := List.getElem_of_mem hk'
    obtain ⟨J, v2, n, e, hm, _⟩ := hK.2 j (by rw [← hK.1]; exact hj)
    have e' : keys[j] = .ref J := by rw [List.getElem?_eq_getElem hj] at e; exact Option.some.inj e
    rw [e']
    have z := (N _ (List.mem_append_left _ hm)).1
    exact (Looks.ld (part := none) z).andThen .now
  less := by
    intro keys made own' i j h tk C hkl hK hi hj F N hC
    obtain ⟨J1, x, n1, e1, hm1, hx⟩ := hK.2 i hi
    obtain ⟨J2, y, n2, e2, hm2, hy⟩ := hK.2 j hj
    have g1 : keys.getD i Value.none = .ref J1 := by rw [List.getD_eq_getElem?_getD, e1]; rfl
    have g2 : keys.getD j Value.none = .ref J2 := by rw [List.getD_eq_getElem?_getD, e2]; rfl
    rw [g1, g2]
    have k1 := (kb_getD ok.1 i).kind b
    have k2 := (kb_getD ok.1 j).kind b
    refine keyLt_list (s := { s with heap := h, toks := tk }) (by show un + 1 + 1 + 10 < cLine; omega) (N _ (List.mem_append_left _ hm1)).1 (N _ (List.mem_append_left _ hm2)).1 (eqAt_D hx hy k1 k2) (ltAt_D hx hy k1 k2) ?_
    rw [eq_lt k1 k2]
    exact hC h tk F N
theorem sortedL_use {f R : Addr} {own news : List (Addr × Obj)} {b kb turned : Bool} {rvs : List Value} {n : Nat} {ds : List Dat} (G : GetterL w f own b) (hsub : ∀ p ∈ own, p ∈ news)
    (B : Below A₀ base outer h₀) (F : Fr h₀ L s.heap m) (X : (hd1.heap_39 w.params).In h₀) (N : News h₀ L s.heap news) (T : Top p loose mean mg mb h₀) (hk : cs.kind = .function) (hd : dp + 20 < recursionLimit) (hu : un + 2000 < cLine)
    (hm : (R, listOf rvs.toArray n) ∈ news) (hrs : DatAll [] rvs ds) (ok : RowOk b kb ds)
    (ret : ∀ J out k h' tk', DatAll [] out (outG turned (kindD b) ds) → AllLt J news → Fr h₀ L h' m → News h₀ L h' ((J, listOf (List.toArray out) k) :: news) → Q (.ref J) { s with heap := h', toks := tk' }) :
    wpAny (model PySem.Challenge.rw_bb0048_01.row.prog w) (ktrTop dp un gd cn cs L a ccd cl outer) (call (.builtin "sorted") [.ref R] [(Str.ofString "key", .ref f), (Str.ofString "reverse", .bool turned)]) Q E s := by
  have hlen := hrs.length
  have h20 := ok.2.2.2
  refine ksg_sorted F N (memList N hm) (by omega) (ksk_s2 _ _ _) (fun x => ksk_l2 _ _ _) (fun x => ksk_t2 f x turned) (keyOk_L G hsub B X T hk hd hu hrs ok) rfl rfl ?_
  intro D h' tk out c F' N' l1 so
  exact ret D out c h' tk (sortOut_dat hrs (fun i => (kb_getD ok.1 i).kind b) so) (allLt_of l1) F' N'
local macro_rules | `(tactic| walk_at "call ref") => `(tactic| ((with_reducible show wpAny _ _ (call (Value.ref 236) _ _) _ _ _); refine Hold.out ?_))
local macro_rules | `(tactic| walk_at "call builtin:sorted") => `(tactic| refine Hold.out ?_)
theorem dosort_use {R : Addr} {rest : List (Addr × Obj)} {b kb turned : Bool} {rvs : List Value} {n : Nat} {ds : List Dat}
    (B : Below A₀ base outer h₀) (F : Fr h₀ L s.heap m) (X : (hd1.heap_39 w.params).In h₀) (N : News h₀ L s.heap ((233, tabObj #[]) :: rest)) (T : Top p loose mean mg mb h₀) (hk : cs.kind = .function) (hd : dp + 40 < recursionLimit) (hu : un + 3000 < cLine) (C : CodeHd h₀ 235 233)
    (hm : (R, listOf rvs.toArray n) ∈ rest) (hrs : DatAll [] rvs ds) (ok : RowOk b kb ds) (hr : ∀ p ∈ rest, p.1 ≠ 233)
    (ret : ∀ J out k ps h' tk', DatAll [] out (outG turned (kindD b) ds) → AllLt J ((233, tabObj ps) :: rest) → Fr h₀ L h' m → News h₀ L h' ((J, listOf (List.toArray out) k) :: (233, tabObj ps) :: rest) → Q (.ref J) { s with heap := h', toks := tk' }) :
    wpAny (model PySem.Challenge.rw_bb0048_01.row.prog w) (ktrTop dp un gd cn cs L a ccd cl outer) (call (.ref 257) [.none, .ref R, .bool turned, .bool b]) Q E s := by
  have X₀ := X
  revert X; k_fill; intro X
  refine wpAny_call ?_
  walk_at "enter"
  rename_i g' L' hA FG F0 N0 B' X' T'
  have C' := CodeHd.keeps C FG.keep
  cases b
  · k_steps
    refine ⟨?_⟩
    refine multi_new (pv := .ref 222) (.inr ⟨rfl, rfl⟩) B' F0 X' N0 T' rfl (by walk_at "room") (by have hcL9 := cLine_is; walk_at "room") C' hr ?_
    intro f own ps h1 tk1 hG F1 N1
    clear F0 N0
    k_steps
    rename_i h2 F2 N2
    refine ⟨?_⟩
    refine sortedL_use hG subAppL B' F2 X' N2 T' rfl (by walk_at "room") (by have hcL9 := cLine_is; walk_at "room") (List.mem_append_right _ (.tail _ hm)) hrs ok ?_
    intro J out k h3 tk3 hout lJ F3 N3
    k_steps
    rename_i kF kN kT kX
    exact ret J out k ps _ _ hout (allLt_app.mp lJ).2 kF (cb_drop kN (subCons (.head _) fun p hp => .tail _ (List.mem_append_right _ hp)))
  · k_steps
    refine ⟨?_⟩
    refine multi_new (pv := .none) (.inl ⟨rfl, rfl⟩) B' F0 X' N0 T' rfl (by walk_at "room") (by have hcL9 := cLine_is; walk_at "room") C' hr ?_
    intro f own ps h1 tk1 hG F1 N1
    clear F0 N0
    k_steps
    rename_i h2 F2 N2
    refine ⟨?_⟩
    refine sortedL_use hG subAppL B' F2 X' N2 T' rfl (by walk_at "room") (by have hcL9 := cLine_is; walk_at "room") (List.mem_append_right _ (.tail _ hm)) hrs ok ?_
    intro J out k h3 tk3 hout lJ F3 N3
    k_steps
    rename_i kF kN kT kX
    exact ret J out k ps _ _ hout (allLt_app.mp lJ).2 kF (cb_drop kN (subCons (.head _) fun p hp => .tail _ (List.mem_append_right _ hp)))
end
end
section
local macro_rules | `(tactic| walk_at "call ref") => `(tactic| (k_here; k_dflt (refine' getter_use ?G ?B ?F ?X ?N ?T ?hk ?hd ?hu ?hs ?hv ?hk2 ?hl ?_; (case G => with_reducible assumption); (case B => k_asm); (case F => k_asm); (case X => k_asm); (case N => k_asm); (case T => k_asm); (case hk => first | exact rfl | assumption); (case hd => walk_at "room"); (case hu => (have hcL9 := cLine_is; walk_at "room")); (case hs => k_sub); (case hv => with_reducible assumption); (case hk2 => with_reducible assumption); (case hl => with_reducible assumption)); intro v9 h9 tk9 hv9 hk9 F9 N9))
local macro_rules | `(tactic| walk_at "callWith ref") => `(tactic| (k_here; k_dflt (refine' callWith_F ?k1 ?_; (case k1 => (refine' Getter.fn ?G ?N ?S; (case G => with_reducible assumption); (case N => k_asm); (case S => k_sub))); k_whole)))
local macro_rules | `(tactic| walk_at "FnAt") => `(tactic| (refine' Getter.fn ?G ?N ?S; (case G => with_reducible assumption); (case N => k_asm); (case S => k_sub)))
section
local macro_rules | `(tactic| walk_at "exec Assign cons ListComp") => `(tactic| (k_here; (with_reducible show wpAny _ _ (exec (PySem.Stmt.Assign [PySem.Expr.Name _ _] (PySem.Expr.ListComp _ [⟨PySem.Expr.Tuple [PySem.Expr.Name _ _, PySem.Expr.Name _ _] _ _, _, [], 0⟩] _ _) _) _) _ _ _); k_dflt (refine assignComp_JP (_F := by k_asm) (by rfl) (by rfl) (by with_unfolding_all rfl) (by with_unfolding_all rfl) (by decide) (by rfl) (by decide) (by rfl) (by rfl) (by decide) (by rfl) (by rfl) ?_)))
section
def KG (b kb : Bool) (ds : List Dat) (i : Nat) (keys : List Value) (made : List (Addr × Obj)) : Prop :=
  made = [] ∧ keys.length = i ∧ ∀ j, j < i → ∃ v, keys[j]? = some v ∧ DatIn [] v (kindD b (ds.getD j (dfl kb)))
theorem typeOf_D {M : Model} {h : Heap} {v : Value} {d : Dat} {k : Bool} (hv : DatIn [] v d) (hk : KB k d) : Looks M h (typeOf v) (.type (if k then "str" else "int")) := by
  cases hk <;> cases hv <;> exact Looks.of_pure rfl
/-- an atom's value lies in no ledger -/
theorem datAtom {l : List (Addr × Obj)} {v : Value} {d : Dat} {k : Bool} (h : DatIn l v d) (hk : KB k d) : DatIn [] v d := by
  cases hk <;> cases h <;> constructor
theorem datAtoms {l : List (Addr × Obj)} {k : Bool} : ∀ {vs : List Value} {ds : List Dat}, DatAll l vs ds → (∀ d ∈ ds, KB k d) → DatAll [] vs ds
  | _, _, .nil, _ => .nil
  | _, _, .cons h r, hk => .cons (datAtom h (hk _ (.head _))) (datAtoms r fun d hd => hk d (.tail _ hd))
theorem grp_open {outs : List (Addr × Obj)} {v : Value} {q : Dat × List Dat} (h : DatIn outs v (grpT q)) : ∃ T v1 l k run kr, v = .ref T ∧ (T, tup2 v1 (.ref l) k) ∈ outs ∧ DatIn outs v1 q.1 ∧ (l, listOf run.toArray kr) ∈ outs ∧ DatAll outs run q.2 := by
  unfold grpT at h
  cases h with
  | tuple hm r =>
    rename_i vs n
    match vs, r, hm with
    | _, .cons h1 (.cons h2 .nil), hm =>
      cases h2 with
      | list hm2 h2 => exact ⟨_, _, _, _, _, _, rfl, hm, h1, hm2, h2⟩
/-- each group's parts are of one kind, no group is empty -/
def GrpOk (kb : Bool) (gs : List (Dat × List Dat)) : Prop := gs.length ≤ 20 ∧ ∀ q ∈ gs, KB kb q.1 ∧ (∀ d ∈ q.2, KB kb d) ∧ q.2 ≠ [] ∧ q.2.length ≤ 20
theorem grpStep_ok {b kb : Bool} {d : Dat} (hd : KB kb d) : ∀ {acc : List (Dat × List Dat) × Option (Dat × List Dat)} {i : Nat}, acc.1.length + acc.2.toList.length ≤ i → (∀ q ∈ acc.1 ++ acc.2.toList, KB kb q.1 ∧ (∀ d ∈ q.2, KB kb d) ∧ q.2 ≠ [] ∧ q.2.length ≤ i) →
    (grpStep b acc d).1.length + (grpStep b acc d).2.toList.length ≤ i + 1 ∧ (∀ q ∈ (grpStep b acc d).1 ++ (grpStep b acc d).2.toList, KB kb q.1 ∧ (∀ d ∈ q.2, KB kb d) ∧ q.2 ≠ [] ∧ q.2.length ≤ i + 1)
  | (gs, none), i, hl, h => by
    refine ⟨by simp [grpStep] at hl ⊢; omega, fun q hq => ?_⟩
    simp only [grpStep, Option.toList, List.mem_append, List.mem_singleton] at hq
    rcases hq with hq | rfl
    · have z := h q (List.mem_append_left _ hq); exact ⟨z.1, z.2.1, z.2.2.1, by omega⟩
    · exact ⟨hd.kind b, fun e he => by rw [List.mem_singleton.mp he]; exact hd, by simp, by simp⟩
  | (gs, some (m, r)), i, hl, h => by
    have hm := h (m, r) (List.mem_append_right _ (by simp))
    by_cases e : eqD m (kindD b d) = true
    · refine ⟨by simp [grpStep, e] at hl ⊢; omega, fun q hq => ?_⟩
      simp only [grpStep, e, if_true, Option.toList, List.mem_append, List.mem_singleton] at hq
      rcases hq with hq | rfl
      · have z := h q (List.mem_append_left _ hq); exact ⟨z.1, z.2.1, z.2.2.1, by omega⟩
      · refine ⟨hm.1, fun e he => ?_, by simp, by simp; exact hm.2.2.2⟩
        rcases List.mem_append.mp he with he | he
        · exact hm.2.1 e he
        · rw [List.mem_singleton.mp he]; exact hd
    · refine ⟨by simp [grpStep, e] at hl ⊢; omega, fun q hq => ?_⟩
      simp only [grpStep, if_neg e, Option.toList, List.mem_append, List.mem_singleton] at hq
      rcases hq with (hq | rfl) | rfl
      · have z := h q (List.mem_append_left _ hq); exact ⟨z.1, z.2.1, z.2.2.1, by omega⟩
      · exact ⟨hm.1, hm.2.1, hm.2.2.1, by omega⟩
      · exact ⟨hd.kind b, fun e he => by rw [List.mem_singleton.mp he]; exact hd, by simp, by simp⟩
theorem grpFold_ok {b kb : Bool} : ∀ {ds : List Dat} {acc : List (Dat × List Dat) × Option (Dat × List Dat)} {i : Nat}, (∀ d ∈ ds, KB kb d) → acc.1.length + acc.2.toList.length ≤ i → (∀ q ∈ acc.1 ++ acc.2.toList, KB kb q.1 ∧ (∀ d ∈ q.2, KB kb d) ∧ q.2 ≠ [] ∧ q.2.length ≤ i) →
    (ds.foldl (grpStep b) acc).1.length + (ds.foldl (grpStep b) acc).2.toList.length ≤ i + ds.length ∧ (∀ q ∈ (ds.foldl (grpStep b) acc).1 ++ (ds.foldl (grpStep b) acc).2.toList, KB kb q.1 ∧ (∀ d ∈ q.2, KB kb d) ∧ q.2 ≠ [] ∧ q.2.length ≤ i + ds.length)
  | [], acc, i, _, hl, h => ⟨hl, h⟩
  | d :: r, acc, i, hk, hl, h => by
    have z := grpStep_ok (b := b) (hk d (.head _)) hl h
    have z2 := grpFold_ok (b := b) (ds := r) (fun e he => hk e (.tail _ he)) z.1 z.2
    rw [List.foldl_cons, List.length_cons, show i + (r.length + 1) = i + 1 + r.length by omega]
    exact z2
theorem grpD_ok {b kb : Bool} {ds : List Dat} (hk : ∀ d ∈ ds, KB kb d) (hl : ds.length ≤ 20) : GrpOk kb (grpD b ds) := by
  have z := grpFold_ok (b := b) (acc := ([], none)) (i := 0) hk (by simp) (fun q hq => by simp at hq)
  refine ⟨?_, fun q hq => ?_⟩
  · unfold grpD; simp only [List.length_append]; omega
  · have z2 := z.2 q hq
    exact ⟨z2.1, z2.2.1, z2.2.2.1, by omega⟩
def grpH (q : Dat × List Dat) : Dat := .tuple [q.2.headD .none, .list q.2]
section
variable {w : World} {p : Program} {loose : List Str} {mean : ExcName → Option Value} {mg mb : Str → Option Value}
    {dp un : Nat} {gd : Option (List Code)} {cn : Str} {cs : Scope} {a : Addr} {ccd : Value} {cl : List (Str × Addr)} {outer : List Env} {A₀ : Around} {base h₀ : Heap} {L : Addr} {m : Str → Option Value} {s : Shared} {Q E : Value → Shared → Prop}
theorem keyOk_G {f : Addr} {own news : List (Addr × Obj)} {b kb : Bool} {vs : List Value} {ds : List Dat} (G : Getter w f own b) (hsub : ∀ p ∈ own, p ∈ news)
    (B : Below A₀ base outer h₀) (X : (hd1.heap_39 w.params).In h₀) (T : Top p loose mean mg mb h₀) (hk : cs.kind = .function) (hd : dp + 20 < recursionLimit) (hu : un + 2000 < cLine)
    (hrs : DatAll [] vs ds) (ok : RowOk b kb ds) :
    KeyOk PySem.Challenge.rw_bb0048_01.row.prog w (ktrTop dp un gd cn cs L a ccd cl outer).in1.in1 h₀ L m news s (.ref f) vs (fun i j => ltD (kindD b (ds.getD i (dfl kb))) (kindD b (ds.getD j (dfl kb)))) (.type (if kb then "str" else "int")) (KG b kb ds) where
  weak := ltD_weak fun i => (kb_getD ok.1 i).kind b
  none := ⟨rfl, rfl, fun j h => absurd h (Nat.not_lt_zero _)⟩
  turn := by
    intro i v h tk made keys own' hv hkl hK hmd F N
    obtain ⟨rfl, _, hK⟩ := hK
    obtain ⟨hvd, hmem⟩ := dat_getD hrs hv (dfl kb)
    refine G.2 (news ++ own') v _ kb (fun p hp => List.mem_append_left _ (hsub p hp)) hvd (ok.1 _ hmem) (fun hb => ok.2.1 _ hmem hb) p loose mean mg mb dp (un + 1 + 1) gd cn cs a ccd cl outer A₀ base h₀ L m { s with heap := h, toks := tk } _ _ B F X N T hk (by omega) (by omega) ?_
    rintro v' news' h' tk' ⟨rfl, hv2⟩ F' N'
    refine ⟨h', tk', [], rfl, F', N', (fun _ h => nomatch h), rfl, by rw [List.length_append, List.length_singleton, hkl], fun j hj => ?_⟩
    rcases Nat.lt_or_ge j i with hj' | hj'
    · obtain ⟨v'', e, hd'⟩ := hK j hj'
      exact ⟨v'', by rw [List.getElem?_append_left (by omega)]; exact e, hd'⟩
    · obtain rfl : j = i := by omega
      exact ⟨v', by rw [List.getElem?_append_right (by omega), hkl, Nat.sub_self]; rfl, hv2⟩
  kind := by
    intro keys made h own' hK N k hk'
    obtain ⟨j, hj, rfl⟩ := List.getElem_of_mem hk'
    obtain ⟨v, e, hv⟩ := hK.2.2 j (by rw [← hK.2.1]; exact hj)
    have e' : keys[j] = v := by rw [List.getElem?_eq_getElem hj] at e; exact Option.some.inj e
    rw [e']
    exact typeOf_D hv ((kb_getD ok.1 j).kind b)
  less := by
    intro keys made own' i j h tk C hkl hK hi hj F N hC
    obtain ⟨x, e1, hx⟩ := hK.2.2 i hi
    obtain ⟨y, e2, hy⟩ := hK.2.2 j hj
    have g1 : keys.getD i Value.none = x := by rw [List.getD_eq_getElem?_getD, e1]; rfl
    have g2 : keys.getD j Value.none = y := by rw [List.getD_eq_getElem?_getD, e2]; rfl
    rw [g1, g2]
    exact keyLt_D (s := { s with heap := h, toks := tk }) hx hy ((kb_getD ok.1 i).kind b) ((kb_getD ok.1 j).kind b) (hC h tk F N)
theorem sortedG_use {f R : Addr} {own news : List (Addr × Obj)} {b kb : Bool} {rvs : List Value} {n : Nat} {ds : List Dat} (G : Getter w f own b) (hsub : ∀ p ∈ own, p ∈ news)
    (B : Below A₀ base outer h₀) (F : Fr h₀ L s.heap m) (X : (hd1.heap_39 w.params).In h₀) (N : News h₀ L s.heap news) (T : Top p loose mean mg mb h₀) (hk : cs.kind = .function) (hd : dp + 20 < recursionLimit) (hu : un + 2000 < cLine)
    (hm : (R, listOf rvs.toArray n) ∈ news) (hrs : DatAll [] rvs ds) (ok : RowOk b kb ds)
    (ret : ∀ J out k h' tk', DatAll [] out (sortedD b ds) → AllLt J news → Fr h₀ L h' m → News h₀ L h' ((J, listOf (List.toArray out) k) :: news) → Q (.ref J) { s with heap := h', toks := tk' }) :
    wpAny (model PySem.Challenge.rw_bb0048_01.row.prog w) (ktrTop dp un gd cn cs L a ccd cl outer) (call (.builtin "sorted") [.ref R] [(Str.ofString "key", .ref f)]) Q E s := by
  have hlen := hrs.length
  have h20 := ok.2.2.2
  refine ksg_sorted (b := false) F N (memList N hm) (by omega) (ksk_s1 _ _) (fun x => ksk_l1 _ _) (fun x => ksk_t1 f x) (keyOk_G G hsub B X T hk hd hu hrs ok) (by cases kb <;> rfl) (by cases kb <;> rfl) ?_
  intro D h' tk out c F' N' l1 so
  have z := sortOut_dat hrs (fun i => (kb_getD ok.1 i).kind b) so
  exact ret D out c h' tk z (allLt_of l1) F' N'
end
end
section
section
variable {w : World} {p : Program} {loose : List Str} {mean : ExcName → Option Value} {mg mb : Str → Option Value}
    {dp un : Nat} {gd : Option (List Code)} {cn : Str} {cs : Scope} {a : Addr} {ccd : Value} {cl : List (Str × Addr)} {outer : List Env} {A₀ : Around} {base h₀ : Heap} {L : Addr} {m : Str → Option Value} {s : Shared} {Q E : Value → Shared → Prop}
local macro_rules | `(tactic| k_sub) => `(tactic| with_reducible assumption)
theorem item0_D {prog : Program} {w : World} {A : Around} {E : Value → Shared → Prop} {s : Shared} {h₀ : Heap} {L : Addr} {news : List (Addr × Obj)} {value slice : Expr} {l : Addr} {run : List Value} {n : Nat} {u : Tok} {ds : List Dat} {kb : Bool} {Q : Value → Shared → Prop} (N : News h₀ L s.heap news) (hm : (l, listOf run.toArray n) ∈ news) (hr : DatAll [] run ds) (hk : ∀ d ∈ ds, KB kb d) (h1 : 0 < run.length) (hz : run.length ≤ 1000)
    (h : ∀ v, DatIn [] v (ds.headD .none) → KB kb (ds.headD .none) → Q v s) (hs : subscripted slice false (.ref l) (.int 0 u) = operate [.ref l, .int 0 u] (getItem (.ref l) (.int 0 u)) := by with_unfolding_all rfl) :
    wpAny (model prog w) A (subscriptTail value slice (.ref l) (.int 0 u)) Q E s := by
  refine item_L N hm (by decide) (by omega) hz (fun v hv => ?_) hs
  cases hr with
  | nil => simp at h1
  | cons hd r =>
    simp only [Int.toNat_zero, List.getElem?_cons_zero, Option.some.injEq] at hv
    subst hv
    exact h _ hd (hk _ (.head _))
local macro_rules | `(tactic| walk_at "subscriptTail") => `(tactic| (k_here; (with_reducible show wpAny _ _ (subscriptTail _ _ (Value.ref _) (Value.int 0 _)) _ _ _); k_dflt (refine' item0_D ?N ?m ?r ?k ?k1 ?z ?_ ?hs; (case N => k_asm); (case m => k_mem); (case r => with_reducible assumption); (case k => with_reducible assumption); (case k1 => omega); (case z => omega); (case hs => with_unfolding_all rfl)); intro v9 hv9 hk9))
local macro_rules | `(tactic| walk_at "call ref") => `(tactic| ((first | (with_reducible show wpAny _ _ (call (Value.ref 230) _ _) _ _ _) | (with_reducible show wpAny _ _ (call (Value.ref 296) _ _) _ _ _)); refine Hold.out ?_))
local macro_rules | `(tactic| walk_at "call builtin:sorted") => `(tactic| refine Hold.out ?_)
theorem grp_pair {outs : List (Addr × Obj)} {vs : List Value} {gs : List (Dat × List Dat)} {i : Nat} {v : Value} (hgs : DatAll outs vs (gs.map grpT)) (hv : vs[i]? = some v) : ∃ q T v1 l k run kr, gs[i]? = some q ∧ v = .ref T ∧ (T, tup2 v1 (.ref l) k) ∈ outs ∧ DatIn outs v1 q.1 ∧ (l, listOf run.toArray kr) ∈ outs ∧ DatAll outs run q.2 := by
  obtain ⟨d, hd1, hdv⟩ := datAt hgs hv
  rw [List.getElem?_map] at hd1
  cases hq : gs[i]? with
  | none => rw [hq] at hd1; cases hd1
  | some q =>
    rw [hq] at hd1
    cases hd1
    obtain ⟨T, v1, l, k, run, kr, h⟩ := grp_open hdv
    exact ⟨q, T, v1, l, k, run, kr, rfl, h⟩
theorem grp_at {h₀ h : Heap} {L : Addr} {news outs : List (Addr × Obj)} {vs : List Value} {gs : List (Dat × List Dat)} {i : Nat} {T : Addr} {v1 v2 : Value} {kt : Nat} (hgs : DatAll outs vs (gs.map grpT)) (hv : vs[i]? = some (.ref T)) (sub : ∀ p ∈ outs, p ∈ news) (N : News h₀ L h news) (hT : (T, tup2 v1 v2 kt) ∈ news) :
    ∃ q l run kr, gs[i]? = some q ∧ v2 = .ref l ∧ DatIn outs v1 q.1 ∧ (l, listOf run.toArray kr) ∈ outs ∧ DatAll outs run q.2 := by
  obtain ⟨q, T1, v3, l, k, run, kr, hq, eT, hT1, hv3, hl, hrun⟩ := grp_pair hgs hv
  cases eT
  have e1 := (N _ hT).1
  rw [(N _ (sub _ hT1)).1] at e1
  obtain ⟨rfl, rfl⟩ : v3 = v1 ∧ Value.ref l = v2 := by
    simp only [Option.some.injEq, tup2, Obj.mk.injEq, Data.seq.injEq] at e1
    have e2 := e1.2.2.1.1
    simp only [List.toArray, Array.mk.injEq, List.cons.injEq, and_true] at e2
    exact e2
  exact ⟨q, l, run, kr, hq, rfl, hv3, hl, hrun⟩
theorem syncgroup_use {R : Addr} {rest : List (Addr × Obj)} {b kb : Bool} {rvs : List Value} {n : Nat} {ds : List Dat} {c' : Addr} {oc : Obj} {vs : Array Value} {t : Tok} (hoc : (c', oc) ∈ rest) (dd1 : oc.data = .fields vs) (dd2 : vs[1]? = some (.str getQual t))
    (B : Below A₀ base outer h₀) (F : Fr h₀ L s.heap m) (X : (hd1.heap_39 w.params).In h₀) (N : News h₀ L s.heap ((225, tabObj #[rawInt 97, rawInt 4, .ref c']) :: rest)) (T : Top p loose mean mg mb h₀) (hk : cs.kind = .function) (hd : dp + 60 < recursionLimit) (hu : un + 4000 < cLine) (C : CodeHd h₀ 229 225)
    (hm : (R, listOf rvs.toArray n) ∈ rest) (hrs : DatAll [] rvs ds) (ok : RowOk b kb ds) (hr : ∀ p ∈ rest, p.1 ≠ 225)
    (ret : ∀ J vs outs k h' tk', DatAll outs vs ((grpD b (sortedD b ds)).map (if b then grpT else grpH)) → (∀ q ∈ outs, AllLt q.1 ((225, tabObj #[rawInt 97, rawInt 4, .ref c']) :: rest)) → Off1 J (outs ++ (225, tabObj #[rawInt 97, rawInt 4, .ref c']) :: rest) → Fr h₀ L h' m → News h₀ L h' ((J, listOf (List.toArray vs) k) :: (outs ++ (225, tabObj #[rawInt 97, rawInt 4, .ref c']) :: rest)) → Q (.ref J) { s with heap := h', toks := tk' }) :
    wpAny (model PySem.Challenge.rw_bb0048_01.row.prog w) (ktrTop dp un gd cn cs L a ccd cl outer) (call (.ref 302) [.none, .ref R, .none, .none, .bool b]) Q E s := by
  have X₀ := X
  revert X; k_fill; intro X
  refine wpAny_call ?_
  walk_at "enter"
  rename_i g' L' hA tkA FG F0 B' X' T' la lb lc ld c1 dc1 N0
  have C' := CodeHd.keeps C FG.keep
  have hr1 : ∀ q ∈ (L' + 1, c1) :: rest, q.1 ≠ 225 := fun q hq => by
    rcases List.mem_cons.mp hq with rfl | hq
    · exact Nat.ne_of_gt lb.1
    · exact hr q hq
  cases b
  · k_steps
    refine ⟨?_⟩
    refine getter_hitF (rest := (L' + 1, c1) :: rest) c' oc vs t (List.mem_cons_of_mem _ hoc) dd1 dd2 B' F0 X' (cb_drop N0 (by k_sub)) T' rfl (by walk_at "room") (by have hcL9 := cLine_is; walk_at "room") C' hr1 ?_
    intro f own h1 tk1 hG hlt F1 N1
    have N1' : News g' L' h1 (((c', oc) :: own) ++ (225, tabObj #[rawInt 97, rawInt 4, .ref c']) :: (L' + 1, c1) :: rest) := cb_drop N1 (subCons (List.mem_append_right _ (.tail _ (.tail _ hoc))) subSelf)
    clear F0 N0 N1 hlt
    generalize (c', oc) :: own = ow at hG N1'
    k_steps
    rename_i h2 F2 N2
    refine ⟨?_⟩
    refine' sortedG_use hG ?S B' F2 X' N2 T' rfl ?hd ?hu ?m hrs ok ?_
    case S => k_sub
    case m => k_mem
    case hd => walk_at "room"
    case hu => (have hcL9 := cLine_is; walk_at "room")
    intro J9 vs9 k9 h9 tk9 hD9 l9 F9 N9
    k_steps
    refine ⟨?_⟩
    refine' groupby_use hG ?S B' F9 X' N9 T' rfl ?hd ?hu (.head _) hD9 ok.sorted ?_
    case S => exact fun p hp => .tail _ (List.mem_append_left _ hp)
    case hd => walk_at "room"
    case hu => (have hcL9 := cLine_is; walk_at "room")
    intro J vs0 outs k0 h10 tk10 hgs hoN lJ hoJ F10 N10
    have gok := grpD_ok (b := false) ok.sorted.1 ok.sorted.2.2.2
    generalize grpD false (sortedD false ds) = gs at hgs gok ret
    have hvl := hgs.length
    rw [List.length_map] at hvl
    have g20 := gok.1
    clear N9 F9 hD9
    have m225 : ((225, tabObj #[rawInt 97, rawInt 4, Value.ref c']) : Addr × Obj) ∈ (J9, listOf vs9.toArray k9) :: (ow ++ (225, tabObj #[rawInt 97, rawInt 4, Value.ref c']) :: (L' + 1, c1) :: rest) := .tail _ (List.mem_append_right _ (.head _))
    have mc1 : (L' + 1, c1) ∈ (J9, listOf vs9.toArray k9) :: (ow ++ (225, tabObj #[rawInt 97, rawInt 4, Value.ref c']) :: (L' + 1, c1) :: rest) := .tail _ (List.mem_append_right _ (.tail _ (.head _)))
    have mrest : ∀ p ∈ rest, p ∈ (J9, listOf vs9.toArray k9) :: (ow ++ (225, tabObj #[rawInt 97, rawInt 4, Value.ref c']) :: (L' + 1, c1) :: rest) := fun p hp => .tail _ (List.mem_append_right _ (.tail _ (.tail _ hp)))
    generalize hbl : (J9, listOf vs9.toArray k9) :: (ow ++ (225, tabObj #[rawInt 97, rawInt 4, Value.ref c']) :: (L' + 1, c1) :: rest) = bl at N10 hoN lJ m225 mc1 mrest
    refine ⟨J, vs0, k0, _, fun i ys nw => ∃ outs2, nw = outs2 ++ (J, listOf vs0.toArray k0) :: (outs ++ bl) ∧ DatAll outs2 ys ((gs.take i).map grpT) ∧ (∀ q ∈ outs2, AllLt q.1 bl), rfl, F10, N10, by omega, ?_, ⟨[], rfl, .nil, (fun _ h => nomatch h)⟩, ?_, ?_, ?_⟩
    · rintro j ys nw ⟨outs2, rfl, _⟩
      exact List.mem_append_right _ (.head _)
    · rintro i v ys nw hv ⟨outs2, rfl, _⟩
      obtain ⟨q, T, v1, l, k, run, kr, _, rfl, hT, _⟩ := grp_pair hgs hv
      exact ⟨T, v1, _, k, rfl, List.mem_append_right _ (.tail _ (List.mem_append_left _ hT))⟩
    · intro g i T v1 v2 kt I oI C oC D m₂ h tk ys news' E' hi hyl hv hT hJ hoC hx hy F3 N3 off hne
      obtain ⟨outs2, rfl, hys, hol⟩ := hJ
      have hso : ∀ p ∈ outs, p ∈ outs2 ++ (J, listOf vs0.toArray k0) :: (outs ++ bl) := fun p hp => List.mem_append_right _ (.tail _ (List.mem_append_left _ hp))
      obtain ⟨q, l, run, kr, hq, rfl, hv1, hl, hrun⟩ := grp_at hgs hv hso (fun p hp => N3 p (.tail _ (.tail _ (.tail _ hp)))) hT
      have hqk := gok.2 q (List.mem_of_getElem? hq)
      have hrl := hrun.length
      have hr20 := hqk.2.2.2
      have hl' := hso _ hl
      have htk : (gs.take (i + 1)).map grpT = (gs.take i).map grpT ++ [grpT q] := by rw [List.take_add_one, hq]; simp
      clear hT hv hi
      generalize htl : outs2 ++ (J, listOf vs0.toArray k0) :: (outs ++ bl) = tl at N3 off hl'
      k_steps
      rename_i l2 cl2 h11 lt2 T2 h12 F12 N12 ltT
      subst htl
      refine TurnJ.intro ((T2, tup2 v1 (.ref l2) 0) :: (l2, listOf run.toArray cl2) :: (outs2 ++ (J, listOf vs0.toArray k0) :: (outs ++ bl))) F12 N12 (subCons (by k_mem) (subCons (by k_mem) (subCons (by k_mem) (subCons (by k_mem) (subCons (by k_mem) fun p hp => .tail _ (.tail _ (.tail _ (.tail _ (.tail _ hp))))))))) ⟨⟨Nat.ne_of_gt ltT.2.1, Nat.ne_of_gt ltT.2.2.1, Nat.ne_of_gt ltT.2.2.2.1⟩, ⟨Nat.ne_of_gt lt2.1, Nat.ne_of_gt lt2.2.1, Nat.ne_of_gt lt2.2.2.1⟩, off⟩ ⟨(T2, tup2 v1 (.ref l2) 0) :: (l2, listOf run.toArray cl2) :: outs2, rfl, ?_, ?_⟩
      · rw [htk]
        exact (hys.mono fun p hp => .tail _ (.tail _ hp)).append (.one (.tuple (.head _) (.cons ((datAtom hv1 hqk.1).mono subNil) (.one (.list (.tail _ (.head _)) ((datAtoms hrun hqk.2.1).mono subNil))))))
      · exact List.forall_mem_cons.mpr ⟨(allLt_app.mp (allLt_app.mp ltT.2.2.2.2).2.2).2, List.forall_mem_cons.mpr ⟨(allLt_app.mp (allLt_app.mp lt2.2.2.2).2.2).2, hol⟩⟩
    · rintro D ys news' h tk F3 N3 o1 ⟨outs2, rfl, hys, hol⟩
      rw [hvl, List.take_length] at hys
      have o1' := off1_ne o1
      have mIn : ∀ p ∈ bl, p ∈ outs2 ++ (J, listOf vs0.toArray k0) :: (outs ++ bl) := fun p hp => List.mem_append_right _ (.tail _ (List.mem_append_right _ hp))
      have N4 : News g' L' h ((225, tabObj #[rawInt 97, rawInt 4, Value.ref c']) :: (D, lst ys) :: (L' + 1, c1) :: (outs2 ++ rest)) := cb_drop N3 (subCons (.tail _ (mIn _ m225)) (subCons (.head _) (subCons (.tail _ (mIn _ mc1)) (subMid (fun p hp => .tail _ (List.mem_append_left _ hp)) fun p hp => .tail _ (mIn _ (mrest p hp))))))
      have hD225 : @Ne Nat D 225 := Ne.symm (o1' _ (mIn _ m225))
      have hDc1 : @Ne Nat D (L' + 1) := Ne.symm (o1' _ (mIn _ mc1))
      have hol' : ∀ q ∈ outs2, AllLt q.1 ((225, tabObj #[rawInt 97, rawInt 4, Value.ref c']) :: (L' + 1, c1) :: rest) := fun q hq => by
        have z := hol q hq
        rw [← hbl] at z
        exact (allLt_app.mp z.2).2
      have oTail : ∀ p ∈ outs2 ++ rest, p.1 ≠ D := fun p hp => (List.mem_append.mp hp).elim (fun hp => o1' p (List.mem_append_left _ hp)) fun hp => o1' p (mIn _ (mrest p hp))
      clear N3 o1 o1' hol hgs hvl N10 F10 hoN lJ hoJ
      k_steps
      refine ⟨?_⟩
      refine getter_out (rest := (D, lst ys) :: (L' + 1, c1) :: (outs2 ++ rest)) c' oc vs t (.tail _ (.tail _ (List.mem_append_right _ hoc))) dd1 dd2 B' F3 X' N4 T' rfl (by walk_at "room") (by have hcL9 := cLine_is; walk_at "room") C' (fun q hq => ?_) ?_
      · rcases List.mem_cons.mp hq with rfl | hq
        · exact hD225
        · rcases List.mem_cons.mp hq with rfl | hq
          · exact Nat.ne_of_gt lb.1
          · rcases List.mem_append.mp hq with hq | hq
            · exact Nat.ne_of_gt (hol' q hq).1
            · exact hr q hq
      intro f2 own2 h13 tk13 hG2 hlt2 F13 N13
      have N14 : News g' L' h13 ((225, tabObj #[rawInt 97, rawInt 4, Value.ref c']) :: (D, lst ys) :: (L' + 1, c1) :: (((c', oc) :: own2) ++ (outs2 ++ rest))) := cb_drop N13 (subCons (List.mem_append_right _ (.head _)) (subCons (List.mem_append_right _ (.tail _ (.head _))) (subCons (List.mem_append_right _ (.tail _ (.tail _ (.head _)))) (subMid (subCons (List.mem_append_right _ (.tail _ (.tail _ (.tail _ (List.mem_append_right _ hoc))))) subAppL) fun p hp => List.mem_append_right _ (.tail _ (.tail _ (.tail _ hp)))))))
      have hT1 : ∀ p ∈ ((c', oc) :: own2) ++ (outs2 ++ rest), p.1 ≠ L' + 1 := fun p hp => by
        rcases List.mem_append.mp hp with hp | hp
        · rcases List.mem_cons.mp hp with rfl | hp
          · exact Nat.ne_of_lt (ktn_ltOf lb.2 (c', oc) hoc)
          · exact Nat.ne_of_gt (hlt2 p hp).2.2.1
        · rcases List.mem_append.mp hp with hp | hp
          · exact Nat.ne_of_gt (hol' p hp).2.1
          · exact Nat.ne_of_lt (ktn_ltOf lb.2 p hp)
      have hsub2 : ∀ p ∈ (c', oc) :: own2, p ∈ ((c', oc) :: own2) ++ (outs2 ++ rest) := subAppL
      have hso2 : ∀ p ∈ outs2, p ∈ ((c', oc) :: own2) ++ (outs2 ++ rest) := fun p hp => List.mem_append_right _ (List.mem_append_left _ hp)
      have hre2 : ∀ p ∈ rest, p ∈ ((c', oc) :: own2) ++ (outs2 ++ rest) := fun p hp => List.mem_append_right _ (List.mem_append_right _ hp)
      clear N13 N4 F3 hlt2
      generalize (c', oc) :: own2 = ow2 at hG2 N14 hT1 hsub2 hso2 hre2
      generalize ow2 ++ (outs2 ++ rest) = tl2 at N14 hT1 hsub2 hso2 hre2
      k_steps
      rename_i tkq h15 o5 F15 N15 d5
      have hvl := hys.length
      rw [List.length_map] at hvl
      refine ⟨D, ys, ys.length, _, fun i zs nw => ∃ outs3, nw = outs3 ++ (225, tabObj #[rawInt 97, rawInt 4, Value.ref c']) :: (D, lst ys) :: (L' + 1, o5) :: tl2 ∧ DatAll (outs3 ++ outs2) zs ((gs.take i).map grpH) ∧ (∀ q ∈ outs3, AllLt q.1 ((225, tabObj #[rawInt 97, rawInt 4, Value.ref c']) :: rest)), rfl, F15, N15, by omega, ?_, ⟨[], rfl, .nil, (fun _ h => nomatch h)⟩, ?_, ?_, ?_⟩
      · rintro j ys nw ⟨outs3, rfl, _⟩
        exact List.mem_append_right _ (.tail _ (.head _))
      · rintro i v ys nw hv ⟨outs3, rfl, _⟩
        obtain ⟨q, T, v1, l, k, run, kr, _, rfl, hT, _⟩ := grp_pair hys hv
        exact ⟨T, v1, _, k, rfl, List.mem_append_right _ (.tail _ (.tail _ (.tail _ (hso2 _ hT))))⟩
      · intro g i T v1 v2 kt I oI C oC D3 m₂ h tk zs news' E' hi hyl hv hT hJ hoC hx hy F3 N3 off hne
        obtain ⟨outs3, rfl, hzs, hol3⟩ := hJ
        have hin : ∀ p ∈ tl2, p ∈ outs3 ++ (225, tabObj #[rawInt 97, rawInt 4, Value.ref c']) :: (D, lst ys) :: (L' + 1, o5) :: tl2 := fun p hp => List.mem_append_right _ (.tail _ (.tail _ (.tail _ hp)))
        obtain ⟨q, l, run, kr, hq, rfl, hv1, hl, hrun⟩ := grp_at hys hv (fun p hp => hin p (hso2 p hp)) (fun p hp => N3 p (.tail _ (.tail _ (.tail _ hp)))) hT
        have hqk := gok.2 q (List.mem_of_getElem? hq)
        have hrl := hrun.length
        have hr20 := hqk.2.2.2
        have hl' := hin _ (hso2 _ hl)
        have hcm : (L' + 1, o5) ∈ outs3 ++ (225, tabObj #[rawInt 97, rawInt 4, Value.ref c']) :: (D, lst ys) :: (L' + 1, o5) :: tl2 := List.mem_append_right _ (.tail _ (.tail _ (.head _)))
        have hsub3 : ∀ p ∈ ow2, p ∈ outs3 ++ (225, tabObj #[rawInt 97, rawInt 4, Value.ref c']) :: (D, lst ys) :: (L' + 1, o5) :: tl2 := fun p hp => hin p (hsub2 p hp)
        have htk : (gs.take (i + 1)).map grpH = (gs.take i).map grpH ++ [grpH q] := by rw [List.take_add_one, hq]; simp
        have hrun0 := datAtoms hrun hqk.2.1
        have hqk1 := hqk.2.1
        have hlt1 : true = false → LenD (q.2.headD .none) := fun e => nomatch e
        have hpos : 0 < run.length := by
          rw [hrl]; exact List.length_pos_iff.mpr hqk.2.2.1
        clear hT hv hi N15 F15
        generalize htl : outs3 ++ (225, tabObj #[rawInt 97, rawInt 4, Value.ref c']) :: (D, lst ys) :: (L' + 1, o5) :: tl2 = tl at N3 off hl' hcm hsub3
        k_steps
        rename_i v8 hv8 hk8 v9 h9b tk9b hv9 hk9 T3 h16 F16 N16 lt3
        subst htl
        refine TurnJ.intro ((T3, tup2 v9 (.ref l) 0) :: (outs3 ++ (225, tabObj #[rawInt 97, rawInt 4, Value.ref c']) :: (D, lst ys) :: (L' + 1, o5) :: tl2)) F16 N16 (subCons (by k_mem) (subCons (by k_mem) (subCons (by k_mem) (subCons (by k_mem) fun p hp => .tail _ (.tail _ (.tail _ (.tail _ hp))))))) ⟨⟨Nat.ne_of_gt lt3.1, Nat.ne_of_gt lt3.2.1, Nat.ne_of_gt lt3.2.2.1⟩, off⟩ ⟨(T3, tup2 v9 (.ref l) 0) :: outs3, rfl, ?_, ?_⟩
        · rw [htk]
          exact (hzs.mono fun p hp => .tail _ hp).append (.one (.tuple (.head _) (.cons (hv9.mono subNil) (.one (.list (.tail _ (List.mem_append_right _ hl)) (hrun0.mono subNil))))))
        · have z := (allLt_app.mp lt3.2.2.2).2
          have z2 : AllLt T3 rest := allLt_of fun p hp => ktn_ltOf z p (.tail _ (.tail _ (.tail _ (hre2 p hp))))
          exact List.forall_mem_cons.mpr ⟨⟨z.1, z2⟩, hol3⟩
      · rintro D2 zs news' h tk F3 N3 o1 ⟨outs3, rfl, hzs, hol3⟩
        rw [hvl, List.take_length] at hzs
        have o1' := off1_ne o1
        have hin : ∀ p ∈ tl2, p ∈ outs3 ++ (225, tabObj #[rawInt 97, rawInt 4, Value.ref c']) :: (D, lst ys) :: (L' + 1, o5) :: tl2 := fun p hp => List.mem_append_right _ (.tail _ (.tail _ (.tail _ hp)))
        k_steps
        rename_i kF kN kT kX
        have hsubF : ∀ p ∈ (outs3 ++ outs2) ++ (225, tabObj #[rawInt 97, rawInt 4, Value.ref c']) :: rest, p ∈ outs3 ++ (225, tabObj #[rawInt 97, rawInt 4, Value.ref c']) :: (D, lst ys) :: (L' + 1, o5) :: tl2 := fun p hp => by
          rcases List.mem_append.mp hp with hp | hp
          · rcases List.mem_append.mp hp with hp | hp
            · exact List.mem_append_left _ hp
            · exact hin p (hso2 p hp)
          · rcases List.mem_cons.mp hp with rfl | hp
            · exact List.mem_append_right _ (.head _)
            · exact hin p (hre2 p hp)
        refine ret D2 zs (outs3 ++ outs2) zs.length _ _ hzs (fun q hq => ?_) (off1_of fun p hp => o1' p (hsubF p hp)) kF (cb_drop kN (subCons (.head _) fun p hp => .tail _ (hsubF p hp)))
        rcases List.mem_append.mp hq with hq | hq
        · exact hol3 q hq
        · have z := hol' q hq
          exact ⟨z.1, z.2.2⟩
  · k_steps
    refine ⟨?_⟩
    refine getter_hitT (rest := (L' + 1, c1) :: rest) c' oc vs t (List.mem_cons_of_mem _ hoc) dd1 dd2 B' F0 X' (cb_drop N0 (by k_sub)) T' rfl (by walk_at "room") (by have hcL9 := cLine_is; walk_at "room") C' hr1 ?_
    intro f own h1 tk1 hG hlt F1 N1
    have N1' : News g' L' h1 (((c', oc) :: own) ++ (225, tabObj #[rawInt 97, rawInt 4, .ref c']) :: (L' + 1, c1) :: rest) := cb_drop N1 (subCons (List.mem_append_right _ (.tail _ (.tail _ hoc))) subSelf)
    clear F0 N0 N1 hlt
    generalize (c', oc) :: own = ow at hG N1'
    k_steps
    rename_i h2 F2 N2
    refine ⟨?_⟩
    refine' sortedG_use hG ?S B' F2 X' N2 T' rfl ?hd ?hu ?m hrs ok ?_
    case S => k_sub
    case m => k_mem
    case hd => walk_at "room"
    case hu => (have hcL9 := cLine_is; walk_at "room")
    intro J9 vs9 k9 h9 tk9 hD9 l9 F9 N9
    k_steps
    refine ⟨?_⟩
    refine' groupby_use hG ?S B' F9 X' N9 T' rfl ?hd ?hu (.head _) hD9 ok.sorted ?_
    case S => exact fun p hp => .tail _ (List.mem_append_left _ hp)
    case hd => walk_at "room"
    case hu => (have hcL9 := cLine_is; walk_at "room")
    intro J vs0 outs k0 h10 tk10 hgs hoN lJ hoJ F10 N10
    have gok := grpD_ok (b := true) ok.sorted.1 ok.sorted.2.2.2
    generalize grpD true (sortedD true ds) = gs at hgs gok ret
    have hvl := hgs.length
    rw [List.length_map] at hvl
    have g20 := gok.1
    clear N9 F9 hD9
    have m225 : ((225, tabObj #[rawInt 97, rawInt 4, Value.ref c']) : Addr × Obj) ∈ (J9, listOf vs9.toArray k9) :: (ow ++ (225, tabObj #[rawInt 97, rawInt 4, Value.ref c']) :: (L' + 1, c1) :: rest) := .tail _ (List.mem_append_right _ (.head _))
    have mc1 : (L' + 1, c1) ∈ (J9, listOf vs9.toArray k9) :: (ow ++ (225, tabObj #[rawInt 97, rawInt 4, Value.ref c']) :: (L' + 1, c1) :: rest) := .tail _ (List.mem_append_right _ (.tail _ (.head _)))
    have mrest : ∀ p ∈ rest, p ∈ (J9, listOf vs9.toArray k9) :: (ow ++ (225, tabObj #[rawInt 97, rawInt 4, Value.ref c']) :: (L' + 1, c1) :: rest) := fun p hp => .tail _ (List.mem_append_right _ (.tail _ (.tail _ hp)))
    generalize hbl : (J9, listOf vs9.toArray k9) :: (ow ++ (225, tabObj #[rawInt 97, rawInt 4, Value.ref c']) :: (L' + 1, c1) :: rest) = bl at N10 hoN lJ m225 mc1 mrest
    refine ⟨J, vs0, k0, _, fun i ys nw => ∃ outs2, nw = outs2 ++ (J, listOf vs0.toArray k0) :: (outs ++ bl) ∧ DatAll outs2 ys ((gs.take i).map grpT) ∧ (∀ q ∈ outs2, AllLt q.1 bl), rfl, F10, N10, by omega, ?_, ⟨[], rfl, .nil, (fun _ h => nomatch h)⟩, ?_, ?_, ?_⟩
    · rintro j ys nw ⟨outs2, rfl, _⟩
      exact List.mem_append_right _ (.head _)
    · rintro i v ys nw hv ⟨outs2, rfl, _⟩
      obtain ⟨q, T, v1, l, k, run, kr, _, rfl, hT, _⟩ := grp_pair hgs hv
      exact ⟨T, v1, _, k, rfl, List.mem_append_right _ (.tail _ (List.mem_append_left _ hT))⟩
    · intro g i T v1 v2 kt I oI C oC D m₂ h tk ys news' E' hi hyl hv hT hJ hoC hx hy F3 N3 off hne
      obtain ⟨outs2, rfl, hys, hol⟩ := hJ
      have hso : ∀ p ∈ outs, p ∈ outs2 ++ (J, listOf vs0.toArray k0) :: (outs ++ bl) := fun p hp => List.mem_append_right _ (.tail _ (List.mem_append_left _ hp))
      obtain ⟨q, l, run, kr, hq, rfl, hv1, hl, hrun⟩ := grp_at hgs hv hso (fun p hp => N3 p (.tail _ (.tail _ (.tail _ hp)))) hT
      have hqk := gok.2 q (List.mem_of_getElem? hq)
      have hrl := hrun.length
      have hr20 := hqk.2.2.2
      have hl' := hso _ hl
      have htk : (gs.take (i + 1)).map grpT = (gs.take i).map grpT ++ [grpT q] := by rw [List.take_add_one, hq]; simp
      clear hT hv hi
      generalize htl : outs2 ++ (J, listOf vs0.toArray k0) :: (outs ++ bl) = tl at N3 off hl'
      k_steps
      rename_i l2 cl2 h11 lt2 T2 h12 F12 N12 ltT
      subst htl
      refine TurnJ.intro ((T2, tup2 v1 (.ref l2) 0) :: (l2, listOf run.toArray cl2) :: (outs2 ++ (J, listOf vs0.toArray k0) :: (outs ++ bl))) F12 N12 (subCons (by k_mem) (subCons (by k_mem) (subCons (by k_mem) (subCons (by k_mem) (subCons (by k_mem) fun p hp => .tail _ (.tail _ (.tail _ (.tail _ (.tail _ hp))))))))) ⟨⟨Nat.ne_of_gt ltT.2.1, Nat.ne_of_gt ltT.2.2.1, Nat.ne_of_gt ltT.2.2.2.1⟩, ⟨Nat.ne_of_gt lt2.1, Nat.ne_of_gt lt2.2.1, Nat.ne_of_gt lt2.2.2.1⟩, off⟩ ⟨(T2, tup2 v1 (.ref l2) 0) :: (l2, listOf run.toArray cl2) :: outs2, rfl, ?_, ?_⟩
      · rw [htk]
        exact (hys.mono fun p hp => .tail _ (.tail _ hp)).append (.one (.tuple (.head _) (.cons ((datAtom hv1 hqk.1).mono subNil) (.one (.list (.tail _ (.head _)) ((datAtoms hrun hqk.2.1).mono subNil))))))
      · exact List.forall_mem_cons.mpr ⟨(allLt_app.mp (allLt_app.mp ltT.2.2.2.2).2.2).2, List.forall_mem_cons.mpr ⟨(allLt_app.mp (allLt_app.mp lt2.2.2.2).2.2).2, hol⟩⟩
    · rintro D ys news' h tk F3 N3 o1 ⟨outs2, rfl, hys, hol⟩
      rw [hvl, List.take_length] at hys
      have o1' := off1_ne o1
      have mIn : ∀ p ∈ bl, p ∈ outs2 ++ (J, listOf vs0.toArray k0) :: (outs ++ bl) := fun p hp => List.mem_append_right _ (.tail _ (List.mem_append_right _ hp))
      have N4 : News g' L' h ((225, tabObj #[rawInt 97, rawInt 4, Value.ref c']) :: (D, lst ys) :: (L' + 1, c1) :: (outs2 ++ rest)) := cb_drop N3 (subCons (.tail _ (mIn _ m225)) (subCons (.head _) (subCons (.tail _ (mIn _ mc1)) (subMid (fun p hp => .tail _ (List.mem_append_left _ hp)) fun p hp => .tail _ (mIn _ (mrest p hp))))))
      have hD225 : @Ne Nat D 225 := Ne.symm (o1' _ (mIn _ m225))
      have hDc1 : @Ne Nat D (L' + 1) := Ne.symm (o1' _ (mIn _ mc1))
      have hol' : ∀ q ∈ outs2, AllLt q.1 ((225, tabObj #[rawInt 97, rawInt 4, Value.ref c']) :: (L' + 1, c1) :: rest) := fun q hq => by
        have z := hol q hq
        rw [← hbl] at z
        exact (allLt_app.mp z.2).2
      have oTail : ∀ p ∈ outs2 ++ rest, p.1 ≠ D := fun p hp => (List.mem_append.mp hp).elim (fun hp => o1' p (List.mem_append_left _ hp)) fun hp => o1' p (mIn _ (mrest p hp))
      k_steps
      rename_i kF kN kT kX
      refine ret D ys outs2 ys.length _ _ hys (fun q hq => ⟨(hol' q hq).1, (hol' q hq).2.2⟩) (off1_of fun p hp => ?_) kF (cb_drop kN (subCons (.tail _ (.head _)) (subMid (fun p hp => .tail _ (.tail _ (.tail _ (List.mem_append_left _ hp)))) (subCons (.head _) fun p hp => .tail _ (.tail _ (.tail _ (List.mem_append_right _ hp)))))))
      rcases List.mem_append.mp hp with hp | hp
      · exact o1' p (List.mem_append_left _ hp)
      · rcases List.mem_cons.mp hp with rfl | hp
        · exact Ne.symm hD225
        · exact o1' p (mIn _ (mrest p hp))
end
end
end
end
end
end
end
end
end
end
section
local macro_rules | `(tactic| walk_at "call ref") => `(tactic| (k_here; (with_reducible show wpAny _ _ (call (Value.ref 316) _ _) _ _ _); k_dflt (refine' word_use ?B ?F ?X ?N ?T ?hk ?p1 ?p2 ?hDS ?hDr ?hSr ?hd ?hu ?ok ?_; (case B => k_asm); (case F => k_asm); (case X => k_asm); (case N => k_asm); (case T => k_asm); (case hk => first | exact rfl | assumption); (case p1 => walk_at "pick"); (case p2 => walk_at "pick"); (case hDS => (first | assumption | k_ne)); (case hDr => k_all); (case hSr => k_all); (case hd => walk_at "room"); (case hu => (have hcL9 := cLine_is; walk_at "room")); (case ok => assumption)); intro x9 q9 t9 u9 n9 k9 vs9 h9 tk9 ok9 hx9 F9 N9))
section
local macro_rules | `(tactic| walk_at "call ref") => `(tactic| (k_here; (with_reducible show wpAny _ _ (call (Value.ref 328) _ _) _ _ _); k_dflt (refine' kind_use ?B ?F ?X ?N ?T ?hk ?hd ?hu ?hv ?hk2 ?hl ?_; (case B => k_asm); (case F => k_asm); (case X => k_asm); (case N => k_asm); (case T => k_asm); (case hk => first | exact rfl | assumption); (case hd => walk_at "room"); (case hu => (have hcL9 := cLine_is; walk_at "room")); (case hv => with_reducible assumption); (case hk2 => with_reducible assumption); (case hl => with_reducible assumption)); intro v9 h9 tk9 hv9 hk9 F9 N9))
local macro_rules | `(tactic| walk_at "compareOp LtE") => `(tactic| (k_here; refine' le_D ?a ?b ?c ?d ?_; (case a => with_reducible assumption); (case b => with_reducible assumption); (case c => with_reducible assumption); (case d => with_reducible assumption)))
local macro_rules | `(tactic| walk_at "compareOp Eq") => `(tactic| (k_here; refine' eq_D ?a ?b ?c ?d ?_; (case a => with_reducible assumption); (case b => with_reducible assumption); (case c => with_reducible assumption); (case d => with_reducible assumption)))
section
local macro_rules | `(tactic| walk_at "compareOp Eq ref ref") => `(tactic| (k_here; k_dflt (refine' eq_nil ?N ?a ?b ?d ?k ?u ?_; (case N => k_asm); (case a => k_mem); (case b => k_mem); (case d => with_reducible assumption); (case k => with_reducible assumption); (case u => units_room))))
local macro_rules | `(tactic| walk_at "call builtin:list.append") => `(tactic| (k_here; k_dflt (refine' append_L ?F ?N ?U ?z ?_; (case F => k_asm); (case N => k_asm); (case U => k_upd); (case z => walk_at "size")); intro h9 F9 N9))
section
local macro_rules | `(tactic| k_all) => `(tactic| (tbn_letter; refine' allSub ?ah ?as; (case ah => with_reducible assumption); (case as => k_sub)))
local macro_rules | `(tactic| walk_at "call ref") => `(tactic| (k_here; (first | (with_reducible show wpAny _ _ (call (Value.ref 352) _ _) _ _ _) | (with_reducible show wpAny _ _ (call (Value.ref 357) _ _) _ _ _)); k_dflt (first
  | (refine' sorted_use ?B ?F ?X ?N ?T ?hk ?hd ?hu ?pk ?hR ?ok ?hRr ?_; (case B => k_asm); (case F => k_asm); (case X => k_asm); (case N => k_asm); (case T => k_asm); (case hk => first | exact rfl | assumption); (case pk => walk_at "pick"); (case hR => with_reducible assumption); (case ok => with_reducible assumption); (case hRr => k_all); (case hd => walk_at "room"); (case hu => (have hcL9 := cLine_is; walk_at "room")))
  | (refine' first_use ?B ?F ?X ?N ?T ?hk ?hd ?hu ?pk ?hR ?ok ?hRr ?_; (case B => k_asm); (case F => k_asm); (case X => k_asm); (case N => k_asm); (case T => k_asm); (case hk => first | exact rfl | assumption); (case pk => walk_at "pick"); (case hR => with_reducible assumption); (case ok => with_reducible assumption); (case hRr => k_all); (case hd => walk_at "room"); (case hu => (have hcL9 := cLine_is; walk_at "room")))); intro J9 vs9 k9 h9 tk9 hD9 ok9 hne9 F9 N9; (have hn9 := gnNe_of hne9); (simp only [GnNe] at hn9)))
section
theorem chunks_flat (k : Nat) (ds : List Dat) : ∀ n, (chunksD k ds n).flatten = ds.take (n * k)
  | 0 => by simp [chunksD]
  | n + 1 => by
    rw [chunksD_succ, List.flatten_append, chunks_flat k ds n, List.flatten_singleton, Nat.succ_mul, List.take_add]
theorem chunks_app (k : Nat) (ds : List Dat) (d : Dat) {n : Nat} (h : n * k ≤ ds.length) : chunksD k (ds ++ [d]) n = chunksD k ds n := by
  simp only [chunksD]
  refine List.map_congr_left fun j hj => ?_
  have hj' : j < n := List.mem_range.mp hj
  have h1 : (j + 1) * k ≤ n * k := Nat.mul_le_mul_right k hj'
  rw [Nat.succ_mul] at h1
  rw [List.drop_append_of_le_length (by omega), List.take_append_of_le_length (by rw [List.length_drop]; omega)]
theorem chunk_m {n k : Nat} (hk : 1 ≤ k) : (n - 1) / k * k ≤ n ∧ (1 ≤ n → (n - 1) / k * k + 1 ≤ n) ∧ n ≤ (n - 1) / k * k + k := by
  have h1 := Nat.div_add_mod (n - 1) k
  have h2 := Nat.mod_lt (n - 1) (show 0 < k by omega)
  rw [Nat.mul_comm] at h1
  generalize (n - 1) / k * k = z at h1 ⊢
  generalize (n - 1) % k = r at h1 h2
  omega
theorem chunk_fold {k : Nat} (hk : 1 ≤ k) (ds : List Dat) : ds.foldl (chunkD k) ([], []) = (chunksD k ds ((ds.length - 1) / k), ds.drop ((ds.length - 1) / k * k)) := by
  induction ds using revInd with
  | h0 => simp [chunksD]
  | h1 ds d ih =>
    rw [List.foldl_append, ih, List.foldl_cons, List.foldl_nil]
    obtain ⟨a1, _, a3⟩ := chunk_m (n := ds.length) hk
    have hlen : (ds.drop ((ds.length - 1) / k * k)).length = ds.length - (ds.length - 1) / k * k := List.length_drop
    have hm : (ds.length + 1 - 1) / k = if ds.length - (ds.length - 1) / k * k = k then (ds.length - 1) / k + 1 else (ds.length - 1) / k := by
      rw [Nat.add_sub_cancel]
      split
      · rename_i e
        have e2 : ds.length = ((ds.length - 1) / k + 1) * k := by rw [Nat.succ_mul]; omega
        exact (Nat.div_eq_of_lt_le (by rw [← e2]; exact Nat.le_refl _) (by rw [Nat.succ_mul, ← e2]; omega))
      · rename_i e
        refine Nat.div_eq_of_lt_le a1 ?_
        rw [Nat.succ_mul]
        omega
    rw [List.length_append, List.length_singleton, hm]
    unfold chunkD
    dsimp only
    rw [hlen]
    generalize (ds.length - 1) / k = q at *
    split
    · rename_i e
      rw [chunksD_succ, chunks_app k ds d a1, Nat.succ_mul, List.drop_append_of_le_length a1, List.take_append_of_le_length (by rw [hlen]; omega), List.take_of_length_le (by rw [hlen]; omega)]
      rw [show q * k + k = ds.length by omega, List.drop_left]
    · rw [chunks_app k ds d a1, List.drop_append_of_le_length a1]
theorem fill_pad (k : Nat) (fd : Dat) (t : List Dat) : fillD k fd t = padRep k fd t := by
  cases fd <;> simp only [fillD, padRep] <;> (split <;> first | rfl | (rename_i h; rw [show k - t.length = 0 by omega]; simp))
theorem batchD_cases {k : Nat} (hk : 1 ≤ k) (fd : Dat) (ds : List Dat) : (ds = [] ∧ batchD k fd ds = []) ∨ (1 ≤ ds.length ∧ batchD k fd ds = chunksD k ds ((ds.length - 1) / k) ++ [fillD k fd (ds.drop ((ds.length - 1) / k * k))]) := by
  obtain ⟨a1, a2, a3⟩ := chunk_m (n := ds.length) hk
  cases ds with
  | nil => exact .inl ⟨rfl, by simp [batchD]⟩
  | cons d r =>
    refine .inr ⟨by simp, ?_⟩
    unfold batchD
    rw [chunk_fold hk]
    dsimp only
    rw [if_neg]
    rw [List.isEmpty_iff]
    intro e
    have e1 := congrArg List.length e
    rw [List.length_drop, List.length_nil] at e1
    have := a2 (by simp)
    omega
theorem batchD_eq {k : Nat} (hk : 1 ≤ k) (fd : Dat) (ds : List Dat) : batchD k fd ds = batchesD k fd ds := by
  rcases batchD_cases hk fd ds with ⟨rfl, e⟩ | ⟨hl, e⟩
  · rw [e, batchesD, List.length_nil, Nat.zero_add, Nat.div_eq_of_lt (by omega)]
    rfl
  · obtain ⟨a1, a2, a3⟩ := chunk_m (n := ds.length) hk
    have e2 : (ds.length + k - 1) / k = (ds.length - 1) / k + 1 := by
      rw [show ds.length + k - 1 = ds.length - 1 + k by omega, Nat.add_div_right _ (by omega)]
    rw [e, batchesD, e2, chunksD_succ, padLast_snoc, fill_pad, List.take_of_length_le (by rw [List.length_drop]; omega)]
theorem batchD_flat {k : Nat} (hk : 1 ≤ k) (ds : List Dat) : (batchD k .none ds).flatten = ds := by
  rcases batchD_cases hk .none ds with ⟨rfl, e⟩ | ⟨hl, e⟩
  · rw [e]; rfl
  · rw [e, List.flatten_append, chunks_flat, List.flatten_singleton]
    exact List.take_append_drop ..
theorem slice_off (k : Nat) (ds : List Dat) (hk : 1 ≤ k) : ∀ n, ((List.range n).map (sliceAt k .none ds)).flatten = ds.take (min n (ds.length % k) + n * (ds.length / k))
  | 0 => by simp
  | n + 1 => by
    rw [List.range_succ, List.map_append, List.flatten_append, slice_off k ds hk n, List.map_singleton, List.flatten_singleton]
    show _ ++ ((ds.drop (min n (ds.length % k) + n * (ds.length / k))).take (ds.length / k + if n < ds.length % k then 1 else 0)) = _
    rw [← List.take_add]
    congr 1
    rw [Nat.succ_mul]
    split <;> omega
theorem sliceD_flat {k : Nat} (hk : 1 ≤ k) (ds : List Dat) : (sliceD k .none ds).flatten = ds := by
  rw [sliceD, slice_off k ds hk]
  refine List.take_of_length_le ?_
  have h1 := Nat.div_add_mod ds.length k
  have h2 := Nat.mod_lt ds.length (show 0 < k by omega)
  rw [Nat.min_eq_right (by omega)]
  omega
theorem sliceD_len (k : Nat) (fd : Dat) (ds : List Dat) : (sliceD k fd ds).length = k := by simp [sliceD]
theorem okList {l : List Dat} (h : ∀ d ∈ l, kqdOk 7 d = true) : kqdOk 8 (.list l) = true := by
  show l.all (kqdOk 7) = true
  exact List.all_eq_true.mpr h
theorem batchD_ok {k : Nat} {fd : Dat} {ds : List Dat} (hk : 1 ≤ k) (hd : ∀ d ∈ ds, kqdOk 7 d = true) (hf : kqdOk 7 fd = true) : ∀ d ∈ (batchD k fd ds).map Dat.list, kqdOk 8 d = true := by
  intro e he
  obtain ⟨l, hl, rfl⟩ := List.mem_map.mp he
  refine okList fun d hdl => ?_
  rcases batchD_cases hk fd ds with ⟨_, e⟩ | ⟨_, e⟩
  · rw [e] at hl; cases hl
  · rw [e] at hl
    rcases List.mem_append.mp hl with hl | hl
    · obtain ⟨j, _, rfl⟩ := List.mem_map.mp hl
      exact hd d (List.mem_of_mem_drop (List.mem_of_mem_take hdl))
    · rw [List.mem_singleton.mp hl] at hdl
      have hx : d ∈ ds.drop ((ds.length - 1) / k * k) ∨ d = fd := by
        rw [fill_pad] at hdl
        cases fd <;> simp only [padRep] at hdl <;> first | exact .inl hdl | (rcases List.mem_append.mp hdl with h | h; exact .inl h; exact .inr (List.eq_of_mem_replicate h))
      rcases hx with h | rfl
      · exact hd d (List.mem_of_mem_drop h)
      · exact hf
theorem sliceD_ok {k : Nat} {fd : Dat} {ds : List Dat} (hd : ∀ d ∈ ds, kqdOk 7 d = true) (hf : kqdOk 7 fd = true) : ∀ d ∈ (sliceD k fd ds).map Dat.list, kqdOk 8 d = true := by
  intro e he
  obtain ⟨l, hl, rfl⟩ := List.mem_map.mp he
  refine okList fun d hdl => ?_
  obtain ⟨j, _, rfl⟩ := List.mem_map.mp hl
  unfold sliceAt at hdl
  generalize hz : (ds.drop (min j (ds.length % k) + j * (ds.length / k))).take (ds.length / k + if j < ds.length % k then 1 else 0) = t at hdl
  have ht : ∀ d ∈ t, kqdOk 7 d = true := fun d h => by
    rw [← hz] at h
    exact hd d (List.mem_of_mem_drop (List.mem_of_mem_take h))
  have hx : d ∈ t ∨ d = fd := by
    cases fd <;> simp only [padD] at hdl <;> first | exact .inl hdl | (split at hdl; (rcases List.mem_append.mp hdl with h | h; exact .inl h; exact .inr (List.mem_singleton.mp h)); exact .inl hdl)
  rcases hx with h | rfl
  · exact ht d h
  · exact hf
theorem firstD_snoc (b : Bool) (t : List Dat) (d : Dat) : firstD b (t ++ [d]) = fstD b (firstD b t) d := by simp [firstD]
theorem grp_inv {b kb : Bool} (t : List Dat) (hk : ∀ d ∈ t, KB kb d) (hs : Srtd (kindD b) t) : t = [] ∨ ∃ fs h, firstD b t = fs ++ [h] ∧
    t.foldl (grpStep b) ([], none) = (fs.map (fun f => (kindD b f, t.filter fun x => eqD (kindD b x) (kindD b f))), some (kindD b h, t.filter fun x => eqD (kindD b x) (kindD b h))) ∧
    (∀ f ∈ fs, kindD b f ≠ kindD b h) ∧ (∀ x ∈ t, leD (kindD b x) (kindD b h) = true) ∧ ∀ f ∈ fs ++ [h], (t.filter fun x => eqD (kindD b x) (kindD b f)).head? = some f := by
  induction t using revInd with
  | h0 => exact .inl rfl
  | h1 t d ih =>
    right
    obtain ⟨s1, _, s3⟩ := List.pairwise_append.mp hs
    have hkt : ∀ e ∈ t, KB kb e := fun e he => hk e (List.mem_append_left _ he)
    have hd := (hk d (List.mem_append_right _ (.head _))).kind b
    have hle : ∀ x ∈ t, leD (kindD b x) (kindD b d) = true := fun x hx => s3 x hx d (.head _)
    have hdd : eqD (kindD b d) (kindD b d) = true := (eqD_iff hd hd).mpr rfl
    rcases ih hkt s1 with rfl | ⟨fs, h, e1, e2, e3, e4, e5⟩
    · refine ⟨[], d, by simp [firstD, fstD], by simp [grpStep, hdd], (fun _ h => nomatch h), fun x hx => ?_, fun f hf => ?_⟩
      · rw [List.nil_append] at hx
        rw [List.mem_singleton.mp hx]
        exact leD_refl hd
      · rw [List.nil_append] at hf
        rw [List.mem_singleton.mp hf]
        simp [hdd]
    · have hft : ∀ f ∈ fs ++ [h], f ∈ t := fun f hf => (mem_firstD (e1 ▸ hf : f ∈ firstD b t)).resolve_left (by simp)
      have hht : h ∈ t := hft h (List.mem_append_right _ (.head _))
      have hh := (hkt h hht).kind b
      have happ : ∀ f : Dat, (t ++ [d]).filter (fun x => eqD (kindD b x) (kindD b f)) = t.filter (fun x => eqD (kindD b x) (kindD b f)) ++ if eqD (kindD b d) (kindD b f) = true then [d] else [] := fun f => by
        rw [List.filter_append]
        cases q : eqD (kindD b d) (kindD b f) <;> simp [q]
      rw [firstD_snoc, List.foldl_append, e2, List.foldl_cons, List.foldl_nil, e1]
      cases hq : eqD (kindD b h) (kindD b d) with
      | true =>
        have hhd := (eqD_iff hh hd).mp hq
        refine ⟨fs, h, ?_, ?_, e3, fun x hx => ?_, fun f hf => ?_⟩
        · unfold fstD
          rw [if_neg]
          intro q
          have q2 := List.isEmpty_iff.mp q
          have q3 : h ∈ (fs ++ [h]).filter fun one => eqD (kindD b one) (kindD b d) := List.mem_filter.mpr ⟨List.mem_append_right _ (.head _), hq⟩
          rw [q2] at q3
          cases q3
        · simp only [grpStep, hq, if_true]
          rw [happ h, ← hhd, (eqD_iff hh hh).mpr rfl, if_pos rfl]
          congr 1
          refine List.map_congr_left fun f hf => ?_
          have hfk := (hkt f (hft f (List.mem_append_left _ hf))).kind b
          rw [happ f, if_neg, List.append_nil]
          rw [← hhd]
          exact fun q => e3 f hf ((eqD_iff hh hfk).mp q).symm
        · rcases List.mem_append.mp hx with hx | hx
          · exact e4 x hx
          · rw [List.mem_singleton.mp hx, hhd]
            exact leD_refl hd
        · rw [happ f, List.head?_append, e5 f hf]
          rfl
      | false =>
        have hne : ∀ x ∈ t, kindD b x ≠ kindD b d := fun x hx q => by
          have z := e4 x hx
          rw [q] at z
          have z2 := leD_anti hd hh z (hle h hht)
          rw [z2, (eqD_iff hh hh).mpr rfl] at hq
          cases hq
        have hnf : ∀ x ∈ t, eqD (kindD b x) (kindD b d) = false := fun x hx => by
          cases q : eqD (kindD b x) (kindD b d) with
          | false => rfl
          | true => exact (hne x hx ((eqD_iff ((hkt x hx).kind b) hd).mp q)).elim
        have hnr : ∀ x ∈ t, eqD (kindD b d) (kindD b x) = false := fun x hx => by
          cases q : eqD (kindD b d) (kindD b x) with
          | false => rfl
          | true => exact (hne x hx ((eqD_iff hd ((hkt x hx).kind b)).mp q).symm).elim
        have hnil : (t.filter fun x => eqD (kindD b x) (kindD b d)) = [] := List.filter_eq_nil_iff.mpr fun x hx q => by rw [hnf x hx] at q; cases q
        refine ⟨fs ++ [h], d, ?_, ?_, fun f hf => hne f (hft f hf), fun x hx => ?_, fun f hf => ?_⟩
        · unfold fstD
          rw [if_pos]
          exact List.isEmpty_iff.mpr (List.filter_eq_nil_iff.mpr fun f hf q => by rw [hnf f (hft f hf)] at q; cases q)
        · have m1 : (fs ++ [h]).map (fun f => (kindD b f, (t ++ [d]).filter fun x => eqD (kindD b x) (kindD b f))) = fs.map (fun f => (kindD b f, t.filter fun x => eqD (kindD b x) (kindD b f))) ++ [(kindD b h, t.filter fun x => eqD (kindD b x) (kindD b h))] := by
            rw [List.map_append, List.map_singleton, happ h, hnr h hht, if_neg (by simp), List.append_nil]
            congr 1
            refine List.map_congr_left fun f hf => ?_
            rw [happ f, hnr f (hft f (List.mem_append_left _ hf)), if_neg (by simp), List.append_nil]
          rw [m1, happ d, hdd, if_pos rfl, hnil]
          simp only [grpStep, hq, Bool.false_eq_true, if_false, List.nil_append]
        · rcases List.mem_append.mp hx with hx | hx
          · exact hle x hx
          · rw [List.mem_singleton.mp hx]
            exact leD_refl hd
        · rw [happ f, List.head?_append]
          rcases List.mem_append.mp hf with hf | hf
          · rw [e5 f hf]; rfl
          · rw [List.mem_singleton.mp hf, hdd, if_pos rfl, hnil]
            rfl
theorem groups_eq {b kb : Bool} {ds : List Dat} (ok : RowOk b kb ds) : (grpD b (sortedD b ds)).map (if b then grpT else grpH) = groupsD b ds := by
  have hk : ∀ d ∈ ds, KB kb (kindD b d) := fun d hd => (ok.1 d hd).kind b
  obtain ⟨s1, s2⟩ := sortG_ok (g := kindD b) ds hk
  rw [← sortedD_G] at s1 s2
  have okS := ok.sorted
  unfold groupsD
  rcases grp_inv (sortedD b ds) okS.1 s1 with e | ⟨fs, h, e1, e2, e3, e4, e5⟩
  · rw [e]; rfl
  · rw [grpD, e2, e1]
    show (List.map (fun f => (kindD b f, (sortedD b ds).filter fun x => eqD (kindD b x) (kindD b f))) fs ++ [(kindD b h, (sortedD b ds).filter fun x => eqD (kindD b x) (kindD b h))]).map _ = _
    have e6 : List.map (fun f => (kindD b f, (sortedD b ds).filter fun x => eqD (kindD b x) (kindD b f))) fs ++ [(kindD b h, (sortedD b ds).filter fun x => eqD (kindD b x) (kindD b h))] = (fs ++ [h]).map fun f => (kindD b f, (sortedD b ds).filter fun x => eqD (kindD b x) (kindD b f)) := by
      rw [List.map_append]; rfl
    rw [e6, List.map_map]
    refine List.map_congr_left fun f hf => ?_
    have hfd : f ∈ sortedD b ds := (mem_firstD (e1 ▸ hf : f ∈ firstD b (sortedD b ds))).resolve_left (by simp)
    have hfk := (okS.1 f hfd).kind b
    have e7 := e5 f hf
    rw [s2 _ hfk] at e7
    show (if b = true then grpT else grpH) (kindD b f, (sortedD b ds).filter fun x => eqD (kindD b x) (kindD b f)) = groupD b ds f
    rw [s2 _ hfk]
    cases b
    · show grpH _ = _
      simp only [grpH, groupD, List.headD_eq_head?_getD]
      rw [e7]
      rfl
    · rfl
theorem KB.okN {kb : Bool} {d : Dat} (h : KB kb d) (h8 : kqdOk 8 d = true) (n : Nat) : kqdOk n d = true := by
  cases h
  · cases n <;> exact h8
  · cases n <;> rfl
theorem groups_ok {b kb : Bool} {ds : List Dat} (ok : RowOk b kb ds) : ∀ d ∈ groupsD b ds, kqdOk 8 d = true := by
  intro e he
  obtain ⟨h, hh, rfl⟩ := List.mem_map.mp he
  have okf := ok.sorted.first
  show List.all [h, .list _] (kqdOk 7) = true
  refine List.all_eq_true.mpr fun d hd => ?_
  simp only [List.mem_cons, List.not_mem_nil, or_false] at hd
  rcases hd with rfl | rfl
  · exact (okf.1 _ hh).okN (okf.2.2.1 _ hh) 7
  · show List.all _ (kqdOk 6) = true
    refine List.all_eq_true.mpr fun d hd => ?_
    have hd := (List.mem_filter.mp hd).1
    exact (ok.1 d hd).okN (ok.2.2.1 d hd) 6
theorem ItemD.kb {b : Bool} {d : Dat} (h : ItemD b d) : KB b d := by cases h <;> constructor
theorem ItemD.len {b : Bool} {d : Dat} (h : ItemD b d) : LenD d := by
  intro x e
  subst e
  rcases h with ⟨_, h, _⟩
  omega
theorem ItemD.ok {b : Bool} {d : Dat} (h : ItemD b d) (n : Nat) : kqdOk n d = true := by
  rcases h with ⟨x, _, h⟩ | _
  · cases n <;> exact h
  · cases n <;> rfl
theorem ItemD.row {kb : Bool} {ds : List Dat} (hit : ∀ d ∈ ds, ItemD kb d) (hlen : ds.length ≤ 9) (b : Bool) : RowOk b kb ds :=
  ⟨fun d hd => (hit d hd).kb, fun d hd _ => (hit d hd).len, fun d hd => (hit d hd).ok 8, by omega⟩
end
end
end
end
section
local macro_rules | `(tactic| walk_at "exec For") => `(tactic| (k_here; (with_reducible show wpAny _ _ (exec (Stmt.For (Expr.Name _ _) _ _ _ _) _) _ _ _); k_dflt (refine for_J (_F := by k_asm) ?_ (by intro _; rfl) (by passes_own))))
local macro_rules | `(tactic| walk_at "exec For Name Name cons nil") => `(tactic| (k_here; k_dflt (refine for_J (_F := by k_asm) ?_ (by intro _; rfl) (by passes_own))))
local macro_rules | `(tactic| walk_at "exec For Name Call cons nil") => `(tactic| (k_here; k_dflt (refine for_J (_F := by k_asm) ?_ (by intro _; rfl) (by passes_own))))
local macro_rules | `(tactic| walk_at "PostF") => `(tactic| (dsimp only [PostF]))
section
local macro_rules | `(tactic| walk_at "call ref") => `(tactic| (k_here; (with_reducible show wpAny _ _ (call (Value.ref 328) _ _) _ _ _); k_dflt (refine' kind_use ?B ?F ?X ?N ?T ?hk ?hd ?hu ?hv ?hk2 ?hl ?_; (case B => k_asm); (case F => k_asm); (case X => k_asm); (case N => k_asm); (case T => k_asm); (case hk => first | exact rfl | assumption); (case hd => walk_at "room"); (case hu => (have hcL9 := cLine_is; walk_at "room")); (case hv => with_reducible assumption); (case hk2 => with_reducible assumption); (case hl => with_reducible assumption)); intro v9 h9 tk9 hv9 hk9 F9 N9))
local macro_rules | `(tactic| walk_at "compareOp LtE") => `(tactic| (k_here; refine' le_D ?a ?b ?c ?d ?_; (case a => with_reducible assumption); (case b => with_reducible assumption); (case c => with_reducible assumption); (case d => with_reducible assumption)))
local macro_rules | `(tactic| walk_at "compareOp Eq") => `(tactic| (k_here; refine' eq_D ?a ?b ?c ?d ?_; (case a => with_reducible assumption); (case b => with_reducible assumption); (case c => with_reducible assumption); (case d => with_reducible assumption)))
section
local macro_rules | `(tactic| walk_at "compareOp Eq ref ref") => `(tactic| (k_here; k_dflt (refine' eq_nil ?N ?a ?b ?d ?k ?u ?_; (case N => k_asm); (case a => k_mem); (case b => k_mem); (case d => with_reducible assumption); (case k => with_reducible assumption); (case u => units_room))))
local macro_rules | `(tactic| walk_at "call builtin:list.append") => `(tactic| (k_here; k_dflt (refine' append_L ?F ?N ?U ?z ?_; (case F => k_asm); (case N => k_asm); (case U => k_upd); (case z => walk_at "size")); intro h9 F9 N9))
section
local macro_rules | `(tactic| k_all) => `(tactic| (tbn_letter; refine' allSub ?ah ?as; (case ah => with_reducible assumption); (case as => k_sub)))
local macro_rules | `(tactic| walk_at "call ref") => `(tactic| (k_here; (first | (with_reducible show wpAny _ _ (call (Value.ref 352) _ _) _ _ _) | (with_reducible show wpAny _ _ (call (Value.ref 357) _ _) _ _ _)); k_dflt (first
  | (refine' sorted_use ?B ?F ?X ?N ?T ?hk ?hd ?hu ?pk ?hR ?ok ?hRr ?_; (case B => k_asm); (case F => k_asm); (case X => k_asm); (case N => k_asm); (case T => k_asm); (case hk => first | exact rfl | assumption); (case pk => walk_at "pick"); (case hR => with_reducible assumption); (case ok => with_reducible assumption); (case hRr => k_all); (case hd => walk_at "room"); (case hu => (have hcL9 := cLine_is; walk_at "room")))
  | (refine' first_use ?B ?F ?X ?N ?T ?hk ?hd ?hu ?pk ?hR ?ok ?hRr ?_; (case B => k_asm); (case F => k_asm); (case X => k_asm); (case N => k_asm); (case T => k_asm); (case hk => first | exact rfl | assumption); (case pk => walk_at "pick"); (case hR => with_reducible assumption); (case ok => with_reducible assumption); (case hRr => k_all); (case hd => walk_at "room"); (case hu => (have hcL9 := cLine_is; walk_at "room")))); intro J9 vs9 k9 h9 tk9 hD9 ok9 hne9 F9 N9; (have hn9 := gnNe_of hne9); (simp only [GnNe] at hn9)))
section
local macro_rules | `(tactic| walk_at "inplaceOp Add ref") => `(tactic| (k_here; (with_reducible show wpAny _ _ (inplaceOp Operator.Add (Value.ref _) (Value.ref _)) _ _ _); k_dflt (refine' iadd_L ?F ?N ?b ?e ?U ?z ?_; (case F => k_asm); (case N => k_asm); (case b => k_mem); (case U => k_upd); (case e => (simp only [List.length_replicate]; omega)); (case z => (simp only [List.length_replicate]; omega))); intro h9 F9 N9))
local macro_rules | `(tactic| walk_at "binaryOp Mult ref int") => `(tactic| (k_here; (with_reducible show wpAny _ _ (binaryOp Operator.Mult (Value.ref _) (Value.int _ _)) _ _ _); k_dflt (refine' mul1_L ?F ?N ?l ?lo ?hi ?_; (case F => k_asm); (case N => k_asm); (case l => k_mem); (case lo => omega); (case hi => omega)); intro D' h' F' N' l1; (try k_lt l1)))
local macro_rules | `(tactic| walk_at "call type:list") => `(tactic| (k_here; (with_reducible show wpAny _ _ (call (Value.type _) [Value.ref _]) _ _ _); k_dflt (refine' copy_L ?F ?N ?b ?z ?_; (case F => k_asm); (case N => k_asm); (case b => k_mem); (case z => walk_at "size")); intro D' c' h' F' N' l1; (try k_lt l1)))
local macro_rules | `(tactic| walk_at "subscriptTail") => `(tactic| (k_here; (with_reducible show wpAny _ _ (subscriptTail _ _ (Value.ref _) (Value.int (-1) _)) _ _ _); k_dflt (refine' last_L ?N ?m ?z ?_ ?hs; (case N => k_asm); (case m => k_mem); (case z => (try simp only [List.length_cons, List.length_nil, List.length_append]); omega); (case hs => with_unfolding_all rfl))))
local macro_rules | `(tactic| walk_at "setItem ref int") => `(tactic| (k_here; (with_reducible show wpAny _ _ (setItem (Value.ref _) (Value.int (-1) _) _) _ _ _); k_dflt (refine' setlast_L ?F ?N ?U ?_; (case F => k_asm); (case N => k_asm); (case U => k_upd)); intro h9 F9 N9))
local macro_rules | `(tactic| walk_at "subscriptTail Name UnaryOp ref int") => `(tactic| (k_here; (with_reducible show wpAny _ _ (subscriptTail _ _ (Value.ref _) (Value.int (-1) _)) _ _ _); k_dflt (refine' last_L ?N ?m ?z ?_ ?hs; (case N => k_asm); (case m => k_mem); (case z => (try simp only [List.length_cons, List.length_nil, List.length_append]); omega); (case hs => with_unfolding_all rfl))))
section
local macro_rules | `(tactic| walk_at "call ref") => `(tactic| (k_here; (with_reducible show wpAny _ _ (call (Value.ref 241) _ _) _ _ _); k_dflt (refine' prep_use ?B ?F ?X ?N ?T ?hk ?hd ?hu ?_; (case B => k_asm); (case F => k_asm); (case X => k_asm); (case N => k_asm); (case T => k_asm); (case hk => first | exact rfl | assumption); (case hd => walk_at "room"); (case hu => (have hcL9 := cLine_is; walk_at "room"))); intro P9 h9 tk9 l9 F9 N9; (simp only [AllLt] at l9)))
local macro_rules | `(tactic| walk_at "enter_nest") => `(tactic| k_dflt (refine' code_nest ?k1 ?k2 ?k3 ?k4 ?k5 ?kA ?kF ?kK ?k6 ?k7 ?k8 ?k9 ?kB ?_ ?c2 ?c3 ?c4 ?c5; (case kA => exact rfl); (case kF => exact rfl); (case kK => first | assumption | exact rfl); (case k1 => k_asm); (case k2 => k_asm); (case k3 => k_asm); (case k4 => k_asm); (case k5 => k_asm); (case k6 => k_mem); (case k7 => exact codeRec_news (by k_asm) (by k_mem) (by assumption) (by assumption)); (case k8 => first | walk_at "room" | ktr_room); (case k9 => exact BindsTo.of_eq rfl); (case c5 => decide); (case kB => exact locs rfl); (case c2 => exact rfl); (case c3 => exact rfl); (case c4 => exact rfl); k_whole; intro g' L' h' FG' F' N' B' X' T'; (try dsimp only); (try k_lift B'); (try k_fold)))
section
local macro_rules | `(tactic| walk_at "call ref") => `(tactic| (k_here; k_dflt (refine' getter_use ?G ?B ?F ?X ?N ?T ?hk ?hd ?hu ?hs ?hv ?hk2 ?hl ?_; (case G => with_reducible assumption); (case B => k_asm); (case F => k_asm); (case X => k_asm); (case N => k_asm); (case T => k_asm); (case hk => first | exact rfl | assumption); (case hd => walk_at "room"); (case hu => (have hcL9 := cLine_is; walk_at "room")); (case hs => k_sub); (case hv => with_reducible assumption); (case hk2 => with_reducible assumption); (case hl => with_reducible assumption)); intro v9 h9 tk9 hv9 hk9 F9 N9))
local macro_rules | `(tactic| walk_at "callWith ref") => `(tactic| (k_here; k_dflt (refine' callWith_F ?k1 ?_; (case k1 => (refine' Getter.fn ?G ?N ?S; (case G => with_reducible assumption); (case N => k_asm); (case S => k_sub))); k_whole)))
local macro_rules | `(tactic| walk_at "FnAt") => `(tactic| (refine' Getter.fn ?G ?N ?S; (case G => with_reducible assumption); (case N => k_asm); (case S => k_sub)))
section
local macro_rules | `(tactic| walk_at "exec Assign cons ListComp") => `(tactic| (k_here; (with_reducible show wpAny _ _ (exec (PySem.Stmt.Assign [PySem.Expr.Name _ _] (PySem.Expr.ListComp _ [⟨PySem.Expr.Tuple [PySem.Expr.Name _ _, PySem.Expr.Name _ _] _ _, _, [], 0⟩] _ _) _) _) _ _ _); k_dflt (refine assignComp_JP (_F := by k_asm) (by rfl) (by rfl) (by with_unfolding_all rfl) (by with_unfolding_all rfl) (by decide) (by rfl) (by decide) (by rfl) (by rfl) (by decide) (by rfl) (by rfl) ?_)))
section
section
variable {w : World} {p : Program} {loose : List Str} {mean : ExcName → Option Value} {mg mb : Str → Option Value}
    {dp un : Nat} {gd : Option (List Code)} {cn : Str} {cs : Scope} {a : Addr} {ccd : Value} {cl : List (Str × Addr)} {outer : List Env} {A₀ : Around} {base h₀ : Heap} {L : Addr} {m : Str → Option Value} {s : Shared} {Q E : Value → Shared → Prop}
local macro_rules | `(tactic| walk_at "call ref") => `(tactic| ((first | (with_reducible show wpAny _ _ (call (Value.ref 289) _ _) _ _ _) | (with_reducible show wpAny _ _ (call (Value.ref 281) _ _) _ _ _) | (with_reducible show wpAny _ _ (call (Value.ref 340) _ _) _ _ _) | (with_reducible show wpAny _ _ (call (Value.ref 347) _ _) _ _ _) | (with_reducible show wpAny _ _ (call (Value.ref 335) _ _) _ _ _) | (with_reducible show wpAny _ _ (call (Value.ref 265) _ _) _ _ _) | (with_reducible show wpAny _ _ (call (Value.ref 257) _ _) _ _ _) | (with_reducible show wpAny _ _ (call (Value.ref 302) _ _) _ _ _) | (with_reducible show wpAny _ _ (call (Value.ref 362) _ _) _ _ _) | (with_reducible show wpAny _ _ (call (Value.ref 352) _ _) _ _ _) | (with_reducible show wpAny _ _ (call (Value.ref 357) _ _) _ _ _)); refine Hold.out ?_))
local macro_rules | `(tactic| walk_at "compareOp NotEq ref ref") => `(tactic| refine Hold.out ?_)
local macro_rules | `(tactic| walk_at "compareOp Eq ref ref") => `(tactic| refine Hold.out ?_)
local macro_rules | `(tactic| walk_at "exec If") => `(tactic| (with_reducible rename Halt _ => halt9; refine Hold.out ?_))
local macro_rules | `(tactic| walk_at "exec Assign cons ListComp") => `(tactic| (k_here; (with_reducible show wpAny _ _ (exec (PySem.Stmt.Assign [PySem.Expr.Name _ _] (PySem.Expr.ListComp (PySem.Expr.Name _ _) [⟨PySem.Expr.Name _ _, _, [], 0⟩] _ _) _) _) _ _ _); k_dflt (refine assignComp_G (_F := by k_asm) (by rfl) ?room (by rfl) (by with_unfolding_all rfl) (by with_unfolding_all rfl) (by decide) (by rfl) (by decide) (by rfl) (by rfl) (by rfl) (by rfl) ?_; (case room => walk_at "room"))))
local macro_rules | `(tactic| walk_at "compareOp Is") => `(tactic| ((with_reducible show wpAny _ _ (compareOp CmpOp.Is _ Value.none) _ _ _); refine' is_fill ?f ?_; (case f => with_reducible assumption); intro fb9 hfb9))
local macro_rules | `(tactic| walk_at "eval ListComp") => `(tactic| (k_here; (with_reducible show wpAny _ _ (eval (PySem.Expr.ListComp (PySem.Expr.Name _ _) [⟨PySem.Expr.Name _ _, PySem.Expr.Call _ _ _ _, [], 0⟩] _ _) _) _ _ _); k_dflt (refine listComp_G (_F := by k_asm) (by rfl) ?room (by with_unfolding_all rfl) (by decide) (by rfl) (by decide) (by rfl) (by rfl) ?_; (case room => walk_at "room"))))
local macro_rules | `(tactic| walk_at "subscriptTail Name Slice ref ref") => `(tactic| (k_here; (with_reducible show wpAny _ _ (subscriptTail _ (PySem.Expr.Slice none none (some _) _) (Value.ref _) (Value.ref _)) _ _ _); k_dflt (refine' rev_L ?F ?N ?l ?k ?_ ?s ?t ?z; (case F => k_asm); (case N => k_asm); (case l => k_mem); (case k => exact IsPart.int _ _); (case s => with_unfolding_all rfl); (case t => kmk_pure); (case z => walk_at "size")); intro D9 h9 F9 N9 l1; (try k_lt l1)))
local macro_rules | `(tactic| walk_at "subscriptTail") => `(tactic| (k_here; (with_reducible show wpAny _ _ (subscriptTail _ (PySem.Expr.Slice none none (some _) _) (Value.ref _) (Value.ref _)) _ _ _); k_dflt (refine' rev_L ?F ?N ?l ?k ?_ ?s ?t ?z; (case F => k_asm); (case N => k_asm); (case l => k_mem); (case k => exact IsPart.int _ _); (case s => with_unfolding_all rfl); (case t => kmk_pure); (case z => walk_at "size")); intro D9 h9 F9 N9 l1; (try k_lt l1)))
theorem rows_K {D S R : Addr} {q : Int} {t : Tok} {n1 n2 n : Nat} {vs rvs : List Value} {ds : List Dat} {kb : Bool} {rest : List (Addr × Obj)}
    (B : Below A₀ base outer h₀) (F : Fr h₀ L s.heap m) (X : (hd1.heap_39 w.params).In h₀) (N : News h₀ L s.heap ((D, drawsO q t S n1) :: (S, listOf vs.toArray n2) :: (R, listOf rvs.toArray n) :: (225, tabObj #[]) :: (233, tabObj #[]) :: rest)) (T : Top p loose mean mg mb h₀) (hk : cs.kind = .function)
    (hd : dp + 80 < recursionLimit) (hu : un + 6000 < cLine) (C1 : CodeHd h₀ 229 225) (C2 : CodeHd h₀ 235 233) (hgs : AllBare s.gens)
    (oD : ∀ p ∈ (S, listOf vs.toArray n2) :: (R, listOf rvs.toArray n) :: (225, tabObj #[]) :: (233, tabObj #[]) :: rest, p.1 ≠ D) (oS : ∀ p ∈ (R, listOf rvs.toArray n) :: (225, tabObj #[]) :: (233, tabObj #[]) :: rest, p.1 ≠ S)
    (oR : ∀ p ∈ (225, tabObj #[]) :: (233, tabObj #[]) :: rest, p.1 ≠ R) (o225 : ∀ p ∈ (233, tabObj #[]) :: rest, p.1 ≠ 225) (o233 : ∀ p ∈ rest, p.1 ≠ 233)
    (ok : DrawOk q vs) (hrs : DatAll [] rvs ds) (hlen : ds.length ≤ 9) (hit : ∀ d ∈ ds, ItemD kb d)
    (ret : ∀ q' t1 n1' n2' vs' ps ps' h' tk' gs', DrawOk q' vs' → AllBare gs' → Fr h₀ L h' m → News h₀ L h' ((D, drawsO q' t1 S n1') :: (S, listOf (List.toArray vs') n2') :: (R, listOf rvs.toArray n) :: (225, tabObj ps) :: (233, tabObj ps') :: rest) → Q (.bool true) { s with heap := h', toks := tk', gens := gs' }) :
    wpAny (model PySem.Challenge.rw_bb0048_01.row.prog w) (ktrTop dp un gd cn cs L a ccd cl outer) (call (.ref 374) [.ref D, .ref R]) Q E s := by
  have X₀ := X
  revert X; k_fill; intro X
  refine wpAny_call ?_
  walk_at "enter"
  have hDS : @Ne Nat D S := Ne.symm (oD _ (.head _))
  rename_i g' L' hA FG F0 N0 B' X' T'

  have oD1 : ∀ p ∈ (R, listOf rvs.toArray n) :: (225, tabObj #[]) :: (233, tabObj #[]) :: rest, p.1 ≠ D := fun p hp => oD p (.tail _ hp)
  have halt : Halt 0 := ⟨trivial⟩
  k_steps
  rename_i r1 q1 t1 u1 m1 k1 vs1 h1 tk1 ok1 rlo1 rhi1 l1 h2 lt2 r2 q2 t2 u2 m2 k2 vs2 h3 tk2 ok2 rlo2 rhi2 fill hfill D3 h4 lt4 h5 h6 h7 F7 N7
  obtain ⟨fd, hf, hfk⟩ : ∃ fd, ((fill = .none ∧ fd = .none) ∨ (∃ i t, fill = .int i t ∧ fd = .int i) ∨ (∃ x t, fill = .str x t ∧ fd = .str x)) ∧ kqdOk 7 fd = true := by
    have hm := List.mem_of_getElem? hfill
    simp only [List.mem_cons, List.not_mem_nil, or_false] at hm
    rcases hm with rfl | rfl | rfl
    · exact ⟨.none, .inl ⟨rfl, rfl⟩, rfl⟩
    · exact ⟨_, .inr (.inr ⟨_, _, rfl, rfl⟩), by decide +kernel⟩
    · exact ⟨_, .inr (.inl ⟨_, _, rfl, rfl⟩), rfl⟩
  generalize hmn : 1 + r1 = many at F7 N7 ⊢
  have hm0 : 1 ≤ many := by omega
  have hm1 : many ≤ 5 := by omega
  have hmk : 1 ≤ many.toNat := by omega
  have N8 : News g' L' h7 ((D, drawsO q2 t2 S m2) :: (S, listOf vs2.toArray k2) :: (R, listOf rvs.toArray n) :: (225, tabObj #[]) :: (233, tabObj #[]) :: rest) := cb_drop N7 (by k_sub)
  clear N7 hfill lt4 lt2 hmn rlo1 rhi1 rlo2 rhi2 ok1 N
  refine ⟨?_⟩
  refine batch_call B' F7 X' N8 T' rfl (by walk_at "room") (by have hcL9 := cLine_is; walk_at "room") (.tail _ (.tail _ (.head _))) hrs hlen hm0 hm1 hf ?_
  intro D1 ys ob h8 tk8 F8 N9 off1 hys
  have sOb : ∀ p ∈ ob, p ∈ (D1, lst ys) :: (ob ++ (D, drawsO q2 t2 S m2) :: (S, listOf vs2.toArray k2) :: (R, listOf rvs.toArray n) :: (225, tabObj #[]) :: (233, tabObj #[]) :: rest) := fun p hp => .tail _ (List.mem_append_left _ hp)
  have oOb : ∀ p ∈ ob, p.1 ≠ D1 := fun p hp => off1_ne off1 p (List.mem_append_left _ hp)
  have mB1 : (D1, lst ys) ∈ (D1, lst ys) :: (ob ++ (D, drawsO q2 t2 S m2) :: (S, listOf vs2.toArray k2) :: (R, listOf rvs.toArray n) :: (225, tabObj #[]) :: (233, tabObj #[]) :: rest) := .head _
  have s1 : ∀ p ∈ (D, drawsO q2 t2 S m2) :: (S, listOf vs2.toArray k2) :: (R, listOf rvs.toArray n) :: (225, tabObj #[]) :: (233, tabObj #[]) :: rest, p ∈ (D1, lst ys) :: (ob ++ (D, drawsO q2 t2 S m2) :: (S, listOf vs2.toArray k2) :: (R, listOf rvs.toArray n) :: (225, tabObj #[]) :: (233, tabObj #[]) :: rest) := fun p hp => .tail _ (List.mem_append_right _ hp)
  generalize (D1, lst ys) :: (ob ++ (D, drawsO q2 t2 S m2) :: (S, listOf vs2.toArray k2) :: (R, listOf rvs.toArray n) :: (225, tabObj #[]) :: (233, tabObj #[]) :: rest) = all1 at N9 sOb mB1 s1
  have mR1 := s1 _ (.tail _ (.tail _ (.head _)))
  clear off1 N8
  k_steps
  refine ⟨?_⟩
  refine slice_call B' F8 X' N9 T' rfl (by walk_at "room") (by have hcL9 := cLine_is; walk_at "room") mR1 hrs hlen hm0 hm1 hf ?_
  intro D2 zs oc h9 tk9 F9 N10 off2 hzs
  have sOc : ∀ p ∈ oc, p ∈ (D2, lst zs) :: (oc ++ all1) := fun p hp => .tail _ (List.mem_append_left _ hp)
  have oOc : ∀ p ∈ oc, p.1 ≠ D2 := fun p hp => off1_ne off2 p (List.mem_append_left _ hp)
  have mB2 : (D2, lst zs) ∈ (D2, lst zs) :: (oc ++ all1) := .head _
  have s2 : ∀ p ∈ all1, p ∈ (D2, lst zs) :: (oc ++ all1) := fun p hp => .tail _ (List.mem_append_right _ hp)
  generalize (D2, lst zs) :: (oc ++ all1) = all2 at N10 sOc mB2 s2
  replace sOb := fun p hp => s2 p (sOb p hp)
  replace mB1 := s2 _ mB1
  replace mR1 := s2 _ mR1
  replace s1 := fun p hp => s2 p (s1 p hp)
  clear off2 N9 F8 s2
  have hys2 := hys.mono sOb
  have hzs2 := hzs.mono sOc
  k_steps
  refine ⟨?_⟩
  refine join_L F9 all2 ?_ ?_
  · clear N10 F9
    intro h10 tk10 F10 N10
    k_steps
    refine ⟨?_⟩
    refine join_L F10 all2 ?_ ?_
    · clear N10 F10
      intro h11 tk11 F11 N11
      have N12 := cb_drop N11 s1
      clear hys hzs hys2 hzs2 mB1 mB2 sOb oOb sOc oOc N11 s1 mR1 hf hfk hmk hm0 hm1
      clear all1 all2
      k_steps
      rename_i r3 q3 t3 u3 m3 k3 vs3 h12 tk12 ok3 rlo3 rhi3 r4 q4 t4 u4 m4 k4 vs4 h13 tk13 ok4 rlo4 rhi4 D4 h14 lt4 h15 h16 h17 F17 N17
      generalize (r3 == 1) = b at F17 N17 ⊢
      generalize (r4 == 1) = b2 at F17 N17 ⊢
      have okb := ItemD.row hit hlen b
      have hr225 : ∀ p ∈ (D, drawsO q4 t4 S m4) :: (S, listOf vs4.toArray k4) :: (R, listOf rvs.toArray n) :: (233, tabObj #[]) :: rest, p.1 ≠ 225 := List.forall_mem_cons.mpr ⟨Ne.symm (oD (225, tabObj #[]) (.tail _ (.tail _ (.head _)))), List.forall_mem_cons.mpr ⟨Ne.symm (oS (225, tabObj #[]) (.tail _ (.head _))), List.forall_mem_cons.mpr ⟨Ne.symm (oR (225, tabObj #[]) (.head _)), o225⟩⟩⟩
      have N18 : News g' L' h17 ((225, tabObj #[]) :: (D, drawsO q4 t4 S m4) :: (S, listOf vs4.toArray k4) :: (R, listOf rvs.toArray n) :: (233, tabObj #[]) :: rest) := cb_drop N17 (by k_sub)
      clear N17 lt4 ok2 ok3 rlo3 rhi3 rlo4 rhi4
      refine ⟨?_⟩
      refine join_P F17 (fun s' m' => ∃ h' tk' own ps, s' = { s with heap := h', toks := tk', gens := ((s.gens.push .finished).push .finished).push .finished } ∧ Fr g' L' h' m' ∧ News g' L' h' (own ++ (225, tabObj ps) :: (D, drawsO q4 t4 S m4) :: (S, listOf vs4.toArray k4) :: (R, listOf rvs.toArray n) :: (233, tabObj #[]) :: rest) ∧ TabHit 97 4 getQual ps own ∧ ∀ q ∈ own, AllLt q.1 ((225, tabObj ps) :: (D, drawsO q4 t4 S m4) :: (S, listOf vs4.toArray k4) :: (R, listOf rvs.toArray n) :: (233, tabObj #[]) :: rest)) ?_ ?_
      · clear N18 F17
        rintro s' ⟨h18, tk18, own, ps, rfl, F18, N18, hit5, hown⟩
        have N19 : News g' L' h18 ((233, tabObj #[]) :: (own ++ (225, tabObj ps) :: (D, drawsO q4 t4 S m4) :: (S, listOf vs4.toArray k4) :: (R, listOf rvs.toArray n) :: rest)) := cb_drop N18 (subCons (List.mem_append_right _ (.tail _ (.tail _ (.tail _ (.tail _ (.head _)))))) (subMid subAppL fun p hp => List.mem_append_right _ (subCons (.head _) (subCons (.tail _ (.head _)) (subCons (.tail _ (.tail _ (.head _))) (subCons (.tail _ (.tail _ (.tail _ (.head _)))) fun p hp => .tail _ (.tail _ (.tail _ (.tail _ (.tail _ hp))))))) p hp)))
        have hT3 : ∀ p ∈ (225, tabObj ps) :: (D, drawsO q4 t4 S m4) :: (S, listOf vs4.toArray k4) :: (R, listOf rvs.toArray n) :: rest, p.1 ≠ 233 := List.forall_mem_cons.mpr ⟨Ne.symm (o225 (233, tabObj #[]) (.head _)), List.forall_mem_cons.mpr ⟨Ne.symm (oD (233, tabObj #[]) (.tail _ (.tail _ (.tail _ (.head _))))), List.forall_mem_cons.mpr ⟨Ne.symm (oS (233, tabObj #[]) (.tail _ (.tail _ (.head _)))), List.forall_mem_cons.mpr ⟨Ne.symm (oR (233, tabObj #[]) (.tail _ (.head _))), o233⟩⟩⟩⟩
        have hr233 : ∀ p ∈ own ++ (225, tabObj ps) :: (D, drawsO q4 t4 S m4) :: (S, listOf vs4.toArray k4) :: (R, listOf rvs.toArray n) :: rest, p.1 ≠ 233 := fun p hp => (List.mem_append.mp hp).elim (fun hp => Nat.ne_of_gt (hown p hp).2.2.2.2.1) (hT3 p)
        clear N18
        k_steps
        refine ⟨?_⟩
        refine join_P F18 (fun s' m' => ∃ h' tk' ps', s' = { s with heap := h', toks := tk', gens := ((s.gens.push .finished).push .finished).push .finished } ∧ Fr g' L' h' m' ∧ News g' L' h' ((233, tabObj ps') :: (own ++ (225, tabObj ps) :: (D, drawsO q4 t4 S m4) :: (S, listOf vs4.toArray k4) :: (R, listOf rvs.toArray n) :: rest))) ?_ ?_
        · clear N19 F18
          rintro s' ⟨h19, tk19, ps', rfl, F19, N19⟩
          k_steps
          obtain ⟨c', oc, cvs, tc, rfl, hoc, dd1, dd2⟩ := hit5
          refine ⟨?_⟩
          have N20 : News g' L' h19 ((225, tabObj #[rawInt 97, rawInt 4, .ref c']) :: (own ++ (D, drawsO q4 t4 S m4) :: (S, listOf vs4.toArray k4) :: (R, listOf rvs.toArray n) :: (233, tabObj ps') :: rest)) := cb_drop N19 (subCons (.tail _ (List.mem_append_right _ (.head _))) (subMid (fun p hp => .tail _ (List.mem_append_left _ hp)) (subCons (.tail _ (List.mem_append_right _ (.tail _ (.head _)))) (subCons (.tail _ (List.mem_append_right _ (.tail _ (.tail _ (.head _))))) (subCons (.tail _ (List.mem_append_right _ (.tail _ (.tail _ (.tail _ (.head _)))))) (subCons (.head _) fun p hp => .tail _ (List.mem_append_right _ (.tail _ (.tail _ (.tail _ (.tail _ hp))))))))))) 
          have hrT : ∀ p ∈ (D, drawsO q4 t4 S m4) :: (S, listOf vs4.toArray k4) :: (R, listOf rvs.toArray n) :: (233, tabObj ps') :: rest, p.1 ≠ 225 := List.forall_mem_cons.mpr ⟨hr225 _ (.head _), List.forall_mem_cons.mpr ⟨hr225 _ (.tail _ (.head _)), List.forall_mem_cons.mpr ⟨hr225 _ (.tail _ (.tail _ (.head _))), List.forall_mem_cons.mpr ⟨hr225 (233, tabObj #[]) (.tail _ (.tail _ (.tail _ (.head _)))), fun p hp => hr225 p (.tail _ (.tail _ (.tail _ (.tail _ hp))))⟩⟩⟩⟩
          have hr9 : ∀ p ∈ own ++ (D, drawsO q4 t4 S m4) :: (S, listOf vs4.toArray k4) :: (R, listOf rvs.toArray n) :: (233, tabObj ps') :: rest, p.1 ≠ 225 := fun p hp => (List.mem_append.mp hp).elim (fun hp => Nat.ne_of_gt (hown p hp).1) (hrT p)
          refine syncgroup_use (List.mem_append_left _ hoc) dd1 dd2 B' F19 X' N20 T' rfl (by walk_at "room") (by have hcL9 := cLine_is; walk_at "room") (CodeHd.keeps C1 FG.keep) (List.mem_append_right _ (.tail _ (.tail _ (.head _)))) hrs okb hr9 ?_
          intro J gvs outs kg h20 tk20 hgd _ _ F20 N21
          rw [groups_eq okb] at hgd
          clear N19 N20 F19 hr9 hrT
          k_steps
          refine ⟨?_⟩
          obtain ⟨rr, Nr, oRr, sR, _⟩ := carve (R := R) (o := listOf rvs.toArray n) N21 (List.mem_cons_of_mem _ (List.mem_append_right _ (List.mem_cons_of_mem _ (List.mem_append_right _ (.tail _ (.tail _ (.head _)))))))
          refine (groups_K w rr R rvs n ds b kb hrs okb oRr).use B' F20 X' Nr T' rfl (by walk_at "room") (by have hcL9 := cLine_is; walk_at "room") ?_
          rintro v news' h21 tk21 ⟨J2, gs2, k5, tl, rfl, rfl, hg2⟩ F21 N22
          clear Nr N21 F20
          k_steps
          refine ⟨?_⟩
          refine eq_same N22 (.tail _ (List.mem_append_right _ (sR _ (.head _)))) (.head _) hgd (fun p hp => .tail _ (List.mem_append_right _ (sR p (.tail _ (List.mem_append_left _ hp))))) hg2 (fun p hp => .tail _ (List.mem_append_left _ hp)) (groups_ok okb) (by units_room) rfl ?_
          have N23 : News g' L' h21 ((D, drawsO q4 t4 S m4) :: (S, listOf vs4.toArray k4) :: (R, listOf rvs.toArray n) :: (225, tabObj #[rawInt 97, rawInt 4, .ref c']) :: (233, tabObj ps') :: rest) := cb_drop N22 (by
            have z : ∀ p ∈ (J, listOf gvs.toArray kg) :: (outs ++ (225, tabObj #[rawInt 97, rawInt 4, .ref c']) :: (own ++ (D, drawsO q4 t4 S m4) :: (S, listOf vs4.toArray k4) :: (R, listOf rvs.toArray n) :: (233, tabObj ps') :: rest)), p ∈ (J2, listOf gs2.toArray k5) :: (tl ++ (R, listOf rvs.toArray n) :: rr) := fun p hp => .tail _ (List.mem_append_right _ (sR p hp))
            have z2 : ∀ p ∈ (D, drawsO q4 t4 S m4) :: (S, listOf vs4.toArray k4) :: (R, listOf rvs.toArray n) :: (233, tabObj ps') :: rest, p ∈ (J2, listOf gs2.toArray k5) :: (tl ++ (R, listOf rvs.toArray n) :: rr) := fun p hp => z p (.tail _ (List.mem_append_right _ (.tail _ (List.mem_append_right _ hp))))
            exact subCons (z2 _ (.head _)) (subCons (z2 _ (.tail _ (.head _))) (subCons (z2 _ (.tail _ (.tail _ (.head _)))) (subCons (z _ (.tail _ (List.mem_append_right _ (.head _)))) (subCons (z2 _ (.tail _ (.tail _ (.tail _ (.head _))))) fun p hp => z2 p (.tail _ (.tail _ (.tail _ (.tail _ hp)))))))))
          have hbar := ((hgs.push (g := .finished) rfl).push (g := .finished) rfl).push (g := .finished) rfl
          clear N22
          k_steps
          exact ret _ _ _ _ _ _ _ _ _ _ ok4 hbar (by with_reducible assumption) (by with_reducible assumption)
        · intro Q' hQ'
          (rename Halt _ => hal; clear hal)
          have mR : (R, listOf rvs.toArray n) ∈ own ++ (225, tabObj ps) :: (D, drawsO q4 t4 S m4) :: (S, listOf vs4.toArray k4) :: (R, listOf rvs.toArray n) :: rest := List.mem_append_right _ (.tail _ (.tail _ (.tail _ (.head _))))
          generalize own ++ (225, tabObj ps) :: (D, drawsO q4 t4 S m4) :: (S, listOf vs4.toArray k4) :: (R, listOf rvs.toArray n) :: rest = all3 at N19 hr233 mR hQ'
          k_steps
          refine ⟨?_⟩
          refine dosort_use B' F18 X' N19 T' rfl (by walk_at "room") (by have hcL9 := cLine_is; walk_at "room") (CodeHd.keeps C2 FG.keep) mR hrs okb hr233 ?_
          intro J out ko ps' h20 tk20 hout lJ F20 N20
          obtain ⟨rr, Nr, oRr, sR, _⟩ := carve (R := R) (o := listOf rvs.toArray n) N20 (.tail _ (.tail _ mR))
          have hQ2 : ∀ h' tk', Fr g' L' h' _ → News g' L' h' ((R, listOf rvs.toArray n) :: rr) → Q' .next { s with heap := h', toks := tk', gens := ((s.gens.push .finished).push .finished).push .finished } := fun h' tk' F9 N9 => hQ' _ ⟨h', tk', ps', rfl, F9, cb_drop N9 fun p hp => sR p (.tail _ hp)⟩
          have mJ := sR _ (.head _)
          have hrl := hrs.length
          clear N20 N19 F18 lJ hQ' sR mR
          k_steps
          · rename_i hb2 D6 h21 F21 N21 l21
            have hD6 : ∀ p ∈ (R, listOf rvs.toArray n) :: rr, p.1 ≠ D6 := List.forall_mem_cons.mpr ⟨Nat.ne_of_lt l21.1, allLt_ne l21.2⟩
            refine ⟨?_⟩
            refine sorted_use B' F21 X' N21 T' rfl (by walk_at "room") (by have hcL9 := cLine_is; walk_at "room") Pick.head (datRev hrs) (okb.sub (fun e he => List.mem_reverse.mp he) (by simp)) hD6 ?_
            intro J3 ss k6 h22 tk22 hss okS _ F22 N22
            dsimp only at F22 N22 ⊢
            have hsl : ss.length ≤ 1000 := by have z1 := hss.length; have z2 := okS.2.2.2; omega
            clear N21 F21 hD6
            k_steps
            rename_i D7 h23 F23 N23 l23
            refine ⟨?_⟩
            refine ne_same N23 (.tail _ (.tail _ (.tail _ mJ))) (.head _) hout subNil (datRev hss) subNil (by rw [hb2]; exact fun d hd => okS.2.2.1 d (List.mem_reverse.mp hd)) (by units_room) (by rw [hb2]; rfl) ?_
            have N24 := cb_drop N23 (fun p hp => .tail _ (.tail _ (.tail _ hp)))
            clear N23
            k_steps
            exact hQ2 _ _ F23 N24
          · rename_i hb2
            refine ⟨?_⟩
            refine sorted_use B' F20 X' Nr T' rfl (by walk_at "room") (by have hcL9 := cLine_is; walk_at "room") Pick.head hrs okb oRr ?_
            intro J3 ss k6 h22 tk22 hss okS _ F22 N22
            k_steps
            refine ⟨?_⟩
            refine ne_same N22 (.tail _ mJ) (.head _) hout subNil hss subNil (by rw [hb2]; exact okS.2.2.1) (by units_room) (by rw [hb2]; rfl) ?_
            have N23 := cb_drop N22 (fun p hp => .tail _ hp)
            clear N22
            k_steps
            exact hQ2 _ _ F22 N23
      · intro Q' hQ'
        (rename Halt _ => hal; clear hal)
        k_steps
        refine ⟨?_⟩
        refine unique_call B' F17 X' N18 T' rfl (by walk_at "room") (by have hcL9 := cLine_is; walk_at "room") (CodeHd.keeps C1 FG.keep) (.tail _ (.tail _ (.head _))) hrs okb hr225 ?_
        intro D5 us own ps h18 tk18 F18 N19 off5 hit5 hown hus
        k_steps
        refine ⟨?_⟩
        obtain ⟨rr, Nr, oRr, sR, _⟩ := carve (R := R) (o := listOf rvs.toArray n) N19 (List.mem_cons_of_mem _ (List.mem_append_right _ (.tail _ (.tail _ (.tail _ (.head _))))))
        refine first_use B' F18 X' Nr T' rfl (by walk_at "room") (by have hcL9 := cLine_is; walk_at "room") Pick.head hrs okb oRr ?_
        intro J fs kf h19 tk19 hfs _ _ F19 N20
        k_steps
        refine ⟨?_⟩
        refine ne_same N20 (.tail _ (sR _ (.head _))) (.head _) hus subNil hfs subNil okb.first.2.2.1 (by units_room) rfl ?_
        have N21 := cb_drop N20 (fun p hp => .tail _ (sR p (.tail _ hp)))
        clear N20 N19 Nr
        k_steps
        exact hQ' _ ⟨_, _, own, ps, rfl, F19, N21, hit5, hown⟩
    · intro Q' hQ'
      (rename Halt _ => hal; clear hal)
      k_steps
      · rename_i fb hfb hfbt
        refine ⟨?_⟩
        obtain rfl := hfb hfbt
        obtain ⟨rr, Nr, oRr, sR, _⟩ := carve N10 mB1
        have hob : ∀ p ∈ ob, p ∈ rr := fun p hp => (List.mem_cons.mp (sR p (sOb p hp))).resolve_left fun e => oOb p hp (by rw [e])
        refine (joined_K w rr D1 ys ys.length (batchD many.toNat .none ds) (hys.mono hob) oRr (by rw [batchD_flat hmk]; omega)).use B' F10 X' Nr T' rfl (by walk_at "room") (by have hcL9 := cLine_is; walk_at "room") ?_
        rintro v news' h11 tk11 ⟨J, js, kj, rfl, rfl, _, _, hJ⟩ F11 N11
        rw [batchD_flat hmk] at hJ
        clear Nr N10 F10 hob
        k_steps
        refine ⟨?_⟩
        refine ne_same N11 (.head _) (.tail _ (sR _ mR1)) hJ (fun p hp => .tail _ (.tail _ hp)) hrs subNil (fun d hd => (hit d hd).ok 8) (by units_room) rfl ?_
        have N12 : News g' L' h11 all2 := cb_drop N11 fun p hp => .tail _ (sR p hp)
        clear N11 sR oRr hJ
        k_steps
        refine ⟨?_⟩
        obtain ⟨rr, Nr, oRr, sR, _⟩ := carve N12 mB2
        have hoc : ∀ p ∈ oc, p ∈ rr := fun p hp => (List.mem_cons.mp (sR p (sOc p hp))).resolve_left fun e => oOc p hp (by rw [e])
        refine (joined_K w rr D2 zs zs.length (sliceD many.toNat .none ds) (hzs.mono hoc) oRr (by rw [sliceD_flat hmk]; omega)).use B' F11 X' Nr T' rfl (by walk_at "room") (by have hcL9 := cLine_is; walk_at "room") ?_
        rintro v news' h12 tk12 ⟨J, js, kj, rfl, rfl, _, _, hJ⟩ F12 N13
        rw [sliceD_flat hmk] at hJ
        clear Nr N12 F11 hoc
        k_steps
        refine ⟨?_⟩
        refine ne_same N13 (.head _) (.tail _ (sR _ mR1)) hJ (fun p hp => .tail _ (.tail _ hp)) hrs subNil (fun d hd => (hit d hd).ok 8) (by units_room) rfl ?_
        have N14 : News g' L' h12 all2 := cb_drop N13 fun p hp => .tail _ (sR p hp)
        clear N13 sR oRr hJ
        k_steps
        exact hQ' _ _ F12 N14
      · exact hQ' _ _ F10 N10
  · intro Q' hQ'
    (rename Halt _ => hal; clear hal)
    k_steps
    refine ⟨?_⟩
    obtain ⟨rr, Nr, oRr, sR, _⟩ := carve N10 mR1
    refine (batches_K w rr R rvs n ds many _ fill fd hrs (fun d hd => (hit d hd).ok 7) hlen hm0 hm1 oRr hf).use B' F9 X' Nr T' rfl (by walk_at "room") (by have hcL9 := cLine_is; walk_at "room") ?_
    rintro v news' h10 tk10 ⟨J, bs, kb2, ou, rfl, rfl, _, _, hJ⟩ F10 N11
    clear Nr N10 F9
    k_steps
    refine ⟨?_⟩
    refine ne_same N11 (List.mem_append_right _ (sR _ mB1)) (List.mem_append_left _ (.head _)) hys2 (fun p hp => List.mem_append_right _ (sR p hp)) hJ (fun p hp => List.mem_append_left _ (.tail _ hp)) (batchD_ok hmk (fun d hd => (hit d hd).ok 7) hfk) (by units_room) (by rw [batchD_eq hmk]) ?_
    have N12 : News g' L' h10 all2 := cb_drop N11 fun p hp => List.mem_append_right _ (sR p hp)
    clear N11 sR oRr hJ
    k_steps
    refine ⟨?_⟩
    obtain ⟨rr, Nr, oRr, sR, _⟩ := carve N12 mR1
    refine (slices_K w rr R rvs n ds many _ fill fd hrs hlen hm0 hm1 oRr hf).use B' F10 X' Nr T' rfl (by walk_at "room") (by have hcL9 := cLine_is; walk_at "room") ?_
    rintro v news' h11 tk11 ⟨J, bs, kb2, ou, rfl, rfl, _, _, hJ⟩ F11 N13
    clear Nr N12 F10
    k_steps
    refine ⟨?_⟩
    refine ne_same N13 (List.mem_append_right _ (sR _ mB2)) (List.mem_append_left _ (.head _)) hzs2 (fun p hp => List.mem_append_right _ (sR p hp)) hJ (fun p hp => List.mem_append_left _ (.tail _ hp)) (sliceD_ok (fun d hd => (hit d hd).ok 7) hfk) (by units_room) rfl ?_
    have N14 : News g' L' h11 all2 := cb_drop N13 fun p hp => List.mem_append_right _ (sR p hp)
    have hzl : zs.length = many.toNat := by have h9 := hzs.length; rwa [List.length_map, sliceD_len] at h9
    clear N13 sR oRr hJ
    k_steps
    · exfalso; omega
    · exact hQ' _ _ F11 N14
end
end
section
def pairsOk (c : List (Str × Str)) : Prop := c.length ≤ 20 ∧ ∀ p ∈ c, p.1.length ≤ 100 ∧ p.2.length ≤ 100
def keyP (b v : Bool) (p : Str × Str) : Dat := kindD b (.str (if v then p.2 else p.1))
theorem keyP_eq (b v : Bool) (p : Str × Str) : kindD b (fldD v (pairD p)) = keyP b v p := by cases v <;> rfl
theorem keyP_kb (b v : Bool) (p : Str × Str) : KB true (keyP b v p) := (KB.str _).kind b
/-- the closure at f, its objects own: it hands back the kind of the pair's field -/
def GetterP (w : World) (f : Addr) (own : List (Addr × Obj)) (b v : Bool) : Prop := (∃ fo, (f, fo) ∈ own ∧ ∃ fd, fo.data = .func fd) ∧
  ∀ (news : List (Addr × Obj)) (x : Value) (p : Str × Str), (∀ p ∈ own, p ∈ news) → DatIn news x (pairD p) → p.1.length ≤ 100 → p.2.length ≤ 100 → Says w f 10 600 [x] news (fun news' v' => news' = news ∧ DatIn [] v' (keyP b v p))
theorem dat_getD' {l : List (Addr × Obj)} {vs : List Value} {ds : List Dat} (h : DatAll l vs ds) {i : Nat} {v : Value} (hv : vs[i]? = some v) (d0 : Dat) : DatIn l v (ds.getD i d0) ∧ ds.getD i d0 ∈ ds := by
  obtain ⟨d, h1, h2⟩ := datAt h hv
  have e : ds.getD i d0 = d := by rw [List.getD_eq_getElem?_getD, h1]; rfl
  rw [e]
  exact ⟨h2, List.mem_of_getElem? h1⟩
theorem getD_map {α β : Type} (g : α → β) (l : List α) (i : Nat) (a : α) : (l.map g).getD i (g a) = g (l.getD i a) := by
  simp only [List.getD_eq_getElem?_getD, List.getElem?_map]
  cases l[i]? <;> rfl
abbrev p0 : Str × Str := (Str.ofString "", Str.ofString "")
abbrev gP (b v : Bool) (c : List (Str × Str)) (i : Nat) : Dat := kindD b (fldD v ((c.map pairD).getD i (pairD p0)))
theorem gP_eq (b v : Bool) (c : List (Str × Str)) (i : Nat) : gP b v c i = keyP b v (c.getD i p0) := by
  unfold gP; rw [getD_map, keyP_eq]
theorem gP_kb (b v : Bool) (c : List (Str × Str)) (i : Nat) : KB true (gP b v c i) := by rw [gP_eq]; exact keyP_kb ..
def KP (b v : Bool) (c : List (Str × Str)) (i : Nat) (keys : List Value) (made : List (Addr × Obj)) : Prop :=
  made = [] ∧ keys.length = i ∧ ∀ j, j < i → ∃ x, keys[j]? = some x ∧ DatIn [] x (gP b v c j)
section
variable {w : World} {p : Program} {loose : List Str} {mean : ExcName → Option Value} {mg mb : Str → Option Value}
    {dp un : Nat} {gd : Option (List Code)} {cn : Str} {cs : Scope} {a : Addr} {ccd : Value} {cl : List (Str × Addr)} {outer : List Env} {A₀ : Around} {base h₀ : Heap} {L : Addr} {m : Str → Option Value} {s : Shared} {Q E : Value → Shared → Prop}
theorem keyOk_P {f : Addr} {own news : List (Addr × Obj)} {b v : Bool} {vs : List Value} {c : List (Str × Str)} (G : GetterP w f own b v) (hsub : ∀ p ∈ own, p ∈ news)
    (B : Below A₀ base outer h₀) (X : (hd1.heap_39 w.params).In h₀) (T : Top p loose mean mg mb h₀) (hk : cs.kind = .function) (hd : dp + 20 < recursionLimit) (hu : un + 2000 < cLine)
    (ok : pairsOk c) (tups : List (Addr × Obj)) (hrs : DatAll tups vs (c.map pairD)) :
    KeyOk PySem.Challenge.rw_bb0048_01.row.prog w (ktrTop dp un gd cn cs L a ccd cl outer).in1.in1 h₀ L m (tups ++ news) s (.ref f) vs (fun i j => ltD (gP b v c i) (gP b v c j)) (.type "str") (KP b v c) where
  weak := ltD_weak fun i => gP_kb b v c i
  none := ⟨rfl, rfl, fun j h => absurd h (Nat.not_lt_zero _)⟩
  turn := by
    intro i x h tk made keys own' hv hkl hK hmd F N
    obtain ⟨rfl, _, hK⟩ := hK
    obtain ⟨hvd, hmem⟩ := dat_getD' hrs hv (pairD p0)
    rw [getD_map] at hvd hmem
    obtain ⟨q, hq, e⟩ := List.mem_map.mp hmem
    have hq2 := ok.2 q hq
    rw [← e] at hvd
    have eq : keyP b v q = gP b v c i := by rw [gP, getD_map, ← e, keyP_eq]
    refine G.2 (tups ++ news ++ own') x q (fun p hp => List.mem_append_left _ (List.mem_append_right _ (hsub p hp))) (hvd.mono fun p hp => List.mem_append_left _ (List.mem_append_left _ hp)) hq2.1 hq2.2 p loose mean mg mb dp (un + 1 + 1) gd cn cs a ccd cl outer A₀ base h₀ L m { s with heap := h, toks := tk } _ _ B F X N T hk (by omega) (by omega) ?_
    rintro v' news' h' tk' ⟨rfl, hv2⟩ F' N'
    rw [eq] at hv2
    refine ⟨h', tk', [], rfl, F', N', (fun _ h => nomatch h), rfl, by rw [List.length_append, List.length_singleton, hkl], fun j hj => ?_⟩
    rcases Nat.lt_or_ge j i with hj' | hj'
    · obtain ⟨v'', e, hd'⟩ := hK j hj'
      exact ⟨v'', by rw [List.getElem?_append_left (by omega)]; exact e, hd'⟩
    · obtain rfl : j = i := by omega
      exact ⟨v', by rw [List.getElem?_append_right (by omega), hkl, Nat.sub_self]; rfl, hv2⟩
  kind := by
    intro keys made h own' hK N k hk'
    obtain ⟨j, hj, rfl⟩ := List.getElem_of_mem hk'
    obtain ⟨x, e, hv⟩ := hK.2.2 j (by rw [← hK.2.1]; exact hj)
    have e' : keys[j] = x := by rw [List.getElem?_eq_getElem hj] at e; exact Option.some.inj e
    rw [e']
    exact typeOf_D hv (gP_kb b v c j)
  less := by
    intro keys made own' i j h tk C hkl hK hi hj F N hC
    obtain ⟨x, e1, hx⟩ := hK.2.2 i hi
    obtain ⟨y, e2, hy⟩ := hK.2.2 j hj
    have g1 : keys.getD i Value.none = x := by rw [List.getD_eq_getElem?_getD, e1]; rfl
    have g2 : keys.getD j Value.none = y := by rw [List.getD_eq_getElem?_getD, e2]; rfl
    rw [g1, g2]
    exact keyLt_D (s := { s with heap := h, toks := tk }) hx hy (gP_kb b v c i) (gP_kb b v c j) (hC h tk F N)
end
end
section
section
variable {w : World} {p : Program} {loose : List Str} {mean : ExcName → Option Value} {mg mb : Str → Option Value}
    {dp un : Nat} {gd : Option (List Code)} {cn : Str} {cs : Scope} {a : Addr} {ccd : Value} {cl : List (Str × Addr)} {outer : List Env} {A₀ : Around} {base h₀ : Heap} {L : Addr} {m : Str → Option Value} {s : Shared} {Q E : Value → Shared → Prop}
theorem sortedP_use {f vw d : Addr} {od : Obj} {kvs : List (Str × Value)} {c : List (Str × Str)} {own news : List (Addr × Obj)} {b v turned : Bool} (N : News h₀ L s.heap news) (hsub : ∀ p ∈ own, p ∈ news) (G : GetterP w f own b v)
    (B : Below A₀ base outer h₀) (F : Fr h₀ L s.heap m) (X : (hd1.heap_39 w.params).In h₀) (T : Top p loose mean mg mb h₀) (hk : cs.kind = .function) (hd : dp + 20 < recursionLimit) (hu : un + 2000 < cLine)
    (hvw : (vw, itemsView d) ∈ news) (hm : (d, od) ∈ news) (hod : od.IsDictOf (PySem.strKind PySem.Challenge.rw_bb0048_01.row.prog w) kvs) (hrel : DictRel kvs c) (ok : pairsOk c)
    (ret : ∀ J out k tups h' tk', DatAll tups out (outG turned (fun p => kindD b (fldD v p)) (c.map pairD)) → Fr h₀ L h' m → News h₀ L h' ((J, listOf (List.toArray out) k) :: (tups ++ news)) → Q (.ref J) { s with heap := h', toks := tk' }) :
    wpAny (model PySem.Challenge.rw_bb0048_01.row.prog w) (ktrTop dp un gd cn cs L a ccd cl outer) (call (.builtin "sorted") [.ref vw] [(Str.ofString "key", .ref f), (Str.ofString "reverse", .bool turned)]) Q E s := by
  have h20 := ok.1
  refine ksg_items (K := fun _ _ => KP b v c) rfl F N hvw hm hod hrel (by omega) (ksk_s2 _ _ _) (fun x => ksk_l2 _ _ _) (fun x => ksk_t2 f x turned) (fun tups vs hrs => keyOk_P G hsub B X T hk hd hu ok tups hrs) rfl rfl ?_
  intro D h' tk out n tups vs hrs F' N' l1 l2 so
  exact ret D out n tups h' tk (sortOut_dat (d0 := pairD p0) hrs (fun i => gP_kb b v c i) so) F' N'
end
section
variable {w : World} {p : Program} {loose : List Str} {mean : ExcName → Option Value} {mg mb : Str → Option Value}
    {dp un : Nat} {gd : Option (List Code)} {cn : Str} {cs : Scope} {a : Addr} {ccd : Value} {cl : List (Str × Addr)} {outer : List Env} {A₀ : Around} {base h₀ : Heap} {L : Addr} {m : Str → Option Value} {s : Shared} {Q E : Value → Shared → Prop}
local macro_rules | `(tactic| walk_at "call builtin:sorted") => `(tactic| refine Hold.out ?_)
local macro_rules | `(tactic| walk_at "getMethod ref") => `(tactic| (k_here; (with_reducible show wpAny _ _ (getMethod (Value.ref _) (Str.ofString "items") _) _ _ _); (rename News _ _ _ _ => lN'); refine kdl_method (knd := PySem.strKind _ _) PySem.F.slot_dict_items PySem.F.type_dict_items lN' (by k_mem) (by with_reducible assumption) ?_))
local macro_rules | `(tactic| walk_at "call builtin:dict.items") => `(tactic| (k_here; (with_reducible show wpAny _ _ (call (Value.builtin "dict.items") [Value.ref _]) _ _ _); refine' kdx_view (knd := PySem.strKind _ _) ?F ?N ?m ?d ?lo ?_; (case F => k_asm); (case N => k_asm); (case m => k_mem); (case d => with_reducible assumption); (case lo => with_reducible assumption); intro D' h' F' N' l1; (try k_lt l1)))
local macro_rules | `(tactic| walk_at "call ref") => `(tactic| (k_here; (with_reducible show wpAny _ _ (call (Value.ref 222) _ _) _ _ _); k_dflt (refine' ignore_use ?B ?F ?X ?N ?T ?hk ?hd ?hu ?hv ?hk2 ?hl ?_; (case B => k_asm); (case F => k_asm); (case X => k_asm); (case N => k_asm); (case T => k_asm); (case hk => first | exact rfl | assumption); (case hd => walk_at "room"); (case hu => (have hcL9 := cLine_is; walk_at "room")); (case hv => with_reducible assumption); (case hk2 => with_reducible assumption); (case hl => with_reducible assumption)); intro v9 h9 tk9 hv9 F9 N9))
theorem dictsort_use {d : Addr} {od : Obj} {kvs : List (Str × Value)} {c : List (Str × Str)} {b v turned : Bool} {tk : Tok} {rest : List (Addr × Obj)} (B : Below A₀ base outer h₀) (F : Fr h₀ L s.heap m) (X : (hd1.heap_39 w.params).In h₀) (N : News h₀ L s.heap ((244, tabObj #[]) :: rest)) (T : Top p loose mean mg mb h₀) (hk : cs.kind = .function) (hd : dp + 40 < recursionLimit) (hu : un + 3000 < cLine) (C : CodeHd h₀ 248 244)
    (hm : (d, od) ∈ rest) (hod : od.IsDictOf (PySem.strKind PySem.Challenge.rw_bb0048_01.row.prog w) kvs) (lo : (d == sysModules) = false) (hrel : DictRel kvs c) (ok : pairsOk c) (hr : ∀ p ∈ rest, p.1 ≠ 244)
    (ret : ∀ J out k ps tups h' tk', DatAll tups out (outG turned (fun p => kindD b (fldD v p)) (c.map pairD)) → Fr h₀ L h' m → News h₀ L h' ((J, listOf (List.toArray out) k) :: (tups ++ (244, tabObj ps) :: rest)) → Q (.ref J) { s with heap := h', toks := tk' }) :
    wpAny (model PySem.Challenge.rw_bb0048_01.row.prog w) (ktrTop dp un gd cn cs L a ccd cl outer) (call (.ref 249) [.ref d, .bool b, .str (if v then Str.ofString "value" else Str.ofString "key") tk, .bool turned]) Q E s := by
  have X₀ := X
  revert X; k_fill; intro X
  refine wpAny_call ?_
  walk_at "enter"
  rename_i g' L' hA tkA FG F0 B' X' T' la lb lc ld c1 c2 dc1 dc2 N0
  have C' := CodeHd.keeps C FG.keep
  cases v
  · simp only [Bool.false_eq_true, if_false] at *
    k_steps
    rename_i tk2 h2 o1 d1 f c' oc vs t ct dc h3 tk3 dd1 dd2 l1 l2 h4 F4 N4 D h5 F5 N5 lD
    have lf' : @LT.lt Nat _ 244 f ∧ AllLt f rest := ⟨Nat.lt_trans l1.2.2.1 l2, allLt_of fun p hp => Nat.lt_trans (ktn_ltOf l1.2.2.2 p hp) l2⟩
    refine ⟨?_⟩
    refine sortedP_use (b := b) (v := false) (d := d) N5 (subCons (.tail _ (.head _)) (subCons (.tail _ (.tail _ (.head _))) (subCons (.tail _ (.tail _ (.tail _ (.head _)))) (subCons (.tail _ (.tail _ (.tail _ (.tail _ (.head _))))) subNil)))) ?G B' F5 X' T' rfl (by walk_at "room") (by have hcL9 := cLine_is; walk_at "room") (by k_mem) (by k_mem) hod hrel ok ?_
    case G =>
      clear F5 N5 F4 N4 F N ret X hu hd
      refine ⟨⟨_, .head _, _, rfl⟩, ?_⟩
      intro news x q hsub hx h100 h101 p loose mean mg mb dp un gd cn cs a ccd cl outer A₀ base h₀ L m s Q E B F X N T hk hd hu hret
      have N1 := cb_drop N (subMid hsub subSelf)
      simp only [List.cons_append, List.nil_append] at N1
      obtain ⟨q1, q2⟩ := q
      unfold pairD at hx
      cases hx with
      | tuple hmx hxs =>
      cases hxs with
      | cons hx1 hxs =>
      cases hxs with
      | cons hx2 hxs =>
      cases hxs
      cases hx1 with
      | str _ t1 =>
      cases hx2 with
      | str _ t2 =>
      have hv1 : DatIn [] (Value.str q1 t1) (.str q1) := .str _ _
      have hk1 : KB true (.str q1) := .str _
      have hl1 : LenD (.str q1) := fun x e => by cases e; exact h100
      revert X; k_fill; intro X
      refine wpAny_call ?_
      walk_at "enter_nest"
      rename_i g5 L5 h5 FG5 F5 N5 B5 X5 T5
      cases b
      · k_steps
        rename_i kF kN kT kX
        exact hret _ _ _ _ ⟨rfl, (by with_reducible assumption : DatIn [] _ (kindD false (.str q1)))⟩ kF (cb_drop kN fun p hp => .tail _ (.tail _ (.tail _ (.tail _ hp))))
      · k_steps
        rename_i kF kN kT kX
        exact hret _ _ _ _ ⟨rfl, hv1⟩ kF (cb_drop kN fun p hp => .tail _ (.tail _ (.tail _ (.tail _ hp))))
    · intro J out k tups h6 tk6 hout F6 N6
      k_steps
      rename_i kF kN kT kX
      exact ret J out k _ tups _ _ hout kF (cb_drop kN (subCons (.head _) (fun p hp => .tail _ ((List.mem_append.mp hp).elim (List.mem_append_left _) (fun hp => List.mem_append_right _ (.tail _ (.tail _ (.tail _ (.tail _ (.tail _ hp))))))))))
  · simp only [if_true] at *
    k_steps
    rename_i tk2 h2 o1 d1 f c' oc vs t ct dc h3 tk3 dd1 dd2 l1 l2 h4 F4 N4 D h5 F5 N5 lD
    have lf' : @LT.lt Nat _ 244 f ∧ AllLt f rest := ⟨Nat.lt_trans l1.2.2.1 l2, allLt_of fun p hp => Nat.lt_trans (ktn_ltOf l1.2.2.2 p hp) l2⟩
    refine ⟨?_⟩
    refine sortedP_use (b := b) (v := true) (d := d) N5 (subCons (.tail _ (.head _)) (subCons (.tail _ (.tail _ (.head _))) (subCons (.tail _ (.tail _ (.tail _ (.head _)))) (subCons (.tail _ (.tail _ (.tail _ (.tail _ (.head _))))) subNil)))) ?G B' F5 X' T' rfl (by walk_at "room") (by have hcL9 := cLine_is; walk_at "room") (by k_mem) (by k_mem) hod hrel ok ?_
    case G =>
      clear F5 N5 F4 N4 F N ret X hu hd
      refine ⟨⟨_, .head _, _, rfl⟩, ?_⟩
      intro news x q hsub hx h100 h101 p loose mean mg mb dp un gd cn cs a ccd cl outer A₀ base h₀ L m s Q E B F X N T hk hd hu hret
      have N1 := cb_drop N (subMid hsub subSelf)
      simp only [List.cons_append, List.nil_append] at N1
      obtain ⟨q1, q2⟩ := q
      unfold pairD at hx
      cases hx with
      | tuple hmx hxs =>
      cases hxs with
      | cons hx1 hxs =>
      cases hxs with
      | cons hx2 hxs =>
      cases hxs
      cases hx1 with
      | str _ t1 =>
      cases hx2 with
      | str _ t2 =>
      have hv1 : DatIn [] (Value.str q2 t2) (.str q2) := .str _ _
      have hk1 : KB true (.str q2) := .str _
      have hl1 : LenD (.str q2) := fun x e => by cases e; exact h101
      revert X; k_fill; intro X
      refine wpAny_call ?_
      walk_at "enter_nest"
      rename_i g5 L5 h5 FG5 F5 N5 B5 X5 T5
      cases b
      · k_steps
        rename_i kF kN kT kX
        exact hret _ _ _ _ ⟨rfl, (by with_reducible assumption : DatIn [] _ (kindD false (.str q2)))⟩ kF (cb_drop kN fun p hp => .tail _ (.tail _ (.tail _ (.tail _ hp))))
      · k_steps
        rename_i kF kN kT kX
        exact hret _ _ _ _ ⟨rfl, hv1⟩ kF (cb_drop kN fun p hp => .tail _ (.tail _ (.tail _ (.tail _ hp))))
    · intro J out k tups h6 tk6 hout F6 N6
      k_steps
      rename_i kF kN kT kX
      exact ret J out k _ tups _ _ hout kF (cb_drop kN (subCons (.head _) (fun p hp => .tail _ ((List.mem_append.mp hp).elim (List.mem_append_left _) (fun hp => List.mem_append_right _ (.tail _ (.tail _ (.tail _ (.tail _ (.tail _ hp))))))))))
end
end
section
section
variable {prog : Program} {w : World} {A : Around} {E : Value → Shared → Prop} {s : Shared} {h₀ : Heap} {L : Addr} {m : Str → Option Value} {news : List (Addr × Obj)}
/-- a pair of the rows: its tuple stands in the ledger -/
theorem pair_open {l : List (Addr × Obj)} {v : Value} {q : Str × Str} (h : DatIn l v (pairD q)) : ∃ T t1 t2 n, v = .ref T ∧ (T, ({ cls := .type "tuple", data := .seq [.str q.1 t1, .str q.2 t2].toArray n } : Obj)) ∈ l := by
  obtain ⟨q1, q2⟩ := q
  unfold pairD at h
  cases h with
  | tuple hmx hxs =>
  cases hxs with
  | cons hx1 hxs =>
  cases hxs with
  | cons hx2 hxs =>
  cases hxs
  cases hx1 with
  | str _ t1 =>
  cases hx2 with
  | str _ t2 => exact ⟨_, t1, t2, _, rfl, hmx⟩
theorem pair_item {value slice : Expr} {T : Addr} {q : Str × Str} {t1 t2 u : Tok} {n : Nat} {r : Int} {v : Bool} {Q : Value → Shared → Prop} (N : News h₀ L s.heap news) (hm : (T, ({ cls := .type "tuple", data := .seq [.str q.1 t1, .str q.2 t2].toArray n } : Obj)) ∈ news) (hr : r = if v then 1 else 0)
    (h : ∀ tt, Q (.str (if v then q.2 else q.1) tt) s) (hs : subscripted slice false (.ref T) (.int r u) = operate [.ref T, .int r u] (getItem (.ref T) (.int r u)) := by with_unfolding_all rfl) :
    wpAny (model prog w) A (subscriptTail value slice (.ref T) (.int r u)) Q E s := by
  have hT : IsTup s.heap T [.str q.1 t1, .str q.2 t2].toArray := News.isTup N hm
  subst hr
  cases v
  · exact item_tupleT (j := 0) hT (by decide) (by decide) rfl rfl (h t1) hs
  · exact item_tupleT (j := 1) hT (by decide) (by decide) rfl rfl (h t2) hs
theorem valueAt_of {kvs : List (Str × Value)} (hn : (kvs.map (·.1)).Nodup) {i : Nat} {k : Str} {x : Value} (h : kvs[i]? = some (k, x)) : valueAt kvs k = some x := by
  induction kvs generalizing i with
  | nil => simp at h
  | cons kv r ih =>
    rw [List.map_cons, List.nodup_cons] at hn
    unfold valueAt
    cases i with
    | zero =>
      simp only [List.getElem?_cons_zero, Option.some.injEq] at h
      subst h
      simp
    | succ i =>
      simp only [List.getElem?_cons_succ] at h
      have hne : kv.1 ≠ k := fun e => hn.1 (by rw [e]; exact List.mem_map_of_mem (f := (·.1)) (List.mem_of_getElem? h))
      rw [List.find?_cons_of_neg (by simpa using hne)]
      exact ih hn.2 h
theorem DictRel.at {kvs : List (Str × Value)} {c : List (Str × Str)} (h : DictRel kvs c) {i : Nat} {k : Str} {x : Value} (hi : kvs[i]? = some (k, x)) : ∃ y t, c[i]? = some (k, y) ∧ x = .str y t := by
  obtain ⟨h1, h2⟩ := h
  have e1 : (kvs.map (·.1))[i]? = some k := by rw [List.getElem?_map, hi]; rfl
  have e2 : (kvs.map (·.2))[i]? = some x := by rw [List.getElem?_map, hi]; rfl
  rw [h1, List.getElem?_map] at e1
  obtain ⟨d, hd, hdv⟩ := datAt h2 e2
  rw [List.getElem?_map] at hd
  cases hc : c[i]? with
  | none => rw [hc] at e1; simp at e1
  | some p =>
    rw [hc] at e1 hd
    simp only [Option.map_some, Option.some.injEq] at e1 hd
    subst hd
    cases hdv with
    | str _ t => exact ⟨p.2, t, by rw [← e1], rfl⟩
end
theorem TabOk.pair {c : List (Str × Str)} (h : TabOk c) (hl : c.length ≤ 6) {p : Str × Str} (hp : p ∈ c) : (PyData.strOk p.1 = true ∧ PyData.strOk (Txt.lower p.1) = true ∧ p.1.length ≤ 100) ∧ PyData.strOk p.2 = true ∧ PyData.strOk (Txt.lower p.2) = true ∧ p.2.length ≤ 100 := by
  obtain ⟨j, hj, rfl⟩ := List.getElem_of_mem hp
  obtain ⟨h2, x, hx, he⟩ := h j c[j] (List.getElem?_eq_getElem hj)
  have k := key_low j (by omega) x hx.mem
  have k2 := key_low 0 (by omega) _ h2.mem
  have l1 := k.2.2.2
  have l2 := h2.len
  rw [he]
  exact ⟨⟨k.1, k.2.1, by omega⟩, h2.ok, k2.2.2.1, by omega⟩
theorem TabOk.pairs {c : List (Str × Str)} (h : TabOk c) (hl : c.length ≤ 6) : pairsOk c := ⟨by omega, fun p hp => by
  have z := h.pair hl hp
  exact ⟨z.1.2.2, z.2.2.2⟩⟩
theorem TabOk.keys {c : List (Str × Str)} (h : TabOk c) (hl : c.length ≤ 6) (b v : Bool) : RowOk true true (c.map (keyP b v)) := by
  refine ⟨fun d hd => ?_, fun _ _ (e : true = false) => (by cases e), fun d hd => ?_, by rw [List.length_map]; omega⟩
  · obtain ⟨p, hp, rfl⟩ := List.mem_map.mp hd
    exact keyP_kb ..
  · obtain ⟨p, hp, rfl⟩ := List.mem_map.mp hd
    have z := h.pair hl hp
    cases b <;> cases v <;> simp only [keyP, kindD, lowD, Bool.false_eq_true, if_false, if_true, kqdOk]
    · exact z.1.2.1
    · exact z.2.2.1
    · exact z.1.1
    · exact z.2.1
theorem TabOk.rows {c : List (Str × Str)} (h : TabOk c) (hl : c.length ≤ 6) : ∀ d ∈ c.map pairD, kqdOk 8 d = true := by
  intro d hd
  obtain ⟨p, hp, rfl⟩ := List.mem_map.mp hd
  have z := h.pair hl hp
  simp [pairD, kqdOk, z.1.1, z.2.1]
theorem RowOk.rev {b kb : Bool} {ds : List Dat} (h : RowOk b kb ds) : RowOk b kb ds.reverse := h.sub (fun e he => List.mem_reverse.mp he) (by simp)
end
section
section
variable {w : World} {p : Program} {loose : List Str} {mean : ExcName → Option Value} {mg mb : Str → Option Value}
    {dp un : Nat} {gd : Option (List Code)} {cn : Str} {cs : Scope} {a : Addr} {ccd : Value} {cl : List (Str × Addr)} {outer : List Env} {A₀ : Around} {base h₀ : Heap} {L : Addr} {m : Str → Option Value} {s : Shared} {Q E : Value → Shared → Prop}
local macro_rules | `(tactic| walk_at "call ref") => `(tactic| ((first | (with_reducible show wpAny _ _ (call (Value.ref 249) _ _) _ _ _)); refine Hold.out ?_))
local macro_rules | `(tactic| walk_at "compareOp Eq ref ref") => `(tactic| refine Hold.out ?_)
local macro_rules | `(tactic| walk_at "exec For") => `(tactic| (with_reducible rename Halt _ => halt9; refine Hold.out ?_))
local macro_rules | `(tactic| walk_at "exec For Name Call cons nil") => `(tactic| (with_reducible rename Halt _ => halt9; refine Hold.out ?_))
local macro_rules | `(tactic| walk_at "binaryOp Add str str") => `(tactic| (k_here; (with_reducible show wpAny _ _ (binaryOp Operator.Add (Value.str _ _) (Value.str _ _)) _ _ _); refine SBL.add (hsz := ?hsz) ?_; (case hsz => (try rw [sizeLine_eq]); omega); intro t9 k9))
local macro_rules | `(tactic| walk_at "setItem ref str") => `(tactic| refine Hold.out ?_)
structure HaltS : Prop where
  it : True
local macro_rules | `(tactic| walk_at "binaryOp Add str str") => `(tactic| (with_reducible rename HaltS => halt7; refine Hold.out ?_))
structure HaltE : Prop where
  it : True
local macro_rules | `(tactic| walk_at "eval IfExp") => `(tactic| (with_reducible rename HaltE => halt8; refine Hold.out ?_))
local macro_rules | `(tactic| walk_at "subscriptTail Name Slice ref ref") => `(tactic| (k_here; (with_reducible show wpAny _ _ (subscriptTail _ (PySem.Expr.Slice none none (some _) _) (Value.ref _) (Value.ref _)) _ _ _); k_dflt (refine' rev_L ?F ?N ?l ?k ?_ ?s ?t ?z; (case F => k_asm); (case N => k_asm); (case l => k_mem); (case k => exact IsPart.int _ _); (case s => with_unfolding_all rfl); (case t => kmk_pure); (case z => walk_at "size")); intro D9 h9 F9 N9 l1; (try k_lt l1)))
local macro_rules | `(tactic| walk_at "subscriptTail") => `(tactic| (k_here; (with_reducible show wpAny _ _ (subscriptTail _ (PySem.Expr.Slice none none (some _) _) (Value.ref _) (Value.ref _)) _ _ _); k_dflt (refine' rev_L ?F ?N ?l ?k ?_ ?s ?t ?z; (case F => k_asm); (case N => k_asm); (case l => k_mem); (case k => exact IsPart.int _ _); (case s => with_unfolding_all rfl); (case t => kmk_pure); (case z => walk_at "size")); intro D9 h9 F9 N9 l1; (try k_lt l1)))
theorem pair_itemD {prog : Program} {w : World} {A : Around} {E : Value → Shared → Prop} {s : Shared} {h₀ : Heap} {L : Addr} {news : List (Addr × Obj)} {value slice : Expr} {T : Addr} {q : Str × Str} {t1 t2 u : Tok} {n : Nat} {r : Int} {v : Bool} {Q : Value → Shared → Prop} (N : News h₀ L s.heap news) (hm : (T, ({ cls := .type "tuple", data := .seq [.str q.1 t1, .str q.2 t2].toArray n } : Obj)) ∈ news) (hr : r = if v then 1 else 0)
    (h : ∀ x, DatIn [] x (.str (if v then q.2 else q.1)) → Q x s) (hs : subscripted slice false (.ref T) (.int r u) = operate [.ref T, .int r u] (getItem (.ref T) (.int r u)) := by with_unfolding_all rfl) :
    wpAny (model prog w) A (subscriptTail value slice (.ref T) (.int r u)) Q E s := pair_item N hm hr (fun tt => h _ (.str _ tt)) hs
local macro_rules | `(tactic| walk_at "subscriptTail") => `(tactic| (k_here; (with_reducible show wpAny _ _ (subscriptTail _ _ (Value.ref _) (Value.int _ _)) _ _ _); k_dflt (refine' pair_itemD ?N ?m ?r ?_ ?hs; (case N => k_asm); (case m => k_mem); (case r => with_reducible assumption); (case hs => with_unfolding_all rfl)); intro x9 hx9))
theorem News_tl {h₀ h : Heap} {L : Addr} {s' : Shared} {o : Obj} {l : List (Addr × Obj)} (N : News h₀ L h ((s'.heap.objs.size, o) :: l)) : News h₀ L h l := fun p hp => N p (.tail _ hp)
local macro_rules | `(tactic| walk_at "storeName") => `(tactic| (k_here; k_dflt (refine' storeX_C ?F ?N ?c ?U ?d ?_ ?a ?b; (case N => ((rename News _ _ _ _ => lN'); with_reducible exact News_tl lN')); (case a => rfl); (case b => rfl); (case F => k_asm); (case c => rfl); (case U => k_updF); (case d => k_asm)); intro h' o' F' N' d'; (try dsimp only at N'); (try k_sweep)))
def MarksAt (h₀ : Heap) (L : Addr) (mp : Str → Option Value) (s : Shared) (restL : List (Addr × Obj)) (mr : List Dat) (x : Value) (s' : Shared) : Prop :=
  ∃ MR vsR kR h' tk', x = Value.ref MR ∧ s' = { s with heap := h', toks := tk' } ∧ Fr h₀ L h' mp ∧ News h₀ L h' ((MR, listOf (List.toArray vsR) kR) :: restL) ∧ DatAll [] vsR mr ∧ vsR.length ≤ 20 ∧ (∀ p ∈ restL, p.1 ≠ MR)
theorem dicts_K {D S : Addr} {q : Int} {t : Tok} {n1 n2 : Nat} {vs : List Value} {rest : List (Addr × Obj)}
    (B : Below A₀ base outer h₀) (F : Fr h₀ L s.heap m) (X : (hd1.heap_39 w.params).In h₀) (N : News h₀ L s.heap ((D, drawsO q t S n1) :: (S, listOf vs.toArray n2) :: (244, tabObj #[]) :: rest)) (T : Top p loose mean mg mb h₀) (hk : cs.kind = .function)
    (hd : dp + 80 < recursionLimit) (hu : un + 6000 < cLine) (C3 : CodeHd h₀ 248 244)
    (oD : ∀ p ∈ (S, listOf vs.toArray n2) :: (244, tabObj #[]) :: rest, p.1 ≠ D) (oS : ∀ p ∈ (244, tabObj #[]) :: rest, p.1 ≠ S) (o244 : ∀ p ∈ rest, p.1 ≠ 244)
    (ok : DrawOk q vs)
    (ret : ∀ q' t1 n1' n2' vs' ps h' tk', DrawOk q' vs' → Fr h₀ L h' m → News h₀ L h' ((D, drawsO q' t1 S n1') :: (S, listOf (List.toArray vs') n2') :: (244, tabObj ps) :: rest) → Q (.bool true) { s with heap := h', toks := tk' }) :
    wpAny (model PySem.Challenge.rw_bb0048_01.row.prog w) (ktrTop dp un gd cn cs L a ccd cl outer) (call (.ref 379) [.ref D]) Q E s := by
  have X₀ := X
  revert X; k_fill; intro X
  refine wpAny_call ?_
  walk_at "enter"
  have hDS : @Ne Nat D S := Ne.symm (oD _ (.head _))
  have oD1 : ∀ p ∈ (244, tabObj #[]) :: rest, p.1 ≠ D := fun p hp => oD p (.tail _ hp)
  have halt : Halt 0 := ⟨trivial⟩
  k_steps
  rename_i g' L' hA tkA FG B' X' T' la lb lc ld oK oM oB oC dK dM dB dC halt9 d0 h2 o0 lo0 hs0 _ _ _ l0 h3 oT F3 N3 dT
  have lT := l0
  obtain ⟨m0, F4⟩ : ∃ m0 : Str → Option Value, Fr g' L' h3 (fun y => if y = Str.ofString "draws" then some (.ref D) else m0 y) := ⟨_, fr_known F3 (by first | rfl | with_unfolding_all rfl | kernel_rfl)⟩
  clear F3
  refine ⟨?_⟩
  clear halt9
  k_steps
  rename_i r1 q1 t1 u1 m1 k1 vs1 h1 tk1 ok1 rlo1 rhi1 F1 N1 h4 tk4 ta tb tc hr F5 N5 kk5
  obtain ⟨n, hnr, hn, hsm⟩ := range1_facts (r := r1) rlo1 (by omega)
  refine SrcF.range (J := fun i m₁ nw => ∃ uk q' t1 n1' n2' vs' od kvs c, m₁ = (fun y => if y = Str.ofString "k" then uk else if y = Str.ofString "draws" then some (.ref D) else m0 y) ∧ nw = (D, drawsO q' t1 S n1') :: (S, listOf (List.toArray vs') n2') :: (d0, od) :: (L' + 1 + 1 + 1 + 1, oK) :: (L' + 1 + 1 + 1, oM) :: (L' + 1 + 1, oB) :: (L' + 1, oT) :: (244, tabObj #[]) :: rest ∧ DrawOk q' vs' ∧ od.IsDictOf (PySem.strKind PySem.Challenge.rw_bb0048_01.row.prog w) kvs ∧ DictRel kvs c ∧ TabOk c ∧ c.length = i) rfl F5 N5 hr hsm hn ⟨_, q1, t1, m1, k1, vs1, o0, [], [], mapSelf _ _, rfl, ok1, hs0, ⟨rfl, .nil⟩, (fun j p h => by simp at h), rfl⟩ ?_ ?_
  · intro g i v I oI h tk m₁ nw hi ⟨tv, hv⟩ ⟨uk, q', t1', n1', n2', vs', od, kvs, c, hm₁, hnw, ok', hod, hrel, htab, hcl⟩ F6 N6 off
    subst hm₁ hnw hv
    clear F5 N5 F1 N1 F4
    have offr : ∀ p ∈ rest, p.1 ≠ I := fun p hp => off p (by k_mem)
    have off' := gnNe_of off
    simp only [GnNe] at off'
    have haltS : HaltS := ⟨trivial⟩
    k_steps
    rename_i x1 q2 t2 u2 m2 k2 vs2 h6 tk6 ok2 hx1 F7 N7 x2 q3 t3 u3 m3 k3 vs3 h7 tk7 ok3 hx2 F8 N8
    refine ⟨?_⟩
    rename HaltS => hal7
    clear hal7
    try dsimp only
    have hx2l := hx2.1
    have hi6 : i < 6 := by omega
    obtain ⟨sk, hsk, hskl⟩ : ∃ sk : Str, sk = Str.ofString (toString (0 + (i : Int) * 1)) ∧ sk.length ≤ 2 := ⟨_, rfl, by
      show (digit i).cps.size ≤ 2
      rw [digit_ok i hi6]
      simp⟩
    rw [← hsk]
    k_steps
    refine ⟨?_⟩
    refine kda_set F8 N8 (by k_updF) hod (strKind_is _ _ _ _) (by rw [hrel.length, sizeLine_eq]; omega) ?_
    intro h8 o8 F9 N9 ho8
    dsimp only at F9 N9 ⊢
    k_steps
    have hw := dict_snoc (x := x2) (v := x1) (t := u2) hrel htab (by omega) hx2 hx1
    rw [hsk] at ho8
    have hcl' := hcl
    subst hcl
    refine TurnF.intro ((D, drawsO q3 t3 S m3) :: (S, listOf (List.toArray vs3) k3) :: (d0, o8) :: (L' + 1 + 1 + 1 + 1, oK) :: (L' + 1 + 1 + 1, oM) :: (L' + 1 + 1, oB) :: (L' + 1, oT) :: (244, tabObj #[]) :: rest) F9 N9 (by k_sub) (by
      intro p hp
      rcases List.mem_cons.mp hp with rfl | hp
      · exact off (D, drawsO q' t1' S n1') (.head _)
      rcases List.mem_cons.mp hp with rfl | hp
      · exact off (S, listOf (List.toArray vs') n2') (.tail _ (.head _))
      rcases List.mem_cons.mp hp with rfl | hp
      · exact off (d0, od) (.tail _ (.tail _ (.head _)))
      exact off p (.tail _ (.tail _ (.tail _ hp)))) ⟨_, q3, t3, m3, k3, vs3, o8, _, _, mapDup _ _ _, rfl, ok3, ho8, hw.1, hw.2, by simp⟩
  · rintro m' nw h tk F6 N6 ⟨uk, q', t1', n1', n2', vs', od, kvs, c, rfl, rfl, ok', hod, hrel, htab, hcl⟩
    have hc6 : c.length ≤ 6 := by omega
    have hkl := hrel.length
    clear F5 N5 F1 N1 F4
    k_steps
    rename_i tkz r2 q2 t2 u2 m2 k2 vs2 h2' tk2 ok2 rlo2 rhi2 r3 q3 t3 u3 m3 k3 vs3 h3' tk3 ok3 rlo3 rhi3 r4 q4 t4 u4 m4 k4 vs4 h4' tk4 ok4 rlo4 rhi4 hx1 hkx nmx hx2 hx3 oB2 dB2 hx4 oM2 dM2 hx5 F7 N7
    obtain ⟨v, hv⟩ : ∃ v : Bool, r3 = if v then 1 else 0 := by
      rcases (show r3 = 0 ∨ r3 = 1 by omega) with e | e
      · exact ⟨false, by simp [e]⟩
      · exact ⟨true, by simp [e]⟩
    generalize (r2 == 1) = b at dB2
    generalize (r4 == 1) = turned at F7
    refine SrcJ.dict (od := od) (kvs := kvs) (J := fun i ys nw => ∃ outs, nw = outs ++ (D, drawsO q4 t4 S m4) :: (S, listOf vs4.toArray k4) :: (d0, od) :: (L' + 1 + 1 + 1 + 1, oK) :: (L' + 1 + 1 + 1, oM2) :: (L' + 1 + 1, oB2) :: (L' + 1, oT) :: (244, tabObj #[]) :: rest ∧ (∀ p ∈ outs, p.1 ≠ L' + 1 + 1 + 1 + 1 ∧ p.1 ≠ 244) ∧ DatAll outs ys ((c.take i).map pairD)) lo0 rfl F7 N7 (by k_mem) hod (by omega) ?_ ⟨[], rfl, (fun _ h => nomatch h), .nil⟩ ?_ ?_
    · rintro j ys nw ⟨outs, rfl, _⟩
      exact List.mem_append_right _ (.tail _ (.tail _ (.head _)))
    · intro g i y I oI C oC DD m₂ h tk ys news' E' hi hyl hy hJ hoC hm₂ F8 N8 off hne
      obtain ⟨outs, rfl, hou, hys⟩ := hJ
      obtain ⟨kk, xx, hkv, hky⟩ := hy
      obtain ⟨tk', rfl⟩ := Value.isStrOf_shape hky
      obtain ⟨yy, ty, hci, rfl⟩ := hrel.at hkv
      have hnd : (kvs.map (·.1)).Nodup := by obtain ⟨_, _, _, _, _, _, hn⟩ := hod; exact hn
      have hta : (c.take (i + 1)).map pairD = (c.take i).map pairD ++ [pairD (kk, yy)] := by rw [List.take_add_one, hci]; simp
      have mD : (d0, od) ∈ outs ++ (D, drawsO q4 t4 S m4) :: (S, listOf vs4.toArray k4) :: (d0, od) :: (L' + 1 + 1 + 1 + 1, oK) :: (L' + 1 + 1 + 1, oM2) :: (L' + 1 + 1, oB2) :: (L' + 1, oT) :: (244, tabObj #[]) :: rest := List.mem_append_right _ (.tail _ (.tail _ (.head _)))
      have mT : (L' + 1, oT) ∈ outs ++ (D, drawsO q4 t4 S m4) :: (S, listOf vs4.toArray k4) :: (d0, od) :: (L' + 1 + 1 + 1 + 1, oK) :: (L' + 1 + 1 + 1, oM2) :: (L' + 1 + 1, oB2) :: (L' + 1, oT) :: (244, tabObj #[]) :: rest := List.mem_append_right _ (.tail _ (.tail _ (.tail _ (.tail _ (.tail _ (.tail _ (.head _)))))))
      generalize htl : outs ++ (D, drawsO q4 t4 S m4) :: (S, listOf vs4.toArray k4) :: (d0, od) :: (L' + 1 + 1 + 1 + 1, oK) :: (L' + 1 + 1 + 1, oM2) :: (L' + 1 + 1, oB2) :: (L' + 1, oT) :: (244, tabObj #[]) :: rest = tl at N8 off mD mT
      have ltT : ∀ p ∈ (I, oI) :: (C, oC) :: (DD, lst ys) :: tl, @LT.lt Nat _ p.1 h.objs.size := fun p hp => Heap.lt_size (N8 p hp).1
      clear N7 F7
      refine wpAny_tests_nil ?_
      simp only [if_true]
      k_steps
      refine kda_item (knd := PySem.strKind _ _) N8 (.tail _ (.tail _ (.tail _ mD))) hod (strKind_is _ _ _ _) (valueAt_of hnd hkv) ?_
      k_steps
      rename_i Fx Nx hkx nmx
      have mK : (L' + 1 + 1 + 1 + 1, oK) ∈ tl := htl ▸ List.mem_append_right _ (.tail _ (.tail _ (.tail _ (.head _))))
      have m244 : (244, tabObj #[]) ∈ tl := htl ▸ List.mem_append_right _ (.tail _ (.tail _ (.tail _ (.tail _ (.tail _ (.tail _ (.tail _ (.head _))))))))
      have lK := ltT _ (.tail _ (.tail _ (.tail _ mK)))
      have l244 := ltT _ (.tail _ (.tail _ (.tail _ m244)))
      have lI := ltT _ (.head _)
      have lC := ltT _ (.tail _ (.head _))
      have lDD := ltT _ (.tail _ (.tail _ (.head _)))
      clear mK m244
      subst htl
      exact TurnJ.intro ((h.objs.size, ({ cls := .type "tuple", data := .seq [Value.str kk tk', Value.str yy ty].toArray 0 } : Obj)) :: (outs ++ (D, drawsO q4 t4 S m4) :: (S, listOf vs4.toArray k4) :: (d0, od) :: (L' + 1 + 1 + 1 + 1, oK) :: (L' + 1 + 1 + 1, oM2) :: (L' + 1 + 1, oB2) :: (L' + 1, oT) :: (244, tabObj #[]) :: rest)) Fx Nx (subCons (by k_mem) (subCons (by k_mem) (subCons (by k_mem) (subCons (.head _) fun p hp => .tail _ (.tail _ (.tail _ (.tail _ hp))))))) ⟨⟨Nat.ne_of_gt lI, Nat.ne_of_gt lC, Nat.ne_of_gt lDD⟩, off⟩
        ⟨(h.objs.size, _) :: outs, rfl, List.forall_mem_cons.mpr ⟨⟨Nat.ne_of_gt lK, Nat.ne_of_gt l244⟩, hou⟩, hta ▸ (hys.mono fun p hp => .tail _ hp).append (.one (.tuple (.head _) (.cons (.str _ _) (.one (.str _ _)))))⟩
    · rintro RR ys nw h tk F8 N8 o1 ⟨outs, rfl, hou, hys⟩
      rw [hkl, List.take_length] at hys
      have hyl := hys.length
      rw [List.length_map] at hyl
      k_steps
      have okm := htab.keys hc6 b v
      generalize hms : c.map (keyP b v) = ms at okm
      have hml : ms.length = c.length := by rw [← hms, List.length_map]
      have mB : (L' + 1 + 1, oB2) ∈ outs ++ (D, drawsO q4 t4 S m4) :: (S, listOf vs4.toArray k4) :: (d0, od) :: (L' + 1 + 1 + 1 + 1, oK) :: (L' + 1 + 1 + 1, oM2) :: (L' + 1 + 1, oB2) :: (L' + 1, oT) :: (244, tabObj #[]) :: rest := List.mem_append_right _ (.tail _ (.tail _ (.tail _ (.tail _ (.tail _ (.head _))))))
      have mM : (L' + 1 + 1 + 1, oM2) ∈ outs ++ (D, drawsO q4 t4 S m4) :: (S, listOf vs4.toArray k4) :: (d0, od) :: (L' + 1 + 1 + 1 + 1, oK) :: (L' + 1 + 1 + 1, oM2) :: (L' + 1 + 1, oB2) :: (L' + 1, oT) :: (244, tabObj #[]) :: rest := List.mem_append_right _ (.tail _ (.tail _ (.tail _ (.tail _ (.head _)))))
      have so : ∀ p ∈ outs, p ∈ outs ++ (D, drawsO q4 t4 S m4) :: (S, listOf vs4.toArray k4) :: (d0, od) :: (L' + 1 + 1 + 1 + 1, oK) :: (L' + 1 + 1 + 1, oM2) :: (L' + 1 + 1, oB2) :: (L' + 1, oT) :: (244, tabObj #[]) :: rest := fun p hp => List.mem_append_left _ hp
      generalize htl : outs ++ (D, drawsO q4 t4 S m4) :: (S, listOf vs4.toArray k4) :: (d0, od) :: (L' + 1 + 1 + 1 + 1, oK) :: (L' + 1 + 1 + 1, oM2) :: (L' + 1 + 1, oB2) :: (L' + 1, oT) :: (244, tabObj #[]) :: rest = tl at N8 o1 mB mM so
      clear N7 F7
      refine SrcJ.list (vs := ys) (k := ys.length) (J := fun i zs nw => nw = (RR, lst ys) :: tl ∧ DatAll [] zs (ms.take i)) rfl F8 N8 (by k_mem) (by omega) ?_ ⟨rfl, .nil⟩ ?_ ?_
      · rintro j zs nw ⟨rfl, _⟩
        k_mem
      · intro g i y I oI C oC DD m₂ h tk zs news' E' hi hzl hy hJ hoC hm₂ F9 N9 off hne
        obtain ⟨rfl, hzs⟩ := hJ
        obtain ⟨dd, hd1, hdv⟩ := datAt hys hy
        rw [List.getElem?_map] at hd1
        cases hci : c[i]? with
        | none => rw [hci] at hd1; simp at hd1
        | some pr =>
        rw [hci] at hd1
        simp only [Option.map_some, Option.some.injEq] at hd1
        subst hd1
        obtain ⟨T9, t91, t92, n9, rfl, hT9⟩ := pair_open hdv
        have hT8 := so _ hT9
        have hpl := (htab.pair hc6 (List.mem_of_getElem? hci))
        have hkb : KB true (.str (if v then pr.2 else pr.1)) := .str _
        have hkl2 : b = false → LenD (.str (if v then pr.2 else pr.1)) := fun _ x e => by
          cases e
          cases v
          · exact hpl.1.2.2
          · exact hpl.2.2.2
        have hmi : ms[i]? = some (keyP b v pr) := by rw [← hms, List.getElem?_map, hci]; rfl
        have hta : ms.take (i + 1) = ms.take i ++ [keyP b v pr] := by rw [List.take_add_one, hmi]; rfl
        refine wpAny_tests_nil ?_
        simp only [if_true]
        k_steps
        rename_i x9 hx9 v9 h9 tk9 hv9 hk9 F10 N10
        exact TurnJ.intro ((RR, lst ys) :: tl) F10 N10 (by k_sub) off ⟨rfl, hta ▸ hzs.append (.one hv9)⟩
      · rintro MM zs nw h tk F9 N9 o2 ⟨rfl, hzs⟩
        rw [hyl, ← hml, List.take_length] at hzs
        have o3 : ∀ p ∈ (RR, lst ys) :: tl, p.1 ≠ MM := off1_ne o2
        have haltE : HaltE := ⟨trivial⟩
        k_steps
        rename_i tkz2 J9 vs9 k9 h9 tk9 hD9 ok9 hne9 hn9 h10 tk10 f0 h11 l1 h12 F12 N12
        have hs2 : ∀ p ∈ (f0, listOf #[] 0) :: (RR, lst ys) :: tl, p.1 ≠ J9 := List.forall_mem_cons.mpr ⟨Nat.ne_of_gt l1.1, List.forall_mem_cons.mpr ⟨hn9.2.1, fun p hp => hne9 p (.tail _ (.tail _ hp))⟩⟩
        have hl9 := hD9.length
        have hl20 := ok9.2.2.2
        generalize hmk : sortedD true ms = mk at hD9 ok9 hl9 hl20
        generalize hmap : (fun y => if y = Str.ofString "due" then some (Value.ref f0) else _) = map1 at F12
        refine ⟨wpAny_mono (Q := MarksAt g' L' map1 s ((f0, listOf #[] 0) :: (RR, lst ys) :: tl) (if turned then mk.reverse else mk)) ?_ ?_ fun _ _ e => e⟩
        · subst hmap
          rename HaltE => hal8
          clear hal8
          cases turned
          · k_steps
            exact ⟨J9, vs9, k9, _, _, rfl, rfl, F12, cb_drop N12 (subCons (.tail _ (.head _)) (subCons (.head _) (subCons (by k_mem) fun p hp => .tail _ (.tail _ (.tail _ (.tail _ hp)))))), hD9, by omega, hs2⟩
          · k_steps
            rename_i D9 h13 F13 N13 l13
            exact ⟨D9, vs9.reverse, 0, _, _, rfl, rfl, F13, cb_drop N13 (subCons (.head _) (subCons (by k_mem) (subCons (by k_mem) fun p hp => .tail _ (.tail _ (.tail _ (.tail _ (.tail _ hp))))))), datRev hD9, by rw [List.length_reverse]; omega, List.forall_mem_cons.mpr ⟨Nat.ne_of_lt l13.1, List.forall_mem_cons.mpr ⟨Nat.ne_of_lt l13.2.2.2.1, allLt_ne l13.2.2.2.2⟩⟩⟩
        · rintro x s' ⟨MR, vsR, kR, h13, tk13, rfl, rfl, F13, N13, hvR, hlR, hMR⟩
          have okR : RowOk true true (if turned then mk.reverse else mk) := by
            cases turned
            · exact ok9
            · exact ok9.rev
          generalize hmr : (if turned then mk.reverse else mk) = mr at hvR okR
          clear N12 F12
          rename HaltE => hal8
          clear hal8
          k_steps
          rename_i J8 vs8 k8 h14 tk14 hD8 ok8 hne8 F14 N14 hn8
          have hfs : mr = (if turned then (sortedD true ms).reverse else sortedD true ms) := by rw [← hmr, ← hmk]
          have hl8 := hD8.length
          have hl820 := ok8.2.2.2
          have hdue : ∃ fs, fs = firstD true mr := ⟨_, rfl⟩
          obtain ⟨fs, hfs2⟩ := hdue
          rw [← hfs2] at hD8 ok8 hl8 hl820
          subst hmap
          have mK : (L' + 1 + 1 + 1 + 1, oK) ∈ tl := htl ▸ List.mem_append_right _ (.tail _ (.tail _ (.tail _ (.head _))))
          obtain ⟨restL, N15, hcK, hcin, hcout⟩ := carve N14 (.tail _ (.tail _ (.tail _ (.tail _ mK))))
          have inL : ∀ p ∈ (J8, listOf (List.toArray vs8) k8) :: (MR, listOf (List.toArray vsR) kR) :: (f0, listOf #[] 0) :: (RR, lst ys) :: tl, p.1 ≠ L' + 1 + 1 + 1 + 1 → p ∈ restL := fun p hp hne => (List.mem_cons.mp (hcin p hp)).resolve_left fun e => hne (by rw [e])
          have inT : ∀ p ∈ tl, p.1 ≠ L' + 1 + 1 + 1 + 1 → p ∈ restL := fun p hp => inL p (.tail _ (.tail _ (.tail _ (.tail _ hp))))
          have e1 : (J8, listOf (List.toArray vs8) k8) ∈ restL := inL _ (.head _) (Ne.symm (hne8 _ (.tail _ (.tail _ (.tail _ mK)))))
          have e2 : (RR, lst ys) ∈ restL := inL _ (.tail _ (.tail _ (.tail _ (.head _)))) (Ne.symm (off1_ne o1 _ mK))
          have e3 : (L' + 1 + 1, oB2) ∈ restL := inT _ mB (Nat.ne_of_lt (Nat.lt_succ_of_lt (Nat.lt_succ_self _)))
          have e4 : (L' + 1 + 1 + 1, oM2) ∈ restL := inT _ mM (Nat.ne_of_lt (Nat.lt_succ_self _))
          have e5 : ∀ p ∈ outs, p ∈ restL := fun p hp => inT p (so p hp) (hou p hp).1
          have e6 : (f0, listOf #[] 0) ∈ restL := inL _ (.tail _ (.tail _ (.head _))) (Nat.ne_of_gt (ktn_ltOf l1.2.2.2 _ mK))
          have hf0 : @LT.lt Nat _ (L' + 1 + 1 + 1 + 1) f0 := ktn_ltOf l1.2.2.2 _ mK
          clear N14
          obtain ⟨vK, dK'⟩ : ∃ vK, oK.data = .cell vK := ⟨_, dK⟩
          obtain ⟨mm, F16⟩ : ∃ mm : Str → Option Value, Fr g' L' h14 (fun y => if y = Str.ofString "due" then some (Value.ref f0) else if y = Str.ofString "marks" then some (Value.ref J9) else if y = Str.ofString "rows" then some (Value.ref RR) else if y = Str.ofString "turned" then some (Value.bool turned) else mm y) := ⟨_, F14⟩
          clear F14
          refine SrcF.list (J := fun i m₁ nw => ∃ f vsd kk oK' vK', m₁ = (fun y => if y = Str.ofString "due" then some (Value.ref f) else if y = Str.ofString "marks" then some (Value.ref J9) else if y = Str.ofString "rows" then some (Value.ref RR) else if y = Str.ofString "turned" then some (Value.bool turned) else mm y) ∧ nw = (f, listOf (List.toArray vsd) kk) :: (L' + 1 + 1 + 1 + 1, oK') :: restL ∧ oK'.data = .cell vK' ∧ @LT.lt Nat _ (L' + 1 + 1 + 1 + 1) f ∧ vsd.length ≤ i * 6 ∧ DatAll outs vsd ((fs.take i).flatMap fun q => (c.map pairD).filter fun x => eqD (kindD b (fldD v x)) q)) rfl F16 (cb_drop N15 (subCons (.tail _ e6) (subCons (.head _) fun p hp => .tail _ hp))) (.tail _ (.tail _ e1)) ?_ ⟨f0, [], 0, oK, vK, rfl, rfl, dK', hf0, by simp, .nil⟩ ?_ ?_
          · rintro j m₁ nw ⟨f, vsd, kk, oK', vK', rfl, rfl, _, _, _, _⟩
            exact .tail _ (.tail _ e1)
          · intro g i y I oI h tk m₁ nw hi hy ⟨f, vsd, kk, oK', vK', hm₁, hnw, dK2, hfl, hvl, hvd⟩ F17 N17 off
            subst hm₁ hnw
            have off' := gnNe_of off
            simp only [GnNe] at off'
            obtain ⟨d, hd1, hdv⟩ := datAt hD8 hy
            have hdk := ok8.1 d (List.mem_of_getElem? hd1)
            have hffl : @Ne Nat f (L' + 1 + 1 + 1 + 1) := Nat.ne_of_gt hfl
            clear N15 F16
            k_steps
            rename_i h18 oK3 F18 N18 dK3
            refine SrcJ.list (vs := ys) (k := ys.length) (J := fun j zs nw => nw = (I, oI) :: (f, listOf (List.toArray vsd) kk) :: (L' + 1 + 1 + 1 + 1, oK3) :: restL ∧ DatAll outs zs (((c.map pairD).take j).filter fun x => eqD (kindD b (fldD v x)) d)) rfl F18 N18 (.tail _ (.tail _ (.tail _ e2))) (by omega) ?_ ⟨rfl, .nil⟩ ?_ ?_
            · rintro j zs nw ⟨rfl, _⟩
              exact .tail _ (.tail _ (.tail _ e2))
            · intro g2 j y2 I2 oI2 C2 oC2 D2 m3' h3 tk3 zs nw E2 hj hzl hy2 hJ2 hoC2 hm3 F19 N19 off2 hne2
              obtain ⟨rfl, hzs⟩ := hJ2
              obtain ⟨dd, hd2, hdv2⟩ := datAt hys hy2
              have hd3 := hd2
              rw [List.getElem?_map] at hd2
              cases hci : c[j]? with
              | none => rw [hci] at hd2; simp at hd2
              | some pr =>
              rw [hci] at hd2
              simp only [Option.map_some, Option.some.injEq] at hd2
              subst hd2
              obtain ⟨T9, t91, t92, n9, rfl, hT9⟩ := pair_open hdv2
              have hT8 := e5 _ hT9
              have hpl := (htab.pair hc6 (List.mem_of_getElem? hci))
              have hkb : KB true (.str (if v then pr.2 else pr.1)) := .str _
              have hkl2 : b = false → LenD (.str (if v then pr.2 else pr.1)) := fun _ x e => by
                cases e
                cases v
                · exact hpl.1.2.2
                · exact hpl.2.2.2
              have hft := filterTake (fun x => eqD (kindD b (fldD v x)) d) hd3
              have hke : kindD b (fldD v (pairD pr)) = kindD b (.str (if v then pr.2 else pr.1)) := keyP_eq b v pr
              rw [hke] at hft
              clear N18 F18
              refine wpAny_tests_one ?_
              k_steps
              all_goals (refine TurnJ.intro ((I, oI) :: (f, listOf (List.toArray vsd) kk) :: (L' + 1 + 1 + 1 + 1, oK3) :: restL) (by with_reducible assumption) (by with_reducible assumption) (by k_sub) off2 ⟨rfl, ?_⟩)
              all_goals (with_reducible rename (eqD _ _ = _) => hle)
              · rw [hft]
                simp only [hle, if_true]
                exact hzs.append (.one hdv2)
              · rw [hft]
                simp only [hle, Bool.false_eq_true, if_false, List.append_nil]
                exact hzs
            · rintro D2 zs nw h3 tk3 F19 N19 o3 ⟨rfl, hzs⟩
              have hyl2 : ys.length = (c.map pairD).length := hys.length
              rw [hyl2, List.take_length] at hzs
              have hzl6 : zs.length ≤ 6 := by
                have z1 := hzs.length
                have z2 := List.length_filter_le (fun x => eqD (kindD b (fldD v x)) d) (c.map pairD)
                rw [List.length_map] at z2
                omega
              have hi20 : i < 20 := by omega
              clear N18 F18
              k_steps
              rename_i l20 h20 l21 h21 F20 N20
              have hta : (fs.take (i + 1)).flatMap (fun q => (c.map pairD).filter fun x => eqD (kindD b (fldD v x)) q) = (fs.take i).flatMap (fun q => (c.map pairD).filter fun x => eqD (kindD b (fldD v x)) q) ++ (c.map pairD).filter fun x => eqD (kindD b (fldD v x)) d := by
                rw [List.take_add_one, hd1]
                simp
              refine TurnF.intro ((l20, listOf (List.toArray (vsd ++ zs)) 0) :: (L' + 1 + 1 + 1 + 1, oK3) :: restL) F20 N20 (subCons (by k_mem) (subCons (by k_mem) (subCons (by k_mem) fun p hp => .tail _ (.tail _ (.tail _ (.tail _ (.tail _ hp))))))) ?_ ⟨l20, vsd ++ zs, 0, oK3, _, mapDup _ _ _, rfl, dK3, ?_, by rw [List.length_append]; omega, hta ▸ hvd.append hzs⟩
              · intro p hp
                rcases List.mem_cons.mp hp with rfl | hp
                · exact Nat.ne_of_gt l21.2.1
                rcases List.mem_cons.mp hp with rfl | hp
                · exact off (L' + 1 + 1 + 1 + 1, oK') (.tail _ (.head _))
                exact off p (.tail _ (.tail _ hp))
              · exact l21.2.2.2.1
          · rintro m' nw h tk F17 N17 ⟨f, vsd, kk, oK', vK', rfl, rfl, dK2, hfl, hvl, hvd⟩
            have l244 : @LT.lt Nat _ 244 (L' + 1 + 1 + 1 + 1) := Nat.lt_succ_of_lt (Nat.lt_succ_of_lt (Nat.lt_succ_of_lt (Nat.lt_succ_of_lt la.2.2.1)))
            have t1 : ∀ p ∈ (D, drawsO q4 t4 S m4) :: (S, listOf vs4.toArray k4) :: (d0, od) :: (L' + 1 + 1 + 1 + 1, oK) :: (L' + 1 + 1 + 1, oM2) :: (L' + 1 + 1, oB2) :: (L' + 1, oT) :: (244, tabObj #[]) :: rest, p ∈ tl := fun p hp => htl ▸ List.mem_append_right _ hp
            have m244 : (244, tabObj #[]) ∈ restL := inT _ (t1 _ (by k_mem)) (Nat.ne_of_lt l244)
            have mD0 : (d0, od) ∈ restL := inT _ (t1 _ (by k_mem)) (Nat.ne_of_gt lT.1)
            obtain ⟨rest3, N18, hc3, h3in, h3out⟩ := carve N17 (.tail _ (.tail _ m244))
            have in3 : ∀ p ∈ restL, p.1 ≠ 244 → p ∈ rest3 := fun p hp hne => (List.mem_cons.mp (h3in p (.tail _ (.tail _ hp)))).resolve_left fun e => hne (by rw [e])
            have n1 : (f, listOf (List.toArray vsd) kk) ∈ rest3 := (List.mem_cons.mp (h3in _ (.head _))).resolve_left fun e => Nat.ne_of_gt (Nat.lt_trans l244 hfl) (congrArg Prod.fst e)
            have n2 : (d0, od) ∈ rest3 := in3 _ mD0 (Nat.ne_of_gt (Nat.lt_trans l244 lT.1))
            have n3 : (L' + 1 + 1, oB2) ∈ rest3 := in3 _ e3 (Nat.ne_of_gt (Nat.lt_succ_of_lt (Nat.lt_succ_of_lt la.2.2.1)))
            have n4 : (L' + 1 + 1 + 1, oM2) ∈ rest3 := in3 _ e4 (Nat.ne_of_gt (Nat.lt_succ_of_lt (Nat.lt_succ_of_lt (Nat.lt_succ_of_lt la.2.2.1))))
            have n5 : (L' + 1, oT) ∈ rest3 := in3 _ (inT _ (t1 _ (by k_mem)) (Nat.ne_of_lt (Nat.lt_succ_of_lt (Nat.lt_succ_of_lt (Nat.lt_succ_self _))))) (Nat.ne_of_gt (Nat.lt_succ_of_lt la.2.2.1))
            have n6 : ∀ p ∈ outs, p ∈ rest3 := fun p hp => in3 p (e5 p hp) (hou p hp).2
            have n7 : ∀ p ∈ (D, drawsO q4 t4 S m4) :: (S, listOf vs4.toArray k4) :: rest, p ∈ rest3 := fun p hp => by
              rcases List.mem_cons.mp hp with rfl | hp
              · exact in3 _ (inT _ (t1 _ (by k_mem)) (Nat.ne_of_lt (Nat.lt_succ_of_lt (Nat.lt_succ_of_lt (Nat.lt_succ_of_lt (Nat.lt_succ_of_lt la.1)))))) (Ne.symm (oD (244, tabObj #[]) (.tail _ (.head _))))
              rcases List.mem_cons.mp hp with rfl | hp
              · exact in3 _ (inT _ (t1 _ (by k_mem)) (Nat.ne_of_lt (Nat.lt_succ_of_lt (Nat.lt_succ_of_lt (Nat.lt_succ_of_lt (Nat.lt_succ_of_lt la.2.1)))))) (Ne.symm (oS (244, tabObj #[]) (.head _)))
              exact in3 _ (inT _ (t1 _ (.tail _ (.tail _ (.tail _ (.tail _ (.tail _ (.tail _ (.tail _ (.tail _ hp))))))))) (Nat.ne_of_lt (Nat.lt_succ_of_lt (Nat.lt_succ_of_lt (Nat.lt_succ_of_lt (Nat.lt_succ_of_lt (ktn_ltOf la.2.2.2 p hp))))))) (o244 p hp)
            have hme : ms = (c.map pairD).map (fun p => kindD b (fldD v p)) := by
              rw [← hms, List.map_map]
              exact List.map_congr_left fun p _ => (keyP_eq b v p).symm
            have hdd : fs.flatMap (fun q => (c.map pairD).filter fun x => eqD (kindD b (fldD v x)) q) = dueD b v turned (c.map pairD) := by
              unfold dueD
              rw [← hme, ← hfs, ← hfs2]
            rw [hl8, List.take_length, hdd] at hvd
            have hrk : ∀ d ∈ c.map pairD, KB true (kindD b (fldD v d)) := fun d hd => by
              obtain ⟨p, _, rfl⟩ := List.mem_map.mp hd
              rw [keyP_eq]
              exact keyP_kb ..
            have hdq : ∀ d ∈ dueD b v turned (c.map pairD), kqdOk 8 d = true := fun d hd => by
              unfold dueD at hd
              obtain ⟨q, _, hq⟩ := List.mem_flatMap.mp hd
              exact htab.rows hc6 d (List.mem_filter.mp hq).1
            clear N17 N15 F16
            k_steps
            rename_i tkq lq h19 F19 N19 lq1 v9 hv9
            obtain ⟨tt, rfl⟩ : ∃ tt, v9 = Value.str (if v then Str.ofString "value" else Str.ofString "key") tt := by
              subst hv
              cases v
              · exact ⟨_, (Option.some.inj hv9).symm⟩
              · exact ⟨_, (Option.some.inj hv9).symm⟩
            refine ⟨?_⟩
            refine dictsort_use (d := d0) (od := od) (kvs := kvs) (c := c) (b := b) (v := v) (turned := turned) B' F19 X' (cb_drop N19 (subCons (.tail _ (.head _)) fun p hp => .tail _ (.tail _ hp))) T' rfl (by walk_at "room") (by have hcL9 := cLine_is; walk_at "room") (CodeHd.keeps C3 FG.keep) n2 hod lo0 hrel (htab.pairs hc6) hc3 ?_
            intro J out k ps tups h20 tk20 hout F20 N20
            rw [dsort_eq hrk] at hout
            clear N19 F19
            k_steps
            refine ⟨?_⟩
            refine eq_same N20 (.head _) (.tail _ (List.mem_append_right _ (.tail _ n1))) hout (fun p hp => .tail _ (List.mem_append_left _ hp)) hvd (fun p hp => .tail _ (List.mem_append_right _ (.tail _ (n6 p hp)))) hdq (by units_room) rfl ?_
            k_steps
            rename_i kF kN kT kX
            exact ret _ _ _ _ _ ps _ _ ok4 kF (cb_drop kN (subCons (.tail _ (List.mem_append_right _ (.tail _ (n7 _ (.head _))))) (subCons (.tail _ (List.mem_append_right _ (.tail _ (n7 _ (.tail _ (.head _)))))) (subCons (.tail _ (List.mem_append_right _ (.head _))) fun p hp => .tail _ (List.mem_append_right _ (.tail _ (n7 p (.tail _ (.tail _ hp)))))))))
end
end
section
theorem intsAt : ∀ {vs : List Value} {ns : List Int}, IntsAre vs ns → ∀ {i : Nat} {v : Value}, vs[i]? = some v → ∃ n t, v = .int n t
  | _, _, .nil, i, v, h => by simp at h
  | _, _, .cons n t r, 0, v, h => by
    simp only [List.getElem?_cons_zero, Option.some.injEq] at h
    exact ⟨n, t, h.symm⟩
  | _, _, .cons n t r, i + 1, v, h => by
    simp only [List.getElem?_cons_succ] at h
    exact intsAt r h
theorem ints_snoc : ∀ {vs : List Value} {ns : List Int}, IntsAre vs ns → ∀ (n : Int) (t : Tok), IntsAre (vs ++ [.int n t]) (ns ++ [n])
  | _, _, .nil, n, t => .cons n t .nil
  | _, _, .cons a u r, n, t => .cons a u (ints_snoc r n t)
theorem ints_len : ∀ {vs : List Value} {ns : List Int}, IntsAre vs ns → vs.length = ns.length
  | _, _, .nil => rfl
  | _, _, .cons a u r => by simp [ints_len r]
local macro_rules | `(tactic| walk_at "call ref") => `(tactic| ((first | (with_reducible show wpAny _ _ (call (Value.ref 321) _ _) _ _ _) | (with_reducible show wpAny _ _ (call (Value.ref 374) _ _) _ _ _) | (with_reducible show wpAny _ _ (call (Value.ref 379) _ _) _ _ _) | (with_reducible show wpAny _ _ (call (Value.ref 273) _ _) _ _ _) | (with_reducible show wpAny _ _ (call (Value.ref 369) _ _) _ _ _)); refine Hold.out ?_))
local macro_rules | `(tactic| walk_at "compareOp NotEq ref ref") => `(tactic| refine Hold.out ?_)
local macro_rules | `(tactic| walk_at "room") => `(tactic| first | decide | (show 4 + 3 + _ < cLine; omega))
local macro_rules | `(tactic| walk_at "call builtin:str.join") => `(tactic| refine Hold.out ?_)
local macro_rules | `(tactic| walk_at "compareOp NotEq str str") => `(tactic| refine Hold.out ?_)
local macro_rules | `(tactic| walk_at "compareOp Eq str str") => `(tactic| refine Hold.out ?_)
structure HaltT : Prop where
  it : True
local macro_rules | `(tactic| walk_at "call ref") => `(tactic| (with_reducible rename HaltT => ht9; refine Hold.out ?_))
theorem law_holds : PySem.Challenge.rw_bb0048_01.Holds := hd1 (by
  k_fill
  intro w s₀ s₁ mg mb G Y fa o pm cd doc dV kV ho hd hcd hD hmg hg args vals as hpre hlay hrd hwl hlo
  have KX := km_in_of Y
  km_tabs Y
  have X := (Ground.X G).1
  have V := (Ground.X G).2
  refine Ground.open G ?_
  intro T B D TE TW
  try (refine guard_noD D (by decide +kernel) ?_; clear D)
  have hT9 : TabsAt ([(248, 244), (229, 225), (235, 233), (272, 268)] : List (Addr × Addr)) _ := List.forall_mem_cons.mpr ⟨⟨codeHd_of_K (c := 248) (P := 244) KX (by kernel_rfl), hT8 244 (by k_mem)⟩, List.forall_mem_cons.mpr ⟨⟨codeHd_of_K (c := 229) (P := 225) KX (by kernel_rfl), hT8 225 (by k_mem)⟩, List.forall_mem_cons.mpr ⟨⟨codeHd_of_K (c := 235) (P := 233) KX (by kernel_rfl), hT8 233 (by k_mem)⟩, List.forall_mem_cons.mpr ⟨⟨codeHd_of_K (c := 272) (P := 268) KX (by kernel_rfl), hT8 268 (by k_mem)⟩, (fun _ h => nomatch h)⟩⟩⟩⟩
  clear hmg
  wrow_args hpre hlay hrd hwl hlo
  refine enter_call ?_
  w_top on
  refine post_B hT9 (fun _ _ => rfl) (by wrow_post) ?_
  w_call any ho hd hcd hD T F
  clear hd
  kn_ghosts F T
  k_drop
  try k_fold
  k_steps
  rename_i scr hs0 hlay0 hL1 hr1 hl2 wA wB S0 sv wC hLs hra hw1 hr0 hIs hrr hc1 hc2 h0 tk0 oD dD0 X0 X' T' K' C1 C2 C3 l0 S9 ws h1 F1 N1 hI1 hC1 hL1' lS
  refine SrcJ.list (vs := ws) (k := 0) (J := fun i zs nw => nw = [(S9, listOf ws.toArray 0), (s₁.heap.objs.size + 1, oD), (244, tabObj #[]), (225, tabObj #[]), (233, tabObj #[]), (268, tabObj #[])] ∧ ∃ ns, IntsAre zs ns ∧ ns.length ≤ i ∧ ∀ n ∈ ns, 0 ≤ n ∧ n < 10 ^ 15) rfl F1 N1 (.head _) (by have z := ints_len hI1; omega) ?_ ⟨rfl, [], .nil, Nat.le_refl _, fun _ h => nomatch h⟩ ?_ ?_
  · rintro j ys nw ⟨rfl, _⟩
    exact .head _
  · intro g i y I oI C oC DD m₂ h tk zs news' E' hi hzl hy hJ hoC hm₂ F2 N2 off hne
    obtain ⟨rfl, ns, hzi, hnl, hnr⟩ := hJ
    obtain ⟨nv, tv, rfl⟩ := intsAt hI1 hy
    refine wpAny_tests_nil ?_
    simp only [if_true]
    k_steps
    refine TurnJ.intro [(S9, listOf ws.toArray 0), (s₁.heap.objs.size + 1, oD), (244, tabObj #[]), (225, tabObj #[]), (233, tabObj #[]), (268, tabObj #[])] F2 N2 (by k_sub) off ⟨rfl, ns ++ [_], ints_snoc hzi _ _, by rw [List.length_append, List.length_singleton]; omega, ?_⟩
    intro n hn
    rcases List.mem_append.mp hn with hn | hn
    · exact hnr n hn
    · rw [List.mem_singleton.mp hn]
      have e15 : ((10 : Int) ^ Int.toNat 15) = 10 ^ 15 := rfl
      rw [e15]
      exact ⟨Int.fmod_nonneg_of_pos _ (by decide), Int.fmod_lt_of_pos _ (by decide)⟩
  · rintro S ys nw h tk F2 N2 o1 ⟨rfl, ns, hzi, hnl, hnr⟩
    simp only [Off1] at o1
    obtain ⟨oa, ob, oc, od, oe, of, _⟩ := o1
    k_steps
    rename_i D hx2 l1 hx3 o1' F3 N3 dD1
    have oDS : @Ne Nat D S := Nat.ne_of_gt l1.1
    have okd : DrawOk 0 ys := ⟨by decide, by decide, ns, hzi, by have z := ints_len hI1; omega, hnr⟩
    refine ⟨?_⟩
    refine Says.use (row_K w D S 0 tk0 0 ys.length ys [(s₁.heap.objs.size + 1, o1'), (244, tabObj #[]), (225, tabObj #[]), (233, tabObj #[]), (268, tabObj #[])] oDS (by repeat' (first | (show @Ne Nat _ _; omega) | exact List.forall_mem_nil _ | refine List.forall_mem_cons.mpr ⟨?_, ?_⟩)) (by repeat' (first | (show @Ne Nat _ _; omega) | exact List.forall_mem_nil _ | refine List.forall_mem_cons.mpr ⟨?_, ?_⟩)) okd) K' F3 X' (cb_drop N3 (by k_sub)) T' rfl (by decide) (by have := cLine_is; show 4 + 3 + 1200 < cLine; omega) ?_
    rintro v news' h4 tk4 ⟨R, rvs, nR, kb, ds, q4, t4, n4, k4, vs4, rfl, rfl, ok4, hrs, hlen, hit, hDR, hSR, hrR⟩ F4 N4
    have hrl := hrs.length
    have hR' := gnNe_of hrR
    simp only [GnNe] at hR'
    clear N3 F3
    k_steps
    rename_i tkq trq h5a Gv cG h5b lG h5 F5 N5
    refine ⟨?_⟩
    refine rows_K (kb := kb) (ds := ds) (n1 := n4) (n2 := k4) (n := nR) (rest := [(Gv, listOf rvs.toArray cG), (s₁.heap.objs.size + 1, o1'), (244, tabObj #[]), (268, tabObj #[])]) K' F5 X' (cb_drop N5 (by k_sub)) T' rfl (by decide) (by have := cLine_is; show 4 + 3 + 6000 < cLine; omega) C2 C3 (AllBare.of_eq hg) (by repeat' (first | (refine List.forall_mem_cons.mpr ⟨?_, ?_⟩) | exact List.forall_mem_nil _ | (show @Ne Nat _ _; omega))) (by repeat' (first | (refine List.forall_mem_cons.mpr ⟨?_, ?_⟩) | exact List.forall_mem_nil _ | (show @Ne Nat _ _; omega))) (by repeat' (first | (refine List.forall_mem_cons.mpr ⟨?_, ?_⟩) | exact List.forall_mem_nil _ | (show @Ne Nat _ _; omega))) (by repeat' (first | (refine List.forall_mem_cons.mpr ⟨?_, ?_⟩) | exact List.forall_mem_nil _ | (show @Ne Nat _ _; omega))) (by repeat' (first | (refine List.forall_mem_cons.mpr ⟨?_, ?_⟩) | exact List.forall_mem_nil _ | (show @Ne Nat _ _; omega))) ok4 hrs hlen hit ?_
    intro q6 t6 n6 k6 vs6 psA psB h6 tk6 gs6 ok6 G6 F6 N6
    clear N5 F5
    k_steps
    refine ⟨?_⟩
    refine ne_same N6 (.tail _ (.tail _ (.head _))) (by k_mem) hrs subNil hrs subNil (fun d hd => (hit d hd).ok 8) (by have := cLine_is; show 4 + 3 + 64 < cLine; omega) rfl ?_
    k_steps
    refine ⟨?_⟩
    refine dicts_K (n1 := n6) (n2 := k6) (rest := [(R, listOf rvs.toArray nR), (225, tabObj psA), (233, tabObj psB), (Gv, listOf rvs.toArray cG), (s₁.heap.objs.size + 1, o1'), (268, tabObj #[])]) K' F6 X' (cb_drop N6 (by k_sub)) T' rfl (by decide) (by have := cLine_is; show 4 + 3 + 6000 < cLine; omega) C1 (by repeat' (first | (refine List.forall_mem_cons.mpr ⟨?_, ?_⟩) | exact List.forall_mem_nil _ | (show @Ne Nat _ _; omega))) (by repeat' (first | (refine List.forall_mem_cons.mpr ⟨?_, ?_⟩) | exact List.forall_mem_nil _ | (show @Ne Nat _ _; omega))) (by repeat' (first | (refine List.forall_mem_cons.mpr ⟨?_, ?_⟩) | exact List.forall_mem_nil _ | (show @Ne Nat _ _; omega))) ok6 ?_
    intro q7 t7 n7 k7 vs7 psC h7 tk7 ok7 F7 N7
    clear N6 F6
    k_steps
    rename_i r8 q8 t8 u8 m8 k8 vs8 h8 tk8 ok8 rlo8 rhi8 F8 N8 he8 hb8 h9 tk9 ta tb tc hr9 F9 N9 kk9
    obtain ⟨n9, hnr9, hn9, hsm9⟩ := range1_facts (r := 1 + r8) (by omega) (by omega)
    clear F7 N7 F8 N8
    refine SrcJ.range (J := fun i ys nw => ∃ lns q' t1 n1' n2' vs', nw = (D, drawsO q' t1 S n1') :: (S, listOf (List.toArray vs') n2') :: [(244, tabObj psC), (R, listOf rvs.toArray nR), (225, tabObj psA), (233, tabObj psB), (Gv, listOf rvs.toArray cG), (s₁.heap.objs.size + 1, o1'), (268, tabObj #[])] ∧ DrawOk q' vs' ∧ DatAll [] ys (List.map Dat.str lns) ∧ lns.length = i ∧ ∀ l ∈ lns, l ∈ words4) rfl F9 N9 hr9 hsm9 hn9 (by omega) ⟨[], _, _, _, _, _, rfl, ok8, .nil, rfl, by simp⟩ ?_ ?_
    · intro g i v I oI C oC D' m₂ h tk ys news' E' hi hyl ⟨tv, hv⟩ ⟨lns, q', t1', n1', n2', vs', hnw, ok', hlns, hll, hlw⟩ hoC hm₂ F' N' off hIC
      subst hnw
      subst hv
      simp only [Off3] at off
      refine wpAny_tests_nil ?_
      simp only [if_true]
      clear F9 N9
      have haltT : HaltT := ⟨trivial⟩
      k_steps
      refine ⟨?_⟩
      (refine' take_use ?B ?F ?X ?N ?T ?hk ?p1 ?p2 ?hDS ?hDr ?hSr ?hd ?hu ?hk0 ?hk1 ?ok ?_; (case B => k_asm); (case F => k_asm); (case X => k_asm); (case N => k_asm); (case T => k_asm); (case hk => first | exact rfl | assumption); (case p1 => walk_at "pick"); (case p2 => walk_at "pick"); (case hDS => (first | assumption | k_ne)))
      case hd => walk_at "room"
      case hu => (have hcL9 := cLine_is; walk_at "room")
      case hk0 => first | decide | omega
      case hk1 => first | decide | omega
      case ok => assumption
      case hDr => exact List.forall_mem_cons.mpr ⟨by show @Ne Nat _ _; k_ne, List.forall_mem_cons.mpr ⟨Ne.symm off.1.1, List.forall_mem_cons.mpr ⟨Ne.symm off.1.2.1, List.forall_mem_cons.mpr ⟨Ne.symm off.1.2.2, List.forall_mem_cons.mpr ⟨Nat.ne_of_lt l1.2.2.2.1, List.forall_mem_cons.mpr ⟨Ne.symm hDR, List.forall_mem_cons.mpr ⟨Nat.ne_of_lt l1.2.2.2.2.1, List.forall_mem_cons.mpr ⟨Nat.ne_of_lt l1.2.2.2.2.2.1, List.forall_mem_cons.mpr ⟨Nat.ne_of_gt lG.2.1, List.forall_mem_cons.mpr ⟨Nat.ne_of_lt l1.2.2.1, List.forall_mem_cons.mpr ⟨Nat.ne_of_lt l1.2.2.2.2.2.2, List.forall_mem_nil _⟩⟩⟩⟩⟩⟩⟩⟩⟩⟩⟩
      case hSr => exact List.forall_mem_cons.mpr ⟨by show @Ne Nat _ _; k_ne, List.forall_mem_cons.mpr ⟨Ne.symm off.2.1.1, List.forall_mem_cons.mpr ⟨Ne.symm off.2.1.2.1, List.forall_mem_cons.mpr ⟨Ne.symm off.2.1.2.2, List.forall_mem_cons.mpr ⟨oc, List.forall_mem_cons.mpr ⟨Ne.symm hSR, List.forall_mem_cons.mpr ⟨od, List.forall_mem_cons.mpr ⟨oe, List.forall_mem_cons.mpr ⟨Nat.ne_of_gt lG.2.2.1, List.forall_mem_cons.mpr ⟨ob, List.forall_mem_cons.mpr ⟨of, List.forall_mem_nil _⟩⟩⟩⟩⟩⟩⟩⟩⟩⟩⟩
      intro rX qX tX uX mX kX vX hX tkX okX rloX rhiX FX NX
      k_steps
      rename_i v9 hv9
      obtain ⟨xw, tw, rfl, hxw⟩ : ∃ x t, v9 = Value.str x t ∧ x ∈ words4 := by
        have hm := List.mem_of_getElem? hv9
        simp only [List.mem_cons, List.not_mem_nil, or_false] at hm
        rcases hm with rfl | rfl | rfl | rfl <;> exact ⟨_, _, rfl, by decide +kernel⟩
      refine TurnJ.intro ((D, drawsO qX tX S mX) :: (S, listOf (List.toArray vX) kX) :: [(244, tabObj psC), (R, listOf rvs.toArray nR), (225, tabObj psA), (233, tabObj psB), (Gv, listOf rvs.toArray cG), (s₁.heap.objs.size + 1, o1'), (268, tabObj #[])]) (by with_reducible assumption) (by with_reducible assumption) (by k_sub) (by simp only [Off3]; exact off) ⟨lns ++ [xw], qX, tX, mX, kX, vX, rfl, okX, by rw [List.map_append]; exact hlns.append (.one (.str _ _)), by simp [hll], fun d hd => (List.mem_append.mp hd).elim (hlw d) fun hd => by rw [List.mem_singleton.mp hd]; exact hxw⟩
    · rintro LN ys nw h tk F' N' o1 ⟨lns, q', t1', n1', n2', vs', rfl, ok', hlns, hll, hlw⟩
      simp only [Off1] at o1
      obtain ⟨la, lr, rfl⟩ : ∃ la lr, lns = la :: lr := by
        cases lns with
        | nil => simp at hll; omega
        | cons a r => exact ⟨a, r, rfl⟩
      have lok : LinesOk (la :: lr) := ⟨by simp, by omega, hlw⟩
      have hz4 := lok.2.1
      have hB100 : ∀ l ∈ la :: lr, l.length ≤ 100 := fun l hl => Nat.le_trans (words4_len l (hlw l hl)) (by decide)
      have e1 : (Str.ofString "\n").length = 1 := by decide +kernel
      have hjl : (Txt.join nlS (la :: lr)).length ≤ 100 := by
        have z := sum_len (B := 9) (l := la :: lr) fun l hl => words4_len l (hlw l hl)
        have z2 := StrLaws.join_length_le nlS (la :: lr)
        rw [e1] at z2
        show (PySem.Builtin.Str.glued nlS (la :: lr)).length ≤ 100
        rw [StrLaws.glued_eq_join]
        omega
      clear F9 N9
      k_steps
      rename_i rA qA tA uA mA kA vA hA tkA okA rloA rhiA rB qB tB uB mB kB vB hB' tkB okB rloB rhiB rC qC tC uC mC kC vC hC tkC okC rloC rhiC Tt hA1 lTt hA2 hA3 hA4 hA5 tm km kxZ kxN hA6 FA NA
      have hil : (Txt.mul (Str.ofString " ") rA).length ≤ 10 := by
        have z := kxN rloA
        omega
      have hil2 : (Str.ofString "> ").length ≤ 10 := by decide +kernel
      refine ⟨?_⟩
      refine join_S NA (by k_mem) hlns hB100 hz4 (by omega) ?_
      intro tJ kJ
      k_steps
      refine ⟨?_⟩
      refine doindent_use (ind := Txt.mul (Str.ofString " ") rA) (first := rB == 1) (blank := rC == 1) (rest := [(LN, lst ys), (D, drawsO qC tC S mC), (S, listOf (List.toArray vC) kC), (244, tabObj psC), (R, listOf rvs.toArray nR), (225, tabObj psA), (233, tabObj psB), (Gv, listOf rvs.toArray cG), (s₁.heap.objs.size + 1, o1')]) (.inl rfl) (.inl ⟨rA, _, rfl, rloA, rhiA, rfl⟩) K' FA X' (cb_drop NA (by k_sub)) T' rfl (by decide) (by have := cLine_is; show 4 + 3 + 3000 < cLine; omega) codeHd lok hil (by repeat' (first | (refine List.forall_mem_cons.mpr ⟨?_, ?_⟩) | exact List.forall_mem_nil _ | (show @Ne Nat _ _; omega))) G6 hjl ?_
      intro tD hD1 tkD gsD psD hpsD GD FD ND
      rw [indent_eq (List.cons_ne_nil _ _)]
      clear NA FA
      k_steps
      refine ⟨?_⟩
      refine indented_use (n := ys.length) (lvs := ys) (ls := la :: lr) (mark := Txt.mul (Str.ofString " ") rA) (first := rB == 1) (blank := rC == 1) (rest := [(268, tabObj psD), (D, drawsO qC tC S mC), (S, listOf (List.toArray vC) kC), (244, tabObj psC), (R, listOf rvs.toArray nR), (225, tabObj psA), (233, tabObj psB), (Gv, listOf rvs.toArray cG), (s₁.heap.objs.size + 1, o1')]) K' FD X' (cb_drop ND (by k_sub)) T' rfl (by decide) (by have := cLine_is; show 4 + 3 + 3000 < cLine; omega) hlns lok hil (by repeat' (first | (refine List.forall_mem_cons.mpr ⟨?_, ?_⟩) | exact List.forall_mem_nil _ | (show @Ne Nat _ _; omega))) ?_
      intro tI hI tkI FI NI
      clear ND FD
      k_steps
      refine ⟨?_⟩
      refine P.ne_str ?_
      simp only [bne_self_eq_false]
      k_steps
      refine ⟨?_⟩
      refine join_S NI (.head _) hlns hB100 hz4 (by omega) ?_
      intro tJ2 kJ2
      k_steps
      refine ⟨?_⟩
      refine doindent_use (ind := Str.ofString "> ") (first := rB == 1) (blank := rC == 1) (rest := [(LN, lst ys), (D, drawsO qC tC S mC), (S, listOf (List.toArray vC) kC), (244, tabObj psC), (R, listOf rvs.toArray nR), (225, tabObj psA), (233, tabObj psB), (Gv, listOf rvs.toArray cG), (s₁.heap.objs.size + 1, o1')]) hpsD (.inr ⟨_, rfl⟩) K' FI X' (cb_drop NI (by k_sub)) T' rfl (by decide) (by have := cLine_is; show 4 + 3 + 3000 < cLine; omega) codeHd lok hil2 (by repeat' (first | (refine List.forall_mem_cons.mpr ⟨?_, ?_⟩) | exact List.forall_mem_nil _ | (show @Ne Nat _ _; omega))) GD hjl ?_
      intro tE hE tkE gsE psE hpsE GE FE NE
      rw [indent_eq (List.cons_ne_nil _ _)]
      clear NI FI
      k_steps
      refine ⟨?_⟩
      refine indented_use (n := ys.length) (lvs := ys) (ls := la :: lr) (mark := Str.ofString "> ") (first := rB == 1) (blank := rC == 1) (rest := [(268, tabObj psE), (D, drawsO qC tC S mC), (S, listOf (List.toArray vC) kC), (244, tabObj psC), (R, listOf rvs.toArray nR), (225, tabObj psA), (233, tabObj psB), (Gv, listOf rvs.toArray cG), (s₁.heap.objs.size + 1, o1')]) K' FE X' (cb_drop NE (by k_sub)) T' rfl (by decide) (by have := cLine_is; show 4 + 3 + 3000 < cLine; omega) hlns lok hil2 (by repeat' (first | (refine List.forall_mem_cons.mpr ⟨?_, ?_⟩) | exact List.forall_mem_nil _ | (show @Ne Nat _ _; omega))) ?_
      intro tZ hZ tkZ FZ NZ
      clear NE FE
      k_steps
      refine ⟨?_⟩
      refine P.eq_str ?_
      simp only [beq_self_eq_true]
      k_steps
      exact ⟨rfl, fun b o e => FZ.keep b o e, rfl, GE, GrownAt.of NZ (by k_mem), GrownAt.of NZ (by k_mem), GrownAt.of NZ (by k_mem), GrownAt.of NZ (by k_mem), trivial⟩)
end
end
end
end
end
end
end
end
end
end
end
end
end
end Mine
end
theorem PySem.Challenge.cw_bb0048_01_holds : PySem.Challenge.rw_bb0048_01.Holds :=
  Mine.law_holds
