import PyProof.Rows.All
import Wide.All
import OpenK.AllK
import Wide.FinOn
import PySem.Challenge.RW_re0078_01
open PySem PySem.W PySem.Calls PyProof.Rows
set_option Elab.async false
set_option maxRecDepth 100000
set_option maxHeartbeats 8000000
namespace Mine
open_top hd for PySem.Challenge.rw_re0078_01
end Mine
namespace Mine
theorem calm0 : True := by
  w_top off
  first
    | (walk1; trivial)
    | trivial
end Mine
namespace Mine
noncomputable abbrev PR := PySem.Challenge.rw_re0078_01.row.prog
abbrev Row := List Bool
def labC (b : Bool) : Nat := cond b 121 120
def hostL : Row → List Nat
  | [] => [108, 111, 99, 97, 108]
  | b :: r => labC b :: 46 :: hostL r
def host (r : Row) : Str := ⟨(hostL r).toArray⟩
def rungS (r : Row) : Str := ⟨(46 :: hostL r).toArray⟩
def rows15 : List Row := [[], [false], [true], [false, false], [false, true], [true, false], [true, true],
  [false, false, false], [false, false, true], [false, true, false], [false, true, true], [true, false, false], [true, false, true], [true, true, false], [true, true, true]]
theorem row_mem : ∀ r : Row, r.length ≤ 3 → r ∈ rows15
  | [], _ => by decide
  | [a], _ => by cases a <;> decide
  | [a, b], _ => by cases a <;> cases b <;> decide
  | [a, b, c], _ => by cases a <;> cases b <;> cases c <;> decide
  | _ :: _ :: _ :: _ :: _, h => by simp at h
theorem srch {P : Params} {t : Tok} : ∀ r ∈ rows15, peek (hd.heap_39 P) ⟨PR, P⟩ (Builtin.«re.Pattern.search» ⟨[.ref 92, .str (host r) t], []⟩) = some (.done (.ret .none)) := by
  intro r hr
  simp only [rows15, List.mem_cons, List.not_mem_nil, or_false] at hr
  rcases hr with h | h | h | h | h | h | h | h | h | h | h | h | h | h | h <;> subst h <;> kernel_rfl
end Mine
namespace Mine
theorem calm1 : True := by
  w_top off
  first
    | (walk1; trivial)
    | trivial
end Mine
namespace Mine
theorem call0 {w : World} {A : Around} {s : Shared} {mean : ExcName → Option Value} {mg mb : Str → Option Value} {Q E : Value → Shared → Prop} {prog : Program} {K : Frag} {p : Program} {loose : List Str} {name qual : Str} {params : Arguments} {body : List Stmt} {scope : Scope} {dV kV doc pm cdv ct oc : Value} {an od : Option Addr} {osl : Array (Option Value)} {f : Addr} {args : List Value} (binds : List (Str × Value))
    (X : K.In s.heap) (T : Top p loose mean mg mb s.heap)
    (ho : K.lookup f = some ⟨oc, od, .func (fnOf name qual params body scope dV kV doc pm an cdv ct), osl⟩) (hcd : codeIn K cdv qual = true) (hroom : A.depth < recursionLimit)
    (hbind : BindsTo s (fnOf name qual params body scope dV kV doc pm an cdv ct) ⟨args, []⟩ binds) (hloc : ∀ y ∈ binds, scope.names.lookup y.1 = some .local)
    (h : ∀ L' h₁, Fr s.heap L' h₁ (fun y => binds.reverse.lookup y) → News s.heap L' h₁ [] → 
      wpAny (model prog w) (A.deeper (envOf qual scope L' f cdv)) (execs body (envOf qual scope L' f cdv))
        (fun fl s' => Q (match fl with | .ret v => v | _ => .none) s')
        (fun _ _ => False)
        { s with heap := h₁, toks := s.toks + binds.length })
    (hco : scope.isCoroutine = false) (hgen : scope.isGenerator = false) (hk : scope.kind = .function)
    (hcell : ∀ x ∈ scope.names, x.2 ≠ .cell) : wpAny (model prog w) A (call (.ref f) args) Q E s := by
  refine wpAny_call ?_
  refine codeAny_call_def (fd := fnOf name qual params body scope dV kV doc pm an cdv ct) (body := body) (binds := binds) hroom (X _ _ ho) rfl T.nolimit (codeRec_of X hcd) rfl hbind hcell hloc (fun h₁ hns hk₁ => ?_) hco hgen hk
  exact wpAny_mono (h _ h₁ ⟨hns, hk₁, Nat.le_refl _⟩ News.nil) (fun fl s' hl => by cases fl <;> exact hl) fun _ _ y => y.elim

theorem pat_attrs : PlainAttrs "re.Pattern" :=
  ⟨⟨"object.__getattribute__", by rw [typeLookup_type, builtinLookup_eq_fast]; kernel_rfl, by decide +kernel⟩, by rw [typeLookup_type, builtinLookup_eq_fast]; kernel_rfl⟩
theorem pat_slot : Slot "re.Pattern" "search" "re.Pattern.search" :=
  .of (owner := "re.Pattern") (n := "search") (by rw [typeLookup_type, builtinLookup_eq_fast]; kernel_rfl) (by decide +kernel) (by decide +kernel) (by decide +kernel)
    (by first | exact .inl (by decide +kernel) | exact .inr (by decide +kernel)) (by rw [isSubtype_type]; kernel_rfl)
theorem pat_type : typeOf (.builtin "re.Pattern.search") = pure (.type "method_descriptor") := by show builtinType _ = _; rw [builtinType_eq_fast]; kernel_rfl
theorem pat_entry : entryFor table "re.Pattern.search" = some Builtin.«re.Pattern.search» := entryFor_of_tree (by kernel_rfl)
theorem pat_args (a b : Value) : argsOk "re.Pattern.search" ⟨[a, b], []⟩ := by
  unfold argsOk; kernel_rfl
end Mine
namespace Mine
theorem calm2 : True := by
  w_top off
  first
    | (walk1; trivial)
    | trivial
end Mine
namespace Mine
theorem getMethod_pat {w : World} {A : Around} {E : Value → Shared → Prop} {s : Shared} {h₀ : Heap} {L : Addr} {m : Str → Option Value} {pl : Sem Bool} {Q : Value × List Value → Shared → Prop} (F : Fr h₀ L s.heap m) (X : (hd.heap_39 w.params).In h₀)
   (h : Q (.builtin "re.Pattern.search", [.ref 92]) s) : wpAny (model PR w) A (getMethod (.ref 92) (Str.ofString "search") pl) Q E s := 
  getMethod_builtin (T := "re.Pattern") ⟨_, X.keeps F.keep 92 _ rfl, rfl⟩ pat_attrs pat_slot pat_type (fun b e => by cases e; exact ⟨_, X.keeps F.keep 92 _ rfl, rfl⟩) h

structure HDN (w : World) (x : Str) : Prop where
  srch : ∀ t, peek (hd.heap_39 w.params) ⟨PR, w.params⟩ (Builtin.«re.Pattern.search» ⟨[.ref 92, .str x t], []⟩) = some (.done (.ret .none))
  ne : (x == Str.ofString "") = false
  len : 1 ≤ x.length
  first : (Txt.item x 0 == Str.ofString ".") = false
  last : (Txt.item x (-1) == Str.ofString ".") = false
theorem hdn (w : World) : ∀ r ∈ rows15, HDN w (host r) := fun r hr =>
  ⟨fun _ => srch r hr, by revert r; decide +kernel, by revert r; decide +kernel, by revert r; decide +kernel, by revert r; decide +kernel⟩
theorem call_search {w : World} {A : Around} {E : Value → Shared → Prop} {s : Shared} {h₀ : Heap} {L : Addr} {m : Str → Option Value} {x : Str} {t : Tok} {Q : Value → Shared → Prop} (F : Fr h₀ L s.heap m) (X : (hd.heap_39 w.params).In h₀)
   (H : HDN w x) (h : Q .none s) : wpAny (model PR w) A (call (.builtin "re.Pattern.search") [.ref 92, .str x t]) Q E s := 
  wpAny_call_entry (T := "re.Pattern") pat_slot ⟨_, X.keeps F.keep 92 _ rfl, rfl⟩ pat_entry ((Looks.of_peek (X.keeps F.keep) (H.srch t)).here ⟨_, rfl, h⟩) (pat_args _ _)

local macro_rules | `(tactic| walk_at "getMethod ref") => `(tactic| (k_here; (with_reducible show wpAny _ _ (getMethod (Value.ref 92) _ _) _ _ _); k_dflt (refine' getMethod_pat ?k1 ?k2 ?_; (case k1 => k_asm); (case k2 => k_asm); k_whole)))
local macro_rules | `(tactic| walk_at "call builtin:re.Pattern.search") => `(tactic| (k_here; k_dflt (refine' call_search ?k1 ?k2 ?k3 ?_; (case k1 => k_asm); (case k2 => k_asm); (case k3 => assumption); k_whole)))
theorem isHDN {w : World} {A : Around} {s : Shared} {mean : ExcName → Option Value} {mg mb : Str → Option Value} {p : Program} {loose : List Str} {Q E : Value → Shared → Prop} {x : Str} {t : Tok}
    (X : (hd.heap_39 w.params).In s.heap) (T : Top p loose mean mg mb s.heap) (hroom : A.depth + 3 < recursionLimit)
    (H : HDN w x) (h : ∀ s', Keeps s s' → Q (.bool true) s') : wpAny (model PR w) A (call (.ref 99) [.str x t]) Q E s := by
  have GG : PySem.Challenge.rw_re0078_01 = PySem.Challenge.rw_re0078_01 ∧ hd.heap_39 = hd.heap_39 := ⟨rfl, rfl⟩
  revert GG
  k_fill
  intro _
  have h0 := H.len
  have h1 := H.ne
  have h2 := H.first
  have h3 := H.last
  k_dflt (refine' call0 [(Str.ofString "text", .str x t)] X T ?k6 ?k7 ?k8 ?k9 ?kB ?_ ?c2 ?c3 ?c4 ?c5; (case k6 => k_is); (case k7 => k_is); (case k8 => omega); (case k9 => exact BindsTo.of_eq rfl); (case c5 => decide); (case kB => exact locs rfl); (case c2 => exact rfl); (case c3 => exact rfl); (case c4 => exact rfl); k_whole; intro L' h' F' N'; (try dsimp only); (try k_fold))
  k_steps
  all_goals dsimp only [qk]
  all_goals first
    | exact h _ ⟨_, _, rfl, F'.keep⟩
    | exact Bool.noConfusion (h1.symm.trans (show (x == Str.ofString "") = true by assumption))
    | exact Bool.noConfusion (h2.symm.trans (show (Txt.item x 0 == Str.ofString ".") = true by assumption))
    | exact Bool.noConfusion (h3.symm.trans (show (Txt.item x (-1) == Str.ofString ".") = true by assumption))
end Mine
namespace Mine
theorem calm3 : True := by
  w_top off
  first
    | (walk1; trivial)
    | trivial
end Mine
namespace Mine
theorem isHDN_N {w : World} {A : Around} {s : Shared} {h₀ : Heap} {L : Addr} {m : Str → Option Value} {news : List (Addr × Obj)} {mean : ExcName → Option Value} {mg mb : Str → Option Value} {p : Program} {loose : List Str} {Q E : Value → Shared → Prop} {x : Str} {t : Tok}
    (F : Fr h₀ L s.heap m) (N : News h₀ L s.heap news) (X : (hd.heap_39 w.params).In h₀) (T : Top p loose mean mg mb h₀) (hroom : A.depth + 3 < recursionLimit)
    (H : HDN w x) (h : ∀ h' tk, Fr h₀ L h' m → News h₀ L h' news → Q (.bool true) { s with heap := h', toks := tk }) : wpAny (model PR w) A (call (.ref 99) [.str x t]) Q E s :=
  isHDN (X.keeps F.keep) (T.keeps F.keep) hroom H fun s' k => by
    obtain ⟨h', tk, rfl, kk⟩ := k
    exact h h' tk (F.keeps kk) (N.grown kk)
theorem find_is {w : World} {A : Around} {s : Shared} {Q E : Value → Shared → Prop} {x y : Str} {t u : Tok} {k : Int} {prog : Program} (e : Txt.find x y = k) (h : ∀ tk, Q (.int k s.toks) { s with toks := tk }) : wpAny (model prog w) A (call (.builtin "str.find") [.str x t, .str y u]) Q E s := by
  refine SC.find ?_
  rw [e]
  exact h _
local macro_rules | `(tactic| walk_at "call ref") => `(tactic| (k_here; (with_reducible show wpAny _ _ (call (Value.ref 99) _) _ _ _); k_dflt (refine' isHDN_N ?k1 ?k2 ?k3 ?k4 ?k5 ?k6 ?_; (case k1 => k_asm); (case k2 => k_asm); (case k3 => k_asm); (case k4 => k_asm); (case k5 => (dsimp only [Around.deeper]; omega)); (case k6 => assumption); k_whole); intro h9 tk9 F9 N9; (try dsimp only); (try k_fold)))
local macro_rules | `(tactic| walk_at "call builtin:str.find") => `(tactic| (refine find_is (by assumption) ?_; intro _))

theorem reachDot {w : World} {A : Around} {s : Shared} {mean : ExcName → Option Value} {mg mb : Str → Option Value} {p : Program} {loose : List Str} {Q E : Value → Shared → Prop} {x : Str} {t : Tok} {k2 : Int}
    (X : (hd.heap_39 w.params).In s.heap) (T : Top p loose mean mg mb s.heap) (hroom : A.depth + 5 < recursionLimit)
    (H : HDN w x) (hl : x.length ≤ 100) (f1 : Txt.find x (Str.ofString ".") = 1) (f2 : Txt.find (Txt.slice x (some (1 + 1)) none) (Str.ofString ".") = k2) (f3 : 0 ≤ k2 ∨ (Txt.slice x (some (1 + 1)) none == Str.ofString "local") = true)
    (h : ∀ s' t', Keeps s s' → Q (.str (Str.ofString "." ++ Txt.slice x (some (1 + 1)) none) t') s') : wpAny (model PR w) A (call (.ref 113) [.str x t]) Q E s := by
  have GG : PySem.Challenge.rw_re0078_01 = PySem.Challenge.rw_re0078_01 ∧ hd.heap_39 = hd.heap_39 := ⟨rfl, rfl⟩
  revert GG
  k_fill
  intro _
  k_dflt (refine' call0 [(Str.ofString "h", .str x t)] X T ?k6 ?k7 ?k8 ?k9 ?kB ?_ ?c2 ?c3 ?c4 ?c5; (case k6 => k_is); (case k7 => k_is); (case k8 => omega); (case k9 => exact BindsTo.of_eq rfl); (case c5 => decide); (case kB => exact locs rfl); (case c2 => exact rfl); (case c3 => exact rfl); (case c4 => exact rfl); k_whole; intro L' h' F' N'; (try dsimp only); (try k_fold))
  k_steps
  all_goals first
    | exact h _ _ ⟨_, _, rfl, Fr.keep (by with_reducible assumption)⟩
    | (exfalso; rcases f3 with f | f <;> first | omega | exact Bool.noConfusion (f.symm.trans (show (Txt.slice x (some (1 + 1)) none == Str.ofString "local") = false by assumption)))
theorem reachNone {w : World} {A : Around} {s : Shared} {mean : ExcName → Option Value} {mg mb : Str → Option Value} {p : Program} {loose : List Str} {Q E : Value → Shared → Prop} {x : Str} {t : Tok}
    (X : (hd.heap_39 w.params).In s.heap) (T : Top p loose mean mg mb s.heap) (hroom : A.depth + 5 < recursionLimit)
    (hl : x.length ≤ 100) (f1 : Txt.find x (Str.ofString ".") = -1)
    (h : ∀ s', Keeps s s' → Q (.str x t) s') : wpAny (model PR w) A (call (.ref 113) [.str x t]) Q E s := by
  have GG : PySem.Challenge.rw_re0078_01 = PySem.Challenge.rw_re0078_01 ∧ hd.heap_39 = hd.heap_39 := ⟨rfl, rfl⟩
  revert GG
  k_fill
  intro _
  k_dflt (refine' call0 [(Str.ofString "h", .str x t)] X T ?k6 ?k7 ?k8 ?k9 ?kB ?_ ?c2 ?c3 ?c4 ?c5; (case k6 => k_is); (case k7 => k_is); (case k8 => omega); (case k9 => exact BindsTo.of_eq rfl); (case c5 => decide); (case kB => exact locs rfl); (case c2 => exact rfl); (case c3 => exact rfl); (case c4 => exact rfl); k_whole; intro L' h' F' N'; (try dsimp only); (try k_fold))
  k_steps
  all_goals exact h _ ⟨_, _, rfl, Fr.keep (by with_reducible assumption)⟩

def reachS : Row → Str
  | [] => host []
  | _ :: q => rungS q
theorem reach_facts : ∀ r ∈ rows15, (host r).length ≤ 100 ∧ (r = [] → Txt.find (host r) (Str.ofString ".") = -1) ∧ (r ≠ [] → Txt.find (host r) (Str.ofString ".") = 1 ∧
    (0 ≤ Txt.find (Txt.slice (host r) (some (1 + 1)) none) (Str.ofString ".") ∨ (Txt.slice (host r) (some (1 + 1)) none == Str.ofString "local") = true) ∧ Str.ofString "." ++ Txt.slice (host r) (some (1 + 1)) none = reachS r) := by decide +kernel
theorem reach_N {w : World} {A : Around} {s : Shared} {h₀ : Heap} {L : Addr} {m : Str → Option Value} {news : List (Addr × Obj)} {mean : ExcName → Option Value} {mg mb : Str → Option Value} {p : Program} {loose : List Str} {Q E : Value → Shared → Prop} {r : Row} {t : Tok}
    (F : Fr h₀ L s.heap m) (N : News h₀ L s.heap news) (X : (hd.heap_39 w.params).In h₀) (T : Top p loose mean mg mb h₀) (hroom : A.depth + 5 < recursionLimit)
    (H : r ∈ rows15) (h : ∀ h' tk t', Fr h₀ L h' m → News h₀ L h' news → Q (.str (reachS r) t') { s with heap := h', toks := tk }) : wpAny (model PR w) A (call (.ref 113) [.str (host r) t]) Q E s := by
  obtain ⟨hl, f0, f1⟩ := reach_facts r H
  by_cases hr : r = []
  · refine reachNone (X.keeps F.keep) (T.keeps F.keep) hroom hl (f0 hr) fun s' k => ?_
    obtain ⟨h', tk, rfl, kk⟩ := k
    subst hr
    exact h h' tk t (F.keeps kk) (N.grown kk)
  · obtain ⟨f2, f3, f4⟩ := f1 hr
    refine reachDot (X.keeps F.keep) (T.keeps F.keep) hroom (hdn w r H) hl f2 rfl f3 fun s' t' k => ?_
    obtain ⟨h', tk, rfl, kk⟩ := k
    rw [f4]
    exact h h' tk t' (F.keeps kk) (N.grown kk)
end Mine
namespace Mine
theorem calm4 : True := by
  w_top off
  first
    | (walk1; trivial)
    | trivial
end Mine
namespace Mine
theorem rfind_is {w : World} {A : Around} {s : Shared} {Q E : Value → Shared → Prop} {x y : Str} {t u : Tok} {k : Int} {prog : Program} (e : Txt.rfind x y = k) (h : ∀ tk, Q (.int k s.toks) { s with toks := tk }) : wpAny (model prog w) A (call (.builtin "str.rfind") [.str x t, .str y u]) Q E s := by
  refine SC.rfind ?_
  rw [e]
  exact h _
theorem lower_is {w : World} {A : Around} {s : Shared} {Q E : Value → Shared → Prop} {x y : Str} {t : Tok} {prog : Program} (e : Txt.lower x = y) (hl : x.length ≤ 100) (h : ∀ tk, Q (.str y s.toks) { s with toks := tk }) : wpAny (model prog w) A (call (.builtin "str.lower") [.str x t]) Q E s := by
  refine SCL.lower (by omega) fun _ => ?_
  rw [e]
  exact h _
local macro_rules | `(tactic| walk_at "call ref") => `(tactic| (k_here; (with_reducible show wpAny _ _ (call (Value.ref 99) _) _ _ _); k_dflt (refine' isHDN_N ?k1 ?k2 ?k3 ?k4 ?k5 ?k6 ?_; (case k1 => k_asm); (case k2 => k_asm); (case k3 => k_asm); (case k4 => k_asm); (case k5 => (dsimp only [Around.deeper]; omega)); (case k6 => assumption); k_whole); intro h9 tk9 F9 N9; (try dsimp only); (try k_fold)))
local macro_rules | `(tactic| walk_at "call builtin:str.rfind") => `(tactic| (refine rfind_is (by assumption) ?_; intro _))
local macro_rules | `(tactic| walk_at "call builtin:str.lower") => `(tactic| (refine lower_is (by assumption) (by assumption) ?_; intro _))

theorem domMatch {w : World} {A : Around} {s : Shared} {mean : ExcName → Option Value} {mg mb : Str → Option Value} {p : Program} {loose : List Str} {Q E : Value → Shared → Prop} {x a y : Str} {t u : Tok} {k : Int}
    (X : (hd.heap_39 w.params).In s.heap) (T : Top p loose mean mg mb s.heap) (hroom : A.depth + 5 < recursionLimit)
    (e1 : Txt.lower x = a) (l1 : x.length ≤ 100) (e2 : Txt.lower y = y) (l2 : y.length ≤ 100) (e3 : (a == y) = false) (H1 : HDN w a) (e4 : Txt.rfind a y = k) (hk : k = -1 ∨ 1 ≤ k)
    (e5 : Txt.startswith y (Str.ofString ".") = true) (H2 : HDN w (Txt.slice y (some 1) none))
    (h : ∀ s', Keeps s s' → Q (.bool (decide (1 ≤ k))) s') : wpAny (model PR w) A (call (.ref 106) [.str x t, .str y u]) Q E s := by
  have GG : PySem.Challenge.rw_re0078_01 = PySem.Challenge.rw_re0078_01 ∧ hd.heap_39 = hd.heap_39 := ⟨rfl, rfl⟩
  revert GG
  k_fill
  intro _
  k_dflt (refine' call0 [(Str.ofString "A", .str x t), (Str.ofString "B", .str y u)] X T ?k6 ?k7 ?k8 ?k9 ?kB ?_ ?c2 ?c3 ?c4 ?c5; (case k6 => k_is); (case k7 => k_is); (case k8 => omega); (case k9 => exact BindsTo.of_eq rfl); (case c5 => decide); (case kB => exact locs rfl); (case c2 => exact rfl); (case c3 => exact rfl); (case c4 => exact rfl); k_whole; intro L' h' F' N'; (try dsimp only); (try k_fold))
  k_steps
  all_goals first
    | ((have e : decide (1 ≤ k) = false := decide_eq_false (by omega)); rw [e] at h; exact h _ ⟨_, _, rfl, Fr.keep (by with_reducible assumption)⟩)
    | ((have e : decide (1 ≤ k) = true := decide_eq_true (by omega)); rw [e] at h; exact h _ ⟨_, _, rfl, Fr.keep (by with_reducible assumption)⟩)
    | (exfalso; omega)

/-- q is a proper suffix of r -/
def under : Row → Row → Bool
  | [], _ => false
  | _ :: r, q => decide (r = q) || under r q
def upperS (r : Row) : Str := Txt.upper (host r)
theorem dm_facts : ∀ r ∈ rows15, (upperS r).length ≤ 100 ∧ Txt.lower (upperS r) = host r ∧ ∀ q ∈ rows15, (host r == rungS q) = false ∧ 
    (Txt.rfind (host r) (rungS q) = -1 ∨ 1 ≤ Txt.rfind (host r) (rungS q)) ∧ decide (1 ≤ Txt.rfind (host r) (rungS q)) = under r q := by decide +kernel
theorem rung_facts : ∀ q ∈ rows15, Txt.lower (rungS q) = rungS q ∧ (rungS q).length ≤ 100 ∧ Txt.startswith (rungS q) (Str.ofString ".") = true ∧ Txt.slice (rungS q) (some 1) none = host q := by decide +kernel
theorem domMatch_K {w : World} {A : Around} {s : Shared} {mean : ExcName → Option Value} {mg mb : Str → Option Value} {p : Program} {loose : List Str} {Q E : Value → Shared → Prop} {r q : Row} {t u : Tok}
    (X : (hd.heap_39 w.params).In s.heap) (T : Top p loose mean mg mb s.heap) (hroom : A.depth + 5 < recursionLimit)
    (hr : r ∈ rows15) (hq : q ∈ rows15) (h : ∀ s', Keeps s s' → Q (.bool (under r q)) s') : wpAny (model PR w) A (call (.ref 106) [.str (upperS r) t, .str (rungS q) u]) Q E s := by
  obtain ⟨a1, a2, a3⟩ := dm_facts r hr
  obtain ⟨b1, b2, b3⟩ := a3 q hq
  obtain ⟨c1, c2, c3, c4⟩ := rung_facts q hq
  refine domMatch X T hroom a2 a1 c1 c2 b1 (hdn w r hr) rfl b2 c3 (by rw [c4]; exact hdn w q hq) fun s' k => ?_
  rw [b3]
  exact h s' k
end Mine
namespace Mine
theorem calm5 : True := by
  w_top off
  first
    | (walk1; trivial)
    | trivial
end Mine
namespace Mine
theorem call0C {w : World} {A : Around} {s : Shared} {mean : ExcName → Option Value} {mg mb : Str → Option Value} {Q E : Value → Shared → Prop} {prog : Program} {K : Frag} {p : Program} {loose : List Str} {name qual : Str} {params : Arguments} {body : List Stmt} {scope : Scope} {dV kV doc pm cdv ct oc : Value} {an od : Option Addr} {osl : Array (Option Value)} {f : Addr} {args : List Value} (binds : List (Str × Value))
    (X : K.In s.heap) (T : Top p loose mean mg mb s.heap)
    (ho : K.lookup f = some ⟨oc, od, .func (fnOf name qual params body scope dV kV doc pm an cdv ct), osl⟩) (hcd : codeIn K cdv qual = true) (hroom : A.depth < recursionLimit)
    (hbind : BindsTo s (fnOf name qual params body scope dV kV doc pm an cdv ct) ⟨args, []⟩ binds) (hkind : (binds.all fun y => scope.names.lookup y.1 == some .local || scope.names.lookup y.1 == some .cell) = true)
    (hnd : ((cellsFrom 0 scope.names []).map (·.1)).Nodup)
    (h : ∀ L' h₁ tk cells, Fr s.heap L' h₁ (bindL (envOfC qual scope L' f cdv).kindOf binds fun _ => none) → News s.heap L' h₁ cells →
      CellsAre (bindC (envOfC qual scope L' f cdv).kindOf binds fun _ => none) (cellsFrom (L' + 1) scope.names []) cells →
      wpAny (model prog w) (A.deeper (envOfC qual scope L' f cdv)) (execs body (envOfC qual scope L' f cdv))
        (fun fl s' => Q (match fl with | .ret v => v | _ => .none) s')
        (fun _ _ => False)
        { s with heap := h₁, toks := tk })
    (hco : scope.isCoroutine = false) (hgen : scope.isGenerator = false) (hk : scope.kind = .function) : wpAny (model prog w) A (call (.ref f) args) Q E s := by
  refine wpAny_call ?_
  refine codeAny_call_function (fd := fnOf name qual params body scope dV kV doc pm an cdv ct) hroom (X _ _ ho) rfl hco hgen rfl (codeRec_of X hcd) (hbind _ _ _ _ ?_)
  refine wpAny_newFunctionEnv_cells hk (kindsX hkind _) fun env' he s' x => ?_
  subst he
  refine ⟨T.nolimit.keeps x.toInCall.keep, codeAny_func ?_⟩
  obtain ⟨h₁, tk, rfl, _⟩ := x.done
  obtain ⟨cells, NC, Y⟩ := Cl.news (h₀ := s.heap) (Nat.le_refl _) fun n c hm => ⟨x.cell n c (lookup_of_mem_nodup (cellsFrom_names scope.names 0 (s.heap.objs.size + 1) [] [] rfl ▸ hnd) hm), x.above n c hm⟩
  exact wpAny_mono (h s.heap.objs.size h₁ tk cells ⟨x.toInCall.ns, x.toInCall.keep, Nat.le_refl _⟩ NC Y) (fun fl s' hl => by cases fl <;> exact hl) fun _ _ y => y.elim

structure Stop (P : Prop) : Prop where
  out : P
theorem cname_L {M : Model} {A : Around} {E : Value → Shared → Prop} {s : Shared} {h₀ : Heap} {C : Addr} {m : Str → Option Value} {env : Env} {x : Str} {pos : Pos} {v : Value} {Q : Value → Shared → Prop}
    (F : Fr h₀ C s.heap m) (hv : m x = some v) (h : Q v s) (hL : env.locals = C) (hk : env.scope.kind = .function) (hx : env.kindOf x = some .local) (hd : (x == ("__debug__" : Str)) = false) :
    wpAny M A (eval (.Name x pos) env) Q E s := wpAny_Name (wpAny_loadName_local hk hx (hL ▸ F.ns) hv h) hd
theorem cname_C {M : Model} {A : Around} {E : Value → Shared → Prop} {s : Shared} {h₀ : Heap} {C c : Addr} {m : Str → Option Value} {env : Env} {x : Str} {pos : Pos} {v : Value} {Q : Value → Shared → Prop}
    (F : Fr h₀ C s.heap m) (e : h₀.IsCell c (some v)) (h : Q v s) (hc : env.cells.lookup x = some c) (hk : env.scope.kind = .function) (hx : env.kindOf x = some .cell) (hd : (x == ("__debug__" : Str)) = false) :
    wpAny M A (eval (.Name x pos) env) Q E s := wpAny_Name (wpAny_loadName_cell hk hx hc (let ⟨o, a, b⟩ := e; ⟨o, F.keep _ _ a, b⟩) h) hd
local macro_rules | `(tactic| walk_at "eval Name") => `(tactic| (k_inBlock; k_dflt (first
  | (refine' cname_L ?k1 ?k2 ?_ ?k3 ?k4 ?k5 ?k6; (case k3 => rfl); (case k4 => rfl); (case k5 => rfl); (case k6 => decide); (case k1 => k_asm); (case k2 => assumption); k_whole)
  | (refine' cname_C ?k1 ?k2 ?_ ?k3 ?k4 ?k5 ?k6; (case k3 => rfl); (case k4 => rfl); (case k5 => rfl); (case k6 => decide); (case k1 => k_asm); (case k2 => assumption); k_whole))))
def lab (b : Bool) : Str := ⟨#[labC b]⟩
def labK (x k : Int) : Str := Txt.item (Str.ofString "xy") (((x.fdiv 4).fdiv (2 ^ k.toNat)).fmod 2)
def bitAt (x : Int) (k : Nat) : Bool := decide (((x.fdiv 4).fdiv (2 ^ k)).fmod 2 = 1)
theorem labK_is (x : Int) (k : Nat) : labK x k = lab (bitAt x k) := by
  unfold labK bitAt
  rw [Int.toNat_natCast]
  have h : ((x.fdiv 4).fdiv (2 ^ k)).fmod 2 = 0 ∨ ((x.fdiv 4).fdiv (2 ^ k)).fmod 2 = 1 := by
    have h1 := Int.fmod_nonneg_of_pos ((x.fdiv 4).fdiv (2 ^ k)) (b := 2) (by decide)
    have h2 := Int.fmod_lt_of_pos ((x.fdiv 4).fdiv (2 ^ k)) (b := 2) (by decide)
    omega
  rcases h with h | h <;> rw [h] <;> decide +kernel
def rowN (x : Int) : Nat := (x.fmod 4).toNat
def rowOf (x : Int) : Row := (List.range (rowN x)).map fun i => bitAt x (rowN x - 1 - i)
theorem rowN_le (x : Int) : rowN x ≤ 3 := by
  have h2 := Int.fmod_lt_of_pos x (b := 4) (by decide)
  unfold rowN
  omega
theorem rowOf_mem (x : Int) : rowOf x ∈ rows15 := row_mem _ (by simpa [rowOf] using rowN_le x)
def Labs (x : Int) (v y : Value) : Prop := ∃ k t u, v = .int k t ∧ y = .str (labK x k) u
theorem labs_strs {x : Int} {n : Nat} : ∀ {vs ys : List Value} {o : Nat}, Paired (Labs x) vs ys → (∀ j v, vs[j]? = some v → o + j < n ∧ ∃ t, v = .int ((n : Int) - 1 + ((o + j : Nat) : Int) * -1) t) → StrsAre ys ((List.range' o vs.length).map fun i => lab (bitAt x (n - 1 - i)))
  | _, _, _, .nil, _ => .nil
  | v :: vs, y :: ys, o, .cons hF ht, hP => by
    obtain ⟨k, t, u, e, rfl⟩ := hF
    obtain ⟨h1, t', e'⟩ := hP 0 v rfl
    rw [e] at e'
    cases e'
    rw [show labK x ((n : Int) - 1 + ((o + 0 : Nat) : Int) * -1) = lab (bitAt x (n - 1 - o)) by
      rw [← labK_is]; congr 1; omega]
    rw [List.length_cons, List.range'_succ, List.map_cons]
    exact .cons _ _ (labs_strs ht fun j w hj => by
      obtain ⟨a, b⟩ := hP (j + 1) w (by simpa using hj)
      refine ⟨by omega, ?_⟩
      rw [show o + 1 + j = o + (j + 1) by omega]
      exact b)
theorem labels {w : World} {A : Around} {s : Shared} {mean : ExcName → Option Value} {mg mb : Str → Option Value} {p : Program} {loose : List Str} {Q E : Value → Shared → Prop} {x : Int} {t : Tok}
    (X : (hd.heap_39 w.params).In s.heap) (T : Top p loose mean mg mb s.heap) (hroom : A.depth + 5 < recursionLimit) (hh : A.handled = none)
    (h : ∀ s' a ys, Keeps s s' → s.heap.get? a = none → s'.heap.PlainList a ys.toArray → StrsAre ys ((rowOf x).map lab) → Q (.ref a) s') : wpAny (model PR w) A (call (.ref 118) [.int x t]) Q E s := by
  have GG : PySem.Challenge.rw_re0078_01 = PySem.Challenge.rw_re0078_01 ∧ hd.heap_39 = hd.heap_39 := ⟨rfl, rfl⟩
  revert GG
  k_fill
  intro _
  have x0 := Int.fmod_nonneg_of_pos x (b := 4) (by decide)
  have x4 := Int.fmod_lt_of_pos x (b := 4) (by decide)
  have xN : ((rowN x : Nat) : Int) = x.fmod 4 := by unfold rowN; omega
  k_dflt (refine' call0C [(Str.ofString "x", .int x t)] X T ?k6 ?k7 ?k8 ?k9 ?kB ?kD ?_ ?c2 ?c3 ?c4; (case k6 => k_is); (case k7 => k_is); (case k8 => omega); (case k9 => exact BindsTo.of_eq rfl); (case kB => exact rfl); (case kD => decide +kernel); (case c2 => exact rfl); (case c3 => exact rfl); (case c4 => exact rfl); k_whole; intro L' h' tk' cells' F' N' Y';  k_cells Y'; (try simp only [List.cons_append, List.nil_append] at N'); (try dsimp only); (try k_fold))
  walk1
  walk1
  refine wpAny_ListComp_free (cl := [(Str.ofString "x", L' + 1)]) (fun _ => true) (Labs x) rfl (by decide) rfl (by decide) rfl ?_ (by intro _; rfl)
  rename_i oc hoc
  have hcx0 : h'.IsCell (L' + 1) (some (.int x t)) := ⟨oc, (N' _ (List.Mem.head _)).1, hoc⟩
  refine wpAny_mono (Q := fun xv s₁ => Stop (∃ r h1 tk t u v, xv = .ref r ∧ s₁ = { s with heap := h1, toks := tk } ∧ IsRange h1 r (x.fmod 4 - 1) (-1) (-1) t u v ∧ (∀ b o, h'.get? b = some o → h1.get? b = some o))) ?_ ?_ (fun _ _ e => e)
  · k_steps
    all_goals exact ⟨⟨_, _, _, _, _, _, rfl, rfl, by assumption, by assumption⟩⟩
  · rintro xv s₁ ⟨⟨r, h1, tk, t1, u1, v1, rfl, rfl, hr, hk⟩⟩
    have hs : Builtin.Range.small (x.fmod 4 - 1) (-1) (-1) = true ∧ Builtin.Range.rangeSize (x.fmod 4 - 1) (-1) (-1) = (rowN x : Int) := by
      rw [xN]
      have : x.fmod 4 = 0 ∨ x.fmod 4 = 1 ∨ x.fmod 4 = 2 ∨ x.fmod 4 = 3 := by omega
      rcases this with e | e | e | e <;> rw [e] <;> decide +kernel
    refine wpAny_pyIter_range hr hs.1 ?_
    have up : ∀ b o, h'.get? b = some o → b ≠ h1.objs.size := fun b o e => Nat.ne_of_lt (Heap.lt_size (hk b o e))
    refine ⟨_, _, _, rowN x, _, _, rfl, (Walks.range (show (A.deeper _).handled = none from hh) _ (x.fmod 4 - 1) (-1) (rowN x)).bound, ?_, ?_, ?_, ⟨?_, ?_⟩, ?_⟩
    · have := rowN_le x
      have : 3 ≤ sizeLine := by decide
      omega
    · show IsRangeIter _ _ _ _ _
      rw [hs.2]
      simpa using Heap.get?_push_size _ rfl
    · intro b hb
      rw [List.mem_singleton.mp hb]
      show h1.objs.size < (h1.push _).objs.size
      rw [Heap.size_push]
      exact Nat.lt_succ_self _
    · intro C i v s₃ m₃ E' hC hP hn hm hk3 htk
      exact wpAny_pure ⟨rfl, _, _, rfl, fun _ _ e => e⟩
    · intro C i v s₃ m₃ E' hC hP _ hn hm hk3 htk
      obtain ⟨hi, tv, rfl⟩ := hP
      have kk : ∀ b o, h1.get? b = some o → s₃.heap.get? b = some o := fun b o e => hk3 b o (fun q => by rw [List.mem_singleton.mp q] at e; exact Nat.lt_irrefl _ (Heap.lt_size e)) (Heap.get?_push_of_some _ e)
      have FC : Fr h1 C s₃.heap m₃ := ⟨hn, kk, Nat.le_of_succ_le (by simpa [Heap.size_push] using hC)⟩
      have NC : News h1 C s₃.heap [] := News.nil
      have X1 : (hd.heap_39 w.params).In h1 := (X.keeps F'.keep).keeps hk
      have T1 : Top p loose mean mg mb h1 := (T.keeps F'.keep).keeps hk
      have hcx : h1.IsCell (L' + 1) (some (.int x t)) := let ⟨o, a, b⟩ := hcx0; ⟨o, hk _ _ a, b⟩
      have hlt : 0 ≤ x.fmod 4 - 1 + (i : Int) * -1 ∧ x.fmod 4 - 1 + (i : Int) * -1 < 3 := by omega
      clear hC htk hk3 hs xN up hr hi
      k_steps
      · exact ⟨_, _, _, rfl, rfl⟩
      · exact ⟨_, _, rfl, fun _ _ e => e⟩
    · intro D h2 tk2 ys vs hD hl hpl hlen hP hF hk2
      refine h _ D ys.toList ⟨h2, tk2, rfl, fun b o e => ?_⟩ ?_ (by simpa using hpl) ?_
      · have e1 := hk b o (F'.keep b o e)
        exact hk2 b o (fun q => by rw [List.mem_singleton.mp q] at e1; exact Nat.lt_irrefl _ (Heap.lt_size e1)) (Heap.get?_push_of_some _ e1)
      · cases e : s.heap.get? D with
        | none => rfl
        | some o => rw [Heap.get?_push_of_some _ (hk _ _ (F'.keep _ _ e))] at hD; cases hD
      · have e : (vs.filter fun _ => true) = vs := by simp
        rw [e] at hF
        have := labs_strs (x := x) (n := rowN x) (o := 0) hF fun j v hj => by
          obtain ⟨a, t', b⟩ := hP j v hj
          refine ⟨by omega, t', ?_⟩
          rw [b, xN, Nat.zero_add]
        rw [hlen] at this
        unfold rowOf
        rw [List.map_map, List.range_eq_range']
        exact this
end Mine
namespace Mine
theorem calm6 : True := by
  w_top off
  first
    | (walk1; trivial)
    | trivial
end Mine
namespace Mine
theorem codeN {w : World} {A : Around} {s : Shared} {h₀ : Heap} {L : Addr} {m : Str → Option Value} {news : List (Addr × Obj)} {mean : ExcName → Option Value} {mg mb : Str → Option Value} {prog : Program} {K : Frag} {p : Program} {loose : List Str} {R : Result → Shared → Prop} {name qual : Str} {params : Arguments} {body : List Stmt} {scope : Scope} {dV kV doc pm cdv ct oc : Value} {an od : Option Addr} {osl : Array (Option Value)} {f : Addr} {args : List Value} (binds : List (Str × Value))
    (F : Fr h₀ L s.heap m) (X₀ : K.In h₀) (N : News h₀ L s.heap news) (T : Top p loose mean mg mb h₀)
    (ho : K.lookup f = some ⟨oc, od, .func (fnOf name qual params body scope dV kV doc pm an cdv ct), osl⟩) (hcd : codeIn K cdv qual = true) (hroom : A.depth < recursionLimit)
    (hbind : BindsTo s (fnOf name qual params body scope dV kV doc pm an cdv ct) ⟨args, []⟩ binds) (hloc : ∀ y ∈ binds, scope.names.lookup y.1 = some .local)
    (h : ∀ g L' h₁, Fr g L' h₁ (fun y => binds.reverse.lookup y) → News g L' h₁ news → K.In g → Top p loose mean mg mb g → (∀ p ∈ news, p.1 < L') →
      wpAny (model prog w) (A.deeper (envOf qual scope L' f cdv)) (execs body (envOf qual scope L' f cdv))
        (fun fl s' => LeaveK h₀ L m g R (match fl with | .ret v => v | _ => .none) s')
        (fun _ _ => False)
        { s with heap := h₁, toks := s.toks + binds.length })
    (hco : scope.isCoroutine = false) (hgen : scope.isGenerator = false) (hk : scope.kind = .function)
    (hcell : ∀ x ∈ scope.names, x.2 ≠ .cell) : codeAny (model prog w) A (.call (.ref f) ⟨args, []⟩) R s := by
  have nm : ∀ b o, h₀.get? b = some o → b ∉ news.map (·.1) := fun b o e q => by
    obtain ⟨p, hp, rfl⟩ := List.mem_map.mp q
    rw [(N p hp).2.2] at e; cases e
  have st : h₀.StaysIn (hideAll s.heap (news.map (·.1))) := fun b o e => hideAll_get _ (F.keep b o e) (nm b o e)
  obtain ⟨oL, es, ep, hL, hLd, hLk, hLf⟩ := F.ns
  have nL : L ∉ news.map (·.1) := fun q => by
    obtain ⟨p, hp, e⟩ := List.mem_map.mp q
    exact (N p hp).2.1 e
  have hLg := hideAll_get (news.map (·.1)) hL nL
  refine codeAny_call_def (fd := fnOf name qual params body scope dV kV doc pm an cdv ct) (body := body) (binds := binds) hroom ((X₀.keeps F.keep) _ _ ho) rfl (T.nolimit.keeps F.keep) (codeRec_of (X₀.keeps F.keep) hcd) rfl hbind hcell hloc (fun h₁ hns hk₁ => ?_) hco hgen hk
  refine wpAny_mono (h (hideAll s.heap (news.map (·.1))) s.heap.objs.size h₁ ⟨hns, fun b o e => hk₁ b o (of_hideAll _ e), Nat.le_of_eq (hideAll_size _ _)⟩
    (fun p hp => ⟨hk₁ _ _ (N p hp).1, Nat.ne_of_lt (Heap.lt_size (N p hp).1), hideAll_none _ (List.mem_map_of_mem hp)⟩) (X₀.keeps fun b o e => st b o e) (T.keeps fun b o e => st b o e) (fun p hp => Heap.lt_size (N p hp).1)) (fun fl s' hl => ?_) fun _ _ y => y.elim
  obtain ⟨L', m', news', F', N', k⟩ := hl
  refine k ⟨⟨oL, es, ep, F'.keep L oL hLg, hLd, hLk, hLf⟩, fun b o e => F'.keep b o (st b o e), F.above⟩ fun p hp => ⟨(N' p hp).1, fun q => ?_, ?_⟩
  · have := (N' p hp).2.2; rw [q, hLg] at this; cases this
  · cases q : h₀.get? p.1 with
    | none => rfl
    | some o => have := (N' p hp).2.2; rw [st _ _ q] at this; cases this

local macro_rules | `(tactic| k_all) => `(tactic| assumption)
abbrev entD (P : Params) (u l dl rr : Value) (k1 k2 k3 k4 : Tok) : List DictEntry :=
  [⟨PyData.keyHash P (Str.ofString "useragents"), .str (Str.ofString "useragents") k1, u⟩, ⟨PyData.keyHash P (Str.ofString "rulelines"), .str (Str.ofString "rulelines") k2, l⟩,
   ⟨PyData.keyHash P (Str.ofString "delay"), .str (Str.ofString "delay") k3, dl⟩, ⟨PyData.keyHash P (Str.ofString "req_rate"), .str (Str.ofString "req_rate") k4, rr⟩]
theorem newEntry {w : World} {A : Around} {s : Shared} {h₀ : Heap} {L : Addr} {m : Str → Option Value} {news : List (Addr × Obj)} {mean : ExcName → Option Value} {mg mb : Str → Option Value} {p : Program} {loose : List Str} {Q E : Value → Shared → Prop}
    (F : Fr h₀ L s.heap m) (N : News h₀ L s.heap news) (X : (hd.heap_39 w.params).In h₀) (T : Top p loose mean mg mb h₀) (hroom : A.depth + 5 < recursionLimit)
    (h : ∀ x dx u l k1 k2 k3 k4 h' tk, Fr h₀ L h' m → News h₀ L h' ((l, listOf #[] 0) :: (u, listOf #[] 0) :: (x, instObj 76 dx) :: (dx, dictOf (entD w.params (.ref u) (.ref l) .none .none k1 k2 k3 k4) 4) :: news) →
      (∀ p ∈ news, p.1 < dx) → ((@LT.lt Nat _ dx x) ∧ (@LT.lt Nat _ x u) ∧ (@LT.lt Nat _ u l)) → Q (.ref x) { s with heap := h', toks := tk }) : wpAny (model PR w) A (call (.ref 76) []) Q E s := by
  have GG : PySem.Challenge.rw_re0078_01 = PySem.Challenge.rw_re0078_01 ∧ hd.heap_39 = hd.heap_39 := ⟨rfl, rfl⟩
  revert GG
  k_fill
  intro _
  k_dflt (refine' call_cls F X N ?k1 ?k2 ?k3 ?_; (case k1 => k_is); (case k2 => k_is); (case k3 => k_is); k_whole; intro x' dx' h' F' N' l1 l2)
  k_lt2 l2
  have hne : ∀ p ∈ news, p.1 ≠ dx' := fun p hp => Nat.ne_of_lt (l1 p hp)
  have hr2 : (A.under (.builtin "type.__call__" ⟨[.ref 76], []⟩)).depth < recursionLimit := by
    show A.depth + Code.weight (.builtin "type.__call__" ⟨[.ref 76], []⟩) < recursionLimit
    have : Code.weight (.builtin "type.__call__" ⟨[.ref 76], []⟩) ≤ 2 := by decide
    omega
  k_dflt (refine' codeN [(Str.ofString "self", .ref x')] F' X N' T ?k6 ?k7 hr2 ?k9 ?kB ?_ ?c2 ?c3 ?c4 ?c5; (case k6 => k_is); (case k7 => k_is); (case k9 => exact BindsTo.of_eq rfl); (case c5 => decide); (case kB => exact locs rfl); (case c2 => exact rfl); (case c3 => exact rfl); (case c4 => exact rfl); k_whole; intro g' L' h' F' N' X' T' l3; clear l3; (try dsimp only); (try k_fold))
  k_steps
  exact h _ _ _ _ _ _ _ _ _ _ (by assumption) (by assumption) l1 ⟨by omega, by omega, by omega⟩
end Mine
namespace Mine
theorem calm7 : True := by
  w_top off
  first
    | (walk1; trivial)
    | trivial
end Mine
namespace Mine
theorem reach_cons {w : World} {A : Around} {s : Shared} {h₀ : Heap} {L : Addr} {m : Str → Option Value} {news : List (Addr × Obj)} {mean : ExcName → Option Value} {mg mb : Str → Option Value} {p : Program} {loose : List Str} {Q E : Value → Shared → Prop} {b : Bool} {r : Row} {t : Tok}
    (F : Fr h₀ L s.heap m) (N : News h₀ L s.heap news) (X : (hd.heap_39 w.params).In h₀) (T : Top p loose mean mg mb h₀) (hroom : A.depth + 5 < recursionLimit)
    (H : (b :: r).length ≤ 3) (h : ∀ h' tk t', Fr h₀ L h' m → News h₀ L h' news → Q (.str (rungS r) t') { s with heap := h', toks := tk }) : wpAny (model PR w) A (call (.ref 113) [.str (host (b :: r)) t]) Q E s :=
  reach_N F N X T hroom (row_mem _ H) h
theorem reach_nil {w : World} {A : Around} {s : Shared} {h₀ : Heap} {L : Addr} {m : Str → Option Value} {news : List (Addr × Obj)} {mean : ExcName → Option Value} {mg mb : Str → Option Value} {p : Program} {loose : List Str} {Q E : Value → Shared → Prop} {t : Tok}
    (F : Fr h₀ L s.heap m) (N : News h₀ L s.heap news) (X : (hd.heap_39 w.params).In h₀) (T : Top p loose mean mg mb h₀) (hroom : A.depth + 5 < recursionLimit)
    (h : ∀ h' tk t', Fr h₀ L h' m → News h₀ L h' news → Q (.str (host []) t') { s with heap := h', toks := tk }) : wpAny (model PR w) A (call (.ref 113) [.str (host []) t]) Q E s :=
  reach_N (r := []) F N X T hroom (by decide) h
theorem slice_rung {q : Row} (hq : q.length ≤ 3) : Txt.slice (rungS q) (some 1) none = host q := (rung_facts q (row_mem q hq)).2.2.2
theorem slice_rung_N {prog : Program} {w : World} {A : Around} {E : Value → Shared → Prop} {s : Shared} {h₀ : Heap} {L : Addr} {m : Str → Option Value} {news : List (Addr × Obj)} {q : Row} {t ui : Tok} {value slice : PySem.Expr} {Q : Value → Shared → Prop}
    (hq : q.length ≤ 3) (hF : Fr h₀ L s.heap m) (hN : News h₀ L s.heap news) (h : ∀ h' t' k, Fr h₀ L h' m → News h₀ L h' news → Q (.str (host q) t') { s with heap := h', toks := k })
    (hs : subscripted slice false (.str (rungS q) t) (.ref s.heap.objs.size) = operate [.ref s.heap.objs.size, .str (rungS q) t] (getItem (.str (rungS q) t) (.ref s.heap.objs.size)))
    (ht : ∀ r, letTemporaryGo value (.str (rungS q) t) r = pure ()) :
    wpAny (model prog w) A (subscriptTail value slice (.str (rungS q) t) (.ref s.heap.objs.size)) Q E { s with heap := s.heap.push { cls := .type "slice", data := .fields #[.int 1 ui, .none, .none] } } :=
  slice_strN_sn hF hN (fun h' t' k a b => by rw [slice_rung hq]; exact h h' t' k a b) hs ht (Nat.le_trans (rung_facts q (row_mem q hq)).2.1 (by decide))
theorem rung_ne : ∀ r ∈ rows15, ∀ q ∈ rows15, (rungS q != host r) = true := by decide +kernel
theorem ne_rung {w : World} {A : Around} {s : Shared} {Q E : Value → Shared → Prop} {prog : Program} {b : Bool} {q : Row} {t u : Tok} (hq : (b :: q).length ≤ 3) (h : Q (.bool true) s) : wpAny (model prog w) A (compareOp .NotEq (.str (rungS q) t) (.str (host (b :: q)) u)) Q E s := by
  refine ne_str ?_
  have : (rungS q != host (b :: q)) = true := rung_ne _ (row_mem _ hq) _ (row_mem _ (by simp at hq; omega))
  rw [this]
  exact h
theorem ne_host {w : World} {A : Around} {s : Shared} {Q E : Value → Shared → Prop} {prog : Program} {t u : Tok} (h : Q (.bool false) s) : wpAny (model prog w) A (compareOp .NotEq (.str (host []) t) (.str (host []) u)) Q E s := by
  refine ne_str ?_
  exact h
local macro_rules | `(tactic| walk_at "call ref") => `(tactic| (k_here; (with_reducible show wpAny _ _ (call (Value.ref 113) _) _ _ _); k_dflt (first
  | (refine' reach_nil ?k1 ?k2 ?k3 ?k4 ?k5 ?_; (case k1 => k_asm); (case k2 => k_asm); (case k3 => k_asm); (case k4 => k_asm); (case k5 => (dsimp only [Around.deeper]; omega)); k_whole)
  | (refine' reach_cons ?k1 ?k2 ?k3 ?k4 ?k5 ?k6 ?_; (case k1 => k_asm); (case k2 => k_asm); (case k3 => k_asm); (case k4 => k_asm); (case k5 => (dsimp only [Around.deeper]; omega)); (case k6 => exact Nat.le_of_ble_eq_true rfl); k_whole)); intro h9 tk9 t9 F9 N9; (try dsimp only); (try k_fold)))
local macro_rules | `(tactic| walk_at "call ref") => `(tactic| (k_here; (with_reducible show wpAny _ _ (call (Value.ref 76) _) _ _ _); k_dflt (refine' newEntry ?k1 ?k2 ?k3 ?k4 ?k5 ?_; (case k1 => k_asm); (case k2 => k_asm); (case k3 => k_asm); (case k4 => k_asm); (case k5 => (dsimp only [Around.deeper]; omega)); k_whole); intro x9 dx9 u9 l9 k19 k29 k39 k49 h9 tk9 F9 N9 lt9 lu9; (k_lt lt9); (try dsimp only); (try k_fold)))
local macro_rules | `(tactic| walk_at "subscriptTail Name Slice str ref") => `(tactic| ((with_reducible show wpAny _ _ (subscriptTail _ _ (Value.str (rungS _) _) _) _ _ _); (with_reducible rename Fr _ _ _ _ => F'); (with_reducible rename News _ _ _ _ => N'); (refine slice_rung_N (s := ⟨_, _, _, _, _⟩) ?ka F' N' ?_ ?kb ?kc); (case ka => exact Nat.le_of_ble_eq_true rfl); (case kb => with_unfolding_all rfl); (case kc => (intro _; with_unfolding_all rfl)); intro _ _ _ _ _))
local macro_rules | `(tactic| walk_at "compareOp NotEq str str") => `(tactic| (first | (refine ne_host ?_) | (refine ne_rung (Nat.le_of_ble_eq_true rfl) ?_)))
def rungs : Row → List Str
  | [] => []
  | _ :: r => rungS r :: rungs r
def EntNews (P : Params) (x dx u l : Addr) (k : Tok × Tok × Tok × Tok) (vs ws : List Value) (n1 n2 n3 : Nat) : List (Addr × Obj) :=
  [(x, instObj 76 dx), (dx, dictOf (entD P (.ref u) (.ref l) .none .none k.1 k.2.1 k.2.2.1 k.2.2.2) n1), (u, listOf vs.toArray n2), (l, listOf ws.toArray n3)]
/-- what a call that makes one record hands on -/
def RecPost (P : Params) (s : Shared) (us rs : List Str) (Q : Value → Shared → Prop) : Prop :=
  ∀ s' x dx u l k vs ws n1 n2 n3, Keeps s s' → (∀ p ∈ EntNews P x dx u l k vs ws n1 n2 n3, s'.heap.get? p.1 = some p.2 ∧ s.heap.get? p.1 = none) → StrsAre vs us → StrsAre ws rs → Q (.ref x) s'
theorem rec_end {P : Params} {s : Shared} {us rs : List Str} {Q : Value → Shared → Prop} (h : RecPost P s us rs Q) {h' : Heap} {tk : Nat} {L' x dx u l : Addr} {m : Str → Option Value} {news : List (Addr × Obj)} {k1 k2 k3 k4 : Tok} {va wa : Array Value} {n1 n2 n3 : Nat}
    (F : Fr s.heap L' h' m) (N : News s.heap L' h' news) (h1 : (x, instObj 76 dx) ∈ news) (h2 : (dx, dictOf (entD P (.ref u) (.ref l) .none .none k1 k2 k3 k4) n1) ∈ news) (h3 : (u, listOf va n2) ∈ news) (h4 : (l, listOf wa n3) ∈ news)
    (hv : StrsAre va.toList us) (hw : StrsAre wa.toList rs) : Q (.ref x) { s with heap := h', toks := tk } := by
  refine h _ x dx u l (k1, k2, k3, k4) va.toList wa.toList n1 n2 n3 ⟨h', tk, rfl, F.keep⟩ ?_ hv hw
  intro p hp
  have e1 : va.toList.toArray = va := by simp
  have e2 : wa.toList.toArray = wa := by simp
  simp only [EntNews, e1, e2, List.mem_cons, List.not_mem_nil, or_false] at hp
  rcases hp with rfl | rfl | rfl | rfl
  · exact ⟨(N _ h1).1, (N _ h1).2.2⟩
  · exact ⟨(N _ h2).1, (N _ h2).2.2⟩
  · exact ⟨(N _ h3).1, (N _ h3).2.2⟩
  · exact ⟨(N _ h4).1, (N _ h4).2.2⟩
theorem record {w : World} {A : Around} {s : Shared} {mean : ExcName → Option Value} {mg mb : Str → Option Value} {p : Program} {loose : List Str} {Q E : Value → Shared → Prop} {r : Row} {t : Tok} {tb : Bool}
    (X : (hd.heap_39 w.params).In s.heap) (T : Top p loose mean mg mb s.heap) (hroom : A.depth + 9 < recursionLimit) (hh : A.handled = none) (hr : r.length ≤ 3)
    (h : RecPost w.params s (if tb then (rungs r).reverse else rungs r) [host r] Q) : wpAny (model PR w) A (call (.ref 125) [.str (host r) t, .bool tb]) Q E s := by
  obtain ⟨ahd, adp, afr, agd, aun⟩ := A
  dsimp only at hh hroom
  subst hh
  have GG : PySem.Challenge.rw_re0078_01 = PySem.Challenge.rw_re0078_01 ∧ hd.heap_39 = hd.heap_39 := ⟨rfl, rfl⟩
  revert GG
  k_fill
  intro _
  match r, hr with
  | [], _ =>
    k_dflt (refine' call0 [(Str.ofString "host", .str (host []) t), (Str.ofString "turned", .bool tb)] X T ?k6 ?k7 ?k8 ?k9 ?kB ?_ ?c2 ?c3 ?c4 ?c5; (case k6 => k_is); (case k7 => k_is); (case k8 => (dsimp only; omega)); (case k9 => exact BindsTo.of_eq rfl); (case c5 => decide); (case kB => exact locs rfl); (case c2 => exact rfl); (case c3 => exact rfl); (case c4 => exact rfl); k_whole; intro L' h' F' N'; (try dsimp only); (try k_fold))
    k_steps
    all_goals (first
      | ((have e : tb = true := by assumption); subst e; refine rec_end h (by with_reducible assumption) (by with_reducible assumption) (by k_mem) (by k_mem) (by k_mem) (by k_mem) ?_ ?_)
      | ((have e : tb = false := by assumption); subst e; refine rec_end h (by with_reducible assumption) (by with_reducible assumption) (by k_mem) (by k_mem) (by k_mem) (by k_mem) ?_ ?_))
    all_goals (repeat (first | exact StrsAre.nil | refine StrsAre.cons _ _ ?_))
  | [a], _ =>
    k_dflt (refine' call0 [(Str.ofString "host", .str (host [a]) t), (Str.ofString "turned", .bool tb)] X T ?k6 ?k7 ?k8 ?k9 ?kB ?_ ?c2 ?c3 ?c4 ?c5; (case k6 => k_is); (case k7 => k_is); (case k8 => (dsimp only; omega)); (case k9 => exact BindsTo.of_eq rfl); (case c5 => decide); (case kB => exact locs rfl); (case c2 => exact rfl); (case c3 => exact rfl); (case c4 => exact rfl); k_whole; intro L' h' F' N'; (try dsimp only); (try k_fold))
    k_steps
    all_goals (first
      | ((have e : tb = true := by assumption); subst e; refine rec_end h (by with_reducible assumption) (by with_reducible assumption) (by k_mem) (by k_mem) (by k_mem) (by k_mem) ?_ ?_)
      | ((have e : tb = false := by assumption); subst e; refine rec_end h (by with_reducible assumption) (by with_reducible assumption) (by k_mem) (by k_mem) (by k_mem) (by k_mem) ?_ ?_))
    all_goals (repeat (first | exact StrsAre.nil | refine StrsAre.cons _ _ ?_))
  | [a, b], _ =>
    k_dflt (refine' call0 [(Str.ofString "host", .str (host [a, b]) t), (Str.ofString "turned", .bool tb)] X T ?k6 ?k7 ?k8 ?k9 ?kB ?_ ?c2 ?c3 ?c4 ?c5; (case k6 => k_is); (case k7 => k_is); (case k8 => (dsimp only; omega)); (case k9 => exact BindsTo.of_eq rfl); (case c5 => decide); (case kB => exact locs rfl); (case c2 => exact rfl); (case c3 => exact rfl); (case c4 => exact rfl); k_whole; intro L' h' F' N'; (try dsimp only); (try k_fold))
    k_steps
    all_goals (first
      | ((have e : tb = true := by assumption); subst e; refine rec_end h (by with_reducible assumption) (by with_reducible assumption) (by k_mem) (by k_mem) (by k_mem) (by k_mem) ?_ ?_)
      | ((have e : tb = false := by assumption); subst e; refine rec_end h (by with_reducible assumption) (by with_reducible assumption) (by k_mem) (by k_mem) (by k_mem) (by k_mem) ?_ ?_))
    all_goals (repeat (first | exact StrsAre.nil | refine StrsAre.cons _ _ ?_))
  | [a, b, c], _ =>
    k_dflt (refine' call0 [(Str.ofString "host", .str (host [a, b, c]) t), (Str.ofString "turned", .bool tb)] X T ?k6 ?k7 ?k8 ?k9 ?kB ?_ ?c2 ?c3 ?c4 ?c5; (case k6 => k_is); (case k7 => k_is); (case k8 => (dsimp only; omega)); (case k9 => exact BindsTo.of_eq rfl); (case c5 => decide); (case kB => exact locs rfl); (case c2 => exact rfl); (case c3 => exact rfl); (case c4 => exact rfl); k_whole; intro L' h' F' N'; (try dsimp only); (try k_fold))
    k_steps
    all_goals (first
      | ((have e : tb = true := by assumption); subst e; refine rec_end h (by with_reducible assumption) (by with_reducible assumption) (by k_mem) (by k_mem) (by k_mem) (by k_mem) ?_ ?_)
      | ((have e : tb = false := by assumption); subst e; refine rec_end h (by with_reducible assumption) (by with_reducible assumption) (by k_mem) (by k_mem) (by k_mem) (by k_mem) ?_ ?_))
    all_goals (repeat (first | exact StrsAre.nil | refine StrsAre.cons _ _ ?_))
end Mine
namespace Mine
theorem calm8 : True := by
  w_top off
  first
    | (walk1; trivial)
    | trivial
end Mine
namespace Mine
section
variable {K : Type} [DecidableEq K]
def dd (l : List K) : List K := l.foldl step_dedup []
theorem dd_snoc (l : List K) (k : K) : dd (l ++ [k]) = step_dedup (dd l) k := by unfold dd; rw [List.foldl_append]; rfl
theorem step_anyK (σ : List K) (v k : K) : (step_dedup σ v).any (· == k) = (σ.any (· == k) || decide (k = v)) := by
  unfold step_dedup
  by_cases h : σ.any (· == v) = true
  · rw [if_pos h]
    by_cases e : k = v
    · subst e; rw [h]; simp
    · simp [e]
  · rw [if_neg h, List.any_append]
    by_cases e : k = v
    · subst e; simp
    · have hb : (v == k) = false := by simpa [beq_iff_eq] using (fun h' : v = k => e h'.symm)
      simp [hb, e]
theorem step_lenK (σ : List K) (v : K) : (step_dedup σ v).length = if σ.any (· == v) then σ.length else σ.length + 1 := by
  unfold step_dedup; split <;> simp
theorem dd_len_le : ∀ (l : List K), (dd l).length ≤ l.length := by
  intro l
  unfold dd
  have := foldl_step_dedup_length_le ([] : List K) l
  simpa using this
theorem foldl_any (l : List K) (k : K) : ∀ σ : List K, (l.foldl step_dedup σ).any (· == k) = (σ.any (· == k) || l.any (· == k)) := by
  induction l with
  | nil => intro σ; simp
  | cons v r ih =>
    intro σ
    rw [List.foldl_cons, ih, step_anyK, List.any_cons, Bool.or_assoc]
    congr 2
    by_cases e : k = v
    · subst e; simp
    · have hb : (v == k) = false := by simpa [beq_iff_eq] using (fun h' : v = k => e h'.symm)
      simp [hb, e]
theorem dd_any (l : List K) (k : K) : (dd l).any (· == k) = l.any (· == k) := by unfold dd; rw [foldl_any]; rfl
end

/-- each value of the list is of the kind, by its key -/
inductive KeysAre {prog : Program} {w : World} {K : Type} [DecidableEq K] (knd : KeyKind prog w K) : List Value → List K → Prop
  | nil : KeysAre knd [] []
  | cons {v : Value} {k : K} {vs : List Value} {ks : List K} : knd.is k v = true → v.scannable = true → KeysAre knd vs ks → KeysAre knd (v :: vs) (k :: ks)
theorem KeysAre.len {prog : Program} {w : World} {K : Type} [DecidableEq K] {knd : KeyKind prog w K} : ∀ {vs : List Value} {ks : List K}, KeysAre knd vs ks → vs.length = ks.length
  | _, _, .nil => rfl
  | _, _, .cons _ _ h => congrArg (· + 1) h.len
theorem KeysAre.at {prog : Program} {w : World} {K : Type} [DecidableEq K] {knd : KeyKind prog w K} : ∀ {vs : List Value} {ks : List K}, KeysAre knd vs ks → ∀ {i : Nat} {v : Value}, vs[i]? = some v → ∃ k, ks[i]? = some k ∧ knd.is k v = true ∧ v.scannable = true
  | _, _, .nil, i, v, h => by simp at h
  | _, _, .cons a b _, 0, v, h => by simp at h; subst h; exact ⟨_, rfl, a, b⟩
  | _, _, .cons _ _ r, i + 1, v, h => by simp only [List.getElem?_cons_succ] at h ⊢; exact r.at h
theorem KeysAre.strs {prog : Program} {w : World} : ∀ {vs : List Value} {ys : List Str}, StrsAre vs ys → KeysAre (strKind prog w) vs ys
  | _, _, .nil => .nil
  | _, _, .cons y t h => .cons (strKind_is _ _ _ _) rfl (KeysAre.strs h)
theorem KeysAre.ints {prog : Program} {w : World} : ∀ {vs : List Value} {ns : List Int}, IntsAre vs ns → KeysAre (intKind prog w) vs ns
  | _, _, .nil => .nil
  | _, _, .cons y t h => .cons (intKind_is _ _ _ _) rfl (KeysAre.ints h)
theorem SetOf_eq {prog : Program} {w : World} {K : Type} [DecidableEq K] {knd : KeyKind prog w K} {h : Heap} {a : Addr} {S S' : K → Bool} {n n' : Nat}
    (hS : h.SetOf knd a S n) (e : ∀ k, S k = S' k) (en : n = n') : h.SetOf knd a S' n' := by
  have : S = S' := funext e
  subst this; subst en; exact hS
theorem SetOf_at {prog : Program} {w : World} {K : Type} [DecidableEq K] {knd : KeyKind prog w K} {h h' : Heap} {a : Addr} {S : K → Bool} {n : Nat}
    (hS : h.SetOf knd a S n) (e : ∀ o, h.get? a = some o → h'.get? a = some o) : h'.SetOf knd a S n := by
  obtain ⟨o, es, ep, t, ho, rest⟩ := hS
  exact ⟨o, es, ep, t, e _ ho, rest⟩

section
variable {prog : Program} {w : World} {A : Around} {R : Result → Shared → Prop} {I : Addr} {fp wr : List Addr} {G : Array GenState → Array GenState → Prop} {n : Nat} {P : Nat → Value → Prop} {St : Nat → Shared → Prop} {K : Type} [DecidableEq K]

theorem set_loop (knd : KeyKind prog w K) (ks : List K) (W : WalksS prog w A.in1 I fp wr G ks.length P St) (S : Addr) (hSf : S ∉ fp)
    (hval : ∀ i v, P i v → ∃ k, ks[i]? = some k ∧ knd.is k v = true ∧ v.scannable = true) (hb : ks.length + 1 < scanBound) :
    ∀ (k i : Nat) (s : Shared), ks.length - i = k → i ≤ ks.length → St i s →
      s.heap.SetOf knd S (fun k' => (dd (ks.take i)).any (· == k')) (dd (ks.take i)).length →
      (∀ s', Moved (S :: wr) G s s' → s'.heap.SetOf knd S (fun k' => (dd ks).any (· == k')) (dd ks).length → R (.ok (.ret .none)) s') →
      codeAny (model prog w) A (.builtin "set.update.loop" ⟨[.ref S, .ref I], []⟩) R s := by
  have hSw : S ∉ wr := fun h => hSf (W.sub _ h)
  have hsub : ∀ b ∈ wr, b ∈ S :: wr := fun b hb => List.mem_cons_of_mem _ hb
  intro k
  induction k with
  | zero =>
    intro i s hk hi hst hS hR
    have hin : i = ks.length := by omega
    subst hin
    refine codeAny_builtin PyProof.Rows.F.entry_set_update_loop ?_
    rw [Around.under_plainId PyProof.Rows.F.plain_set_update_loop _]
    show wpAny _ A.in1 (pyNext (.ref I) >>= _) _ _ s
    refine wpAny_bind (W.done s _ _ hst fun s' hm => ?_)
    show wpAny _ A.in1 (ret Value.none) _ _ s'
    rw [List.take_length] at hS
    exact wpAny_pure (hR s' (hm.mono hsub) (SetOf_at hS fun o e => hm.heap S _ hSw e))
  | succ k ih =>
    intro i s hk hi hst hS hR
    have hlt : i < ks.length := by omega
    refine codeAny_builtin PyProof.Rows.F.entry_set_update_loop ?_
    rw [Around.under_plainId PyProof.Rows.F.plain_set_update_loop _]
    show wpAny _ A.in1 (pyNext (.ref I) >>= _) _ _ s
    refine wpAny_bind (W.item i s _ _ hlt hst fun v s' hP hst' hm => ?_)
    obtain ⟨kv, hki, hkv, hsc⟩ := hval i v hP
    have hS' := SetOf_at hS (h' := s'.heap) fun o e => hm.heap S _ hSw e
    show wpAny _ A.in1 (holding [v] (setAdd S v) >>= _) _ _ s'
    refine wpAny_bind (wpAny_holding ?_)
    unfold setAdd
    refine wpAny_holding ?_
    refine wpAny_bind (knd.pyHash hkv ?_)
    have hroom : (dd (ks.take i)).length + 1 < scanBound := by
      have := dd_len_le (ks.take i)
      rw [List.length_take] at this
      omega
    refine wpAny_setAddHashed_of (knd := knd) (s := { s' with toks := s'.toks + 1 }) hkv hsc hS' hroom fun h' hsb hS2 => ?_
    have ht : ks.take (i + 1) = ks.take i ++ [kv] := by rw [List.take_add_one, hki]; rfl
    have hSi : h'.SetOf knd S (fun k' => (dd (ks.take (i + 1))).any (· == k')) (dd (ks.take (i + 1))).length :=
      SetOf_eq hS2 (fun k' => by rw [ht, dd_snoc, step_anyK]) (by rw [ht, dd_snoc, step_lenK])
    refine wpAny_pure ⟨plainId_quiet PyProof.Rows.F.plain_set_update_loop _, ih (i + 1) _ (by omega) hlt (W.frame _ s' _ _ hst' (Nat.le_succ _) fun b hb o e => ?_) hSi fun s'' hm'' hS'' => ?_⟩
    · rw [hsb.2 b (fun h : b = S => hSf (by rw [← h]; exact hb))]; exact e
    · refine hR s'' (Moved.trans W.gtrans ((hm.mono hsub).then_heap (Nat.le_succ _) fun b o hb e => ?_) hm'') hS''
      rw [hsb.2 b (fun h : b = S => hb (by rw [h]; exact List.mem_cons_self))]; exact e
end
theorem sub_tuple_set : isSubtype (.type "tuple") (.type "set") = pure false := by rw [isSubtype_type]; kernel_rfl
theorem sub_tuple_frozenset : isSubtype (.type "tuple") (.type "frozenset") = pure false := by rw [isSubtype_type]; kernel_rfl
structure SeqT (prog : Program) (w : World) (T It : String) : Prop where
  s1 : isSubtype (.type T) (.type "set") = pure false
  s2 : isSubtype (.type T) (.type "frozenset") = pure false
  ne : (Value.type T == Value.type "dict") = false
  it : ∀ {A : Around} {E : Value → Shared → Prop} {s : Shared} {l : Addr} {items : Array Value} {nl : Nat} {d : Option Addr} {sl : Array (Option Value)} {Q : Value → Shared → Prop}, s.heap.get? l = some ⟨.type T, d, .seq items nl, sl⟩ →
    Q (.ref s.heap.objs.size) { s with heap := s.heap.push { cls := .type It, data := .fields #[.ref l, .int 0 0] } } → wpAny (model prog w) A (pyIter (.ref l)) Q E s
  walks : ∀ {A : Around} (_ : A.handled = none) (I l : Addr) (_ : l ≠ I) (items : Array Value), ∃ St : Nat → Heap → Prop, Walks prog w A I [I, l] [I] items.size (fun i v => items[i]? = some v) St ∧
    ∀ (h : Heap) (d : Option Addr) (nl : Nat) (sl : Array (Option Value)), h.get? I = some { cls := .type It, data := .fields #[.ref l, .int 0 0] } → h.get? l = some ⟨.type T, d, .seq items nl, sl⟩ → St 0 h
theorem seqT_list {prog : Program} {w : World} : SeqT prog w "list" "list_iterator" where
  s1 := PySem.F.sub_list_set
  s2 := PySem.F.sub_list_frozenset
  ne := by decide
  it := fun e h => wpAny_pyIter_list ⟨_, e, rfl, _, rfl⟩ h
  walks := fun hh I l hne items => ⟨_, Walks.list hh I l hne items, fun h d nl sl e1 e2 => ⟨⟨_, e1, rfl, rfl⟩, ⟨_, e2, rfl, nl, rfl⟩⟩⟩
theorem seqT_tuple {prog : Program} {w : World} : SeqT prog w "tuple" "tuple_iterator" where
  s1 := sub_tuple_set
  s2 := sub_tuple_frozenset
  ne := by decide
  it := fun e h => wpAny_pyIter_tuple ⟨_, e, rfl, _, rfl⟩ h
  walks := fun hh I l hne items => ⟨_, Walks.tuple hh I l hne items, fun h d nl sl e1 e2 => ⟨⟨_, e1, rfl, rfl⟩, ⟨_, e2, rfl, nl, rfl⟩⟩⟩

theorem call_set_seq {prog : Program} {w : World} {A : Around} {E : Value → Shared → Prop} {s : Shared} {K : Type} [DecidableEq K] (knd : KeyKind prog w K) {T It : String} (ST : SeqT prog w T It) {l : Addr} {items : Array Value} {nl : Nat} {d : Option Addr} {sl : Array (Option Value)} {ks : List K} {Q : Value → Shared → Prop}
    (hh : A.handled = none) (hl : s.heap.get? l = some ⟨.type T, d, .seq items nl, sl⟩) (hi : KeysAre knd items.toList ks) (hb : ks.length + 1 < scanBound)
    (h : ∀ (h' : Heap) (tk : Nat), h'.SetOf knd s.heap.objs.size (fun k' => (dd ks).any (· == k')) (dd ks).length →
      (∀ b o, b < s.heap.objs.size → s.heap.get? b = some o → h'.get? b = some o) → Q (.ref s.heap.objs.size) { s with heap := h', toks := tk }) :
    wpAny (model prog w) A (call (.type "set") [.ref l]) Q E s := by
  obtain ⟨c, tl, hmro⟩ := PySem.F.called_set.mro
  have hmade := PySem.F.called_set.made
  have hsub := PySem.F.called_set.sub
  refine wpAny_call (codeAny_of_tree ?_)
  show wpAny _ _ (callAny (.type "set") _) _ _ _
  refine wpAny_pure ⟨Code.quiet_builtin _ (by decide +kernel), codeAny_builtin PySem.F.entry_type_call ?_⟩
  rw [Around.under_plain (weight_type_call_type "set" [.ref l] []) rfl]
  have h1 := PySem.F.called_set.notType
  have h2 := PySem.F.called_set.canCreate
  have hct := PySem.F.typeCall_set_1 (.ref l)
  repeat (any_goals (first | assumption | wp_step))
  refine codeAny_mono (code_set_new_1 (.ref l) (E := E) (Q₁ := fun obj s₁ => ∃ led : Bool, obj = .ref s.heap.objs.size ∧ s₁ = { s with heap := s.heap.push { cls := .type "set", dict := none, data := .set #[] 0 (.fresh 0 0 led) } }) fun led => ⟨led, rfl, rfl⟩) fun r s₁ hr => ?_
  cases r with
  | error e => exact hr
  | ok fl =>
    cases fl with
    | ret obj =>
      obtain ⟨led, rfl, rfl⟩ := hr
      have hS : (s.heap.push { cls := .type "set", dict := none, data := .set #[] 0 (.fresh 0 0 led) }).get? s.heap.objs.size = some { cls := .type "set", dict := none, data := .set #[] 0 (.fresh 0 0 led) } := Heap.get?_push_size _ rfl
      have hT : Shared.TypeIs { s with heap := s.heap.push { cls := .type "set", dict := none, data := .set #[] 0 (.fresh 0 0 led) } } (.ref s.heap.objs.size) "set" := ⟨_, hS, rfl⟩
      have hli := PySem.F.called_set.init.lookup
      have hbi := PySem.F.called_set.init.bind (.ref s.heap.objs.size)
      repeat (any_goals (first | assumption | wp_step))
      refine codeAny_mono (codeAny_call_builtin (R := wants (fun r s₂ => r = .none ∧ ∃ h' tk, s₂ = { s with heap := h', toks := tk } ∧
          h'.SetOf knd s.heap.objs.size (fun k' => (dd ks).any (· == k')) (dd ks).length ∧
          (∀ b o, b < s.heap.objs.size → s.heap.get? b = some o → h'.get? b = some o)) E) PySem.F.called_set.init.plain PySem.F.entry_set_init (check_set_init_1 hT ?_)) fun r₂ s₂ hr₂ => ?_
      · have hol' : (s.heap.push { cls := .type "set", dict := none, data := .set #[] 0 (.fresh 0 0 led) }).get? l = some ⟨.type T, d, .seq items nl, sl⟩ := Heap.get?_push_of_some _ hl
        have hsls := ST.s1
        have hslf := ST.s2
        have hne := ST.ne
        unfold Builtin.«set.__init__» noKeywords Builtin.Frozenset.updateFrom
        generalize hPI : pyIter = PI
        wp_walk
        subst hPI
        refine ST.it hol' ?_
        refine wpAny_bind (wpAny_runValue ?_)
        have hlS : l < s.heap.objs.size := Heap.lt_size hl
        have hh3 : A.in1.in1.in1.handled = none := by simp [hh]
        have hneI : l ≠ (s.heap.push { cls := .type "set", dict := none, data := .set #[] 0 (.fresh 0 0 led) }).objs.size := by
          rw [Heap.size_push]; exact Nat.ne_of_lt (Nat.lt_succ_of_lt hlS)
        have hSf : s.heap.objs.size ∉ [(s.heap.push { cls := .type "set", dict := none, data := .set #[] 0 (.fresh 0 0 led) }).objs.size, l] := by
          rw [Heap.size_push]; simp only [List.mem_cons, List.not_mem_nil, or_false, not_or]
          exact ⟨Nat.ne_of_lt (Nat.lt_succ_self _), Nat.ne_of_gt hlS⟩
        obtain ⟨St, W, hst⟩ := ST.walks hh3 _ l hneI items
        have hsz : items.size = ks.length := by rw [← hi.len, Array.length_toList]
        rw [hsz] at W
        refine set_loop knd ks W.toS s.heap.objs.size hSf (fun i v hv => hi.at (by rw [Array.getElem?_toList]; exact hv)) hb (ks.length - 0) 0 _ (by omega) (Nat.zero_le _)
          (hst _ d nl sl (Heap.get?_push_size _ rfl) (Heap.get?_push_of_some _ hol')) ?hS0 ?hR
        case hS0 =>
          have hget : ((s.heap.push { cls := .type "set", dict := none, data := .set #[] 0 (.fresh 0 0 led) }).push { cls := .type It, data := .fields #[.ref l, .int 0 0] }).get? s.heap.objs.size
              = some { cls := .type "set", dict := none, data := .set #[] 0 (.fresh 0 0 led) } := Heap.get?_push_of_some _ hS
          exact SetOf_eq ((PyProof.Rows.setObjOf_fresh (knd := knd) led).setOf hget (by unfold scanBound; omega)) (fun _ => rfl) rfl
        case hR =>
          intro s' hm hS'
          obtain ⟨h', g', d', tk', os'⟩ := s'
          have eg : g' = s.gens := hm.gens
          have ed : d' = s.drawn := hm.drawn
          have eo : os' = s.os := hm.os
          subst eg; subst ed; subst eo
          show wpAny _ _ _ _ _ _
          refine wpAny_pure ?_
          show wpAny _ _ (ret Value.none) _ _ _
          refine wpAny_pure ⟨rfl, h', tk', rfl, hS', fun b o hb e => ?_⟩
          have hb1 : b ≠ s.heap.objs.size := Nat.ne_of_lt hb
          have hb2 : b ≠ (s.heap.push { cls := .type "set", dict := none, data := .set #[] 0 (.fresh 0 0 led) }).objs.size := by
            rw [Heap.size_push]; exact Nat.ne_of_lt (Nat.lt_succ_of_lt hb)
          exact hm.heap b o (by simp only [List.mem_cons, List.not_mem_nil, or_false, not_or]; exact ⟨hb1, hb2⟩) (Heap.get?_push_of_some _ (Heap.get?_push_of_some _ e))
      · cases r₂ with
        | error e => exact hr₂
        | ok fl₂ =>
          cases fl₂ with
          | ret r =>
            obtain ⟨rfl, h', tk, rfl, hS', hk'⟩ := hr₂
            repeat (any_goals (first | assumption | wp_step))
            exact h _ _ hS' hk'
          | _ => exact hr₂.elim
    | _ => exact hr.elim
end Mine
namespace Mine
theorem calm9 : True := by
  w_top off
  first
    | (walk1; trivial)
    | trivial
end Mine
namespace Mine
theorem set_ga : typeLookup (.type "set") "__getattribute__" = pure (some (.builtin "set.__getattribute__")) := by rw [typeLookup_type, builtinLookup_eq_fast]; kernel_rfl
theorem ty_ga : typeOf (.builtin "set.__getattribute__") = pure (.type "wrapper_descriptor") := by show builtinType _ = _; rw [builtinType_eq_fast]; kernel_rfl
theorem slot_ga : Slot "set" "__getattribute__" "set.__getattribute__" :=
  .of (owner := "set") (n := "__getattribute__") (by rw [typeLookup_type, builtinLookup_eq_fast]; kernel_rfl) (by decide +kernel) (by decide +kernel) (by decide +kernel)
    (by first | exact .inl (by decide +kernel) | exact .inr (by decide +kernel)) (by rw [isSubtype_type]; kernel_rfl)
theorem entry_ga : entryFor table "set.__getattribute__" = some Builtin.«object.__getattribute__» :=
  entryFor_alias (id' := "object.__getattribute__") (by kernel_rfl) rfl (by decide +kernel) (by kernel_rfl)
theorem args_ga (a b : Value) : argsOk "set.__getattribute__" ⟨[a, b], []⟩ := by
  unfold argsOk; rw [signature?_of (id := "set.__getattribute__") (n := "__getattribute__".toList.reverse) (o := ['t', 'e', 's']) (by kernel_rfl) PySem.F.owner_set]; kernel_rfl
theorem lk_contains : typeLookup (.type "set") "__contains__" = pure (some (.builtin "set.__contains__")) := by rw [typeLookup_type, builtinLookup_eq_fast]; kernel_rfl
theorem ty_contains : typeOf (.builtin "set.__contains__") = pure (.type "method_descriptor") := by show builtinType _ = _; rw [builtinType_eq_fast]; kernel_rfl
theorem lk_get : typeLookup (.type "method_descriptor") "__get__" = pure (some (.builtin "method_descriptor.__get__")) := by rw [typeLookup_type, builtinLookup_eq_fast]; kernel_rfl
theorem lk_set : typeLookup (.type "method_descriptor") "__set__" = pure none := by rw [typeLookup_type, builtinLookup_eq_fast]; kernel_rfl
theorem lk_del : typeLookup (.type "method_descriptor") "__delete__" = pure none := by rw [typeLookup_type, builtinLookup_eq_fast]; kernel_rfl

theorem cg_contains {S : Addr} : Builtin.ObjectAttr.copiedAttributeGuard (Str.ofString "__contains__") (Value.ref S) = pure () := by
  unfold Builtin.ObjectAttr.copiedAttributeGuard
  exact if_neg (by decide +kernel)
theorem slot_get : Slot "method_descriptor" "__get__" "method_descriptor.__get__" :=
  .of (owner := "method_descriptor") (n := "__get__") (by rw [typeLookup_type, builtinLookup_eq_fast]; kernel_rfl) (by decide +kernel) (by decide +kernel) (by decide +kernel)
    (by first | exact .inl (by decide +kernel) | exact .inr (by decide +kernel)) (by rw [isSubtype_type]; kernel_rfl)
theorem args_get (a b c : Value) : argsOk "method_descriptor.__get__" ⟨[a, b, c], []⟩ := by unfold argsOk; kernel_rfl
theorem k_get : entryFor table "method_descriptor.__get__" = some Builtin.«method_descriptor.__get__» := entryFor_of_tree (by kernel_rfl)
theorem getAttr_contains {prog : Program} {w : World} {A : Around} {E : Value → Shared → Prop} {s : Shared} {S : Addr} {es : Array (Int × Value)} {ep : Nat} {tb : SetTable} {e : Bool} {Q : Value → Shared → Prop} (ho : s.heap.get? S = some ⟨.type "set", none, .set es ep tb, #[]⟩)
    (h : Q (.ref s.heap.objs.size) { s with heap := s.heap.push { cls := .type "builtin_function_or_method", data := .fields #[.builtin "set.__contains__", .ref S] }, toks := s.toks + 1 }) :
    wpAny (model prog w) A (getAttr (.ref S) (Str.ofString "__contains__") e) Q E s := by
  have hT : s.TypeIs (.ref S) "set" := ⟨_, ho, rfl⟩
  unfold getAttr
  refine wpAny_bind (wpAny_mkText ?_)
  have hT' : Shared.TypeIs { s with toks := s.toks + 1 } (.ref S) "set" := ⟨_, ho, rfl⟩
  unfold getAttrBy
  refine wpAny_holding (wpAny_bind (wpAny_typeOf hT' (wpAny_bind (wpAny_of_eq set_ga ?_))))
  show wpAny _ _ (getAttrByItsOwn _ _ _ _ _ _) _ _ _
  unfold getAttrByItsOwn
  refine wpAny_bind (wpAny_pure ?_)
  refine wpAny_bind (wpAny_attempt (wpAny_holding ?_))
  unfold callGetattribute
  show wpAny _ _ (if (e && false) = true then _ else _) _ _ _
  rw [Bool.and_false, if_neg Bool.false_ne_true]
  unfold boundAndCalled bindSpecial
  refine wpAny_bind (wpAny_bind (wpAny_of_eq ty_ga ?_))
  refine wpAny_pure ?_
  refine wpAny_call_entry slot_ga hT' entry_ga ?_ (args_ga _ _)
  unfold Builtin.«object.__getattribute__»
  refine wpAny_bind (wpAny_of_eq (a := (Value.ref S, [Value.str (Str.ofString "__contains__") s.toks])) rfl ?_)
  refine wpAny_bind (wpAny_of_eq (a := Str.ofString "__contains__") rfl ?_)
  refine wpAny_bind (wpAny_typeOf hT' ?_)
  refine wpAny_bind ?_
  unfold Builtin.ObjectAttr.find
  refine wpAny_bind (wpAny_of_eq lk_contains ?_)
  refine wpAny_bind (m := Builtin.ObjectAttr.getOf (some (Value.builtin "set.__contains__"))) (wpAny_bind (wpAny_of_eq ty_contains (wpAny_of_eq lk_get ?_)))
  refine wpAny_bind (m := Builtin.ObjectAttr.dataDescriptor? _ _) (wpAny_bind (wpAny_bind (wpAny_bind (wpAny_of_eq ty_contains (wpAny_of_eq lk_set ?_)))))
  refine wpAny_bind (wpAny_bind (wpAny_of_eq ty_contains (wpAny_of_eq lk_del (wpAny_pure ?_))))
  refine wpAny_pure ?_
  unfold Builtin.ObjectAttr.ownThenClass
  refine wpAny_bind (wpAny_bind (wpAny_bind (wpAny_load (a := S) ho ?_)))
  show wpAny _ _ (instanceDict S false) _ _ _
  unfold instanceDict
  refine wpAny_bind (wpAny_loadPart (a := S) ho ?_)
  dsimp only
  rw [if_pos (show (!false || !typeHasDict (Value.type "set")) = true from rfl)]
  refine wpAny_pure (wpAny_pure ?_)
  show wpAny _ _ (Builtin.ObjectAttr.copiedAttributeGuard (Str.ofString "__contains__") (Value.ref S) >>= fun _ => _) _ _ _
  refine wpAny_bind (wpAny_of_eq (a := ()) cg_contains ?_)
  refine wpAny_bind (wpAny_rule (wpAny_pure ?_))
  show wpAny _ _ (Builtin.ObjectAttr.bindTo (.builtin "method_descriptor.__get__") (.builtin "set.__contains__") (.ref S) (.type "set")) _ _ _
  unfold Builtin.ObjectAttr.bindTo
  dsimp only
  refine wpAny_bind (wpAny_holding ?_)
  refine wpAny_call_entry (T := "method_descriptor") slot_get ty_contains k_get ?_ (args_get _ _ _)
  unfold Builtin.«method_descriptor.__get__»
  refine wpAny_bind (wpAny_of_eq (a := (Value.builtin "set.__contains__", some (Value.ref S), some (Value.type "set"))) (by with_unfolding_all rfl) ?_)
  dsimp only
  rw [if_neg (show ¬ Manifest.toldItsClass.contains "set.__contains__" = true by decide +kernel)]
  with_unfolding_all refine wpAny_bind (wpAny_bind (wpAny_of_eq (a := (Str.ofString "__contains__", Value.type "set")) (by kernel_rfl) ?_))
  refine wpAny_bind (wpAny_isInstance hT' sub_set_self ?_)
  refine wpAny_pure ?_
  refine wpAny_bind (wpAny_newObj_type ?_)
  refine wpAny_pure ⟨_, rfl, ?_⟩
  refine wpAny_pure ⟨_, rfl, ?_⟩
  exact wpAny_pure h
end Mine
namespace Mine
theorem calm10 : True := by
  w_top off
  first
    | (walk1; trivial)
    | trivial
end Mine
namespace Mine
theorem sub_set_module : isSubtype (.type "set") (.type "module") = pure false := by rw [isSubtype_type]; kernel_rfl
theorem sig_contains : Manifest.signature? "set.__contains__" = some ⟨.oneArg, "set.__contains__", "__contains__", .self, [⟨"object", .posOnly, true⟩]⟩ := by
  rw [signature?_of (id := "set.__contains__") (n := ['_', '_', 's', 'n', 'i', 'a', 't', 'n', 'o', 'c', '_', '_']) (o := ['t', 'e', 's']) (by kernel_rfl) PySem.F.owner_set]; kernel_rfl
theorem kind_contains : builtinKind "set.__contains__" = some .method := by kernel_rfl
theorem ck_contains (a b : Value) : Bind.checkArgs "set.__contains__" ⟨.oneArg, "set.__contains__", "__contains__", .self, [⟨"object", .posOnly, true⟩]⟩ ⟨[a, b], []⟩ = pure () := by kernel_rfl
theorem bound_ok {M : Model} {A : Around} {E : Value → Shared → Prop} {s : Shared} {S : Addr} {es : Array (Int × Value)} {ep : Nat} {tb : SetTable} {key : Value} {Q : Unit → Shared → Prop} (ho : s.heap.get? S = some ⟨.type "set", none, .set es ep tb, #[]⟩) (hQ : Q () s) :
    wpAny M A (checkBoundCall "set.__contains__" ⟨[.ref S, key], []⟩) Q E s := by
  have hT : s.TypeIs (.ref S) "set" := ⟨_, ho, rfl⟩
  unfold checkBoundCall
  rw [sig_contains, kind_contains]
  dsimp only
  rw [if_neg (by decide)]
  refine wpAny_bind (wpAny_isInstance hT sub_set_module ?_)
  rw [if_neg (by decide +kernel)]
  refine wpAny_bind (m := isType (.ref S)) (wpAny_bind (wpAny_loadPart ho (wpAny_pure ?_)))
  dsimp only
  rw [if_neg Bool.false_ne_true]
  refine wpAny_bind (wpAny_typeOf hT ?_)
  show wpAny M A (Bind.checkArgs "set.__contains__" ⟨.oneArg, "set.__contains__", "__contains__", .self, [⟨"object", .posOnly, true⟩]⟩ ⟨[.ref S, key], []⟩) Q E s
  exact wpAny_of_eq (ck_contains _ _) hQ
theorem SetOf_obj {prog : Program} {w : World} {K : Type} [DecidableEq K] {knd : KeyKind prog w K} {h : Heap} {a : Addr} {S : K → Bool} {n : Nat} (hS : h.SetOf knd a S n) : ∃ es ep tb, h.get? a = some ⟨.type "set", none, .set es ep tb, #[]⟩ := by
  obtain ⟨⟨c, d, dt, sl⟩, es, ep, tb, ho, ⟨h1, h2, h3⟩, h4, _⟩ := hS
  simp only at h1 h2 h3 h4
  subst h1 h2 h3 h4
  exact ⟨es, ep, tb, ho⟩
theorem plain_contains : plainId "set.__contains__" = true := by decide +kernel
theorem call_bound {prog : Program} {w : World} {A : Around} {E : Value → Shared → Prop} {s : Shared} {K : Type} [DecidableEq K] {knd : KeyKind prog w K} {bm S : Addr} {SS : K → Bool} {n : Nat} {k : K} {key : Value} {Q : Value → Shared → Prop}
    (hb : s.heap.get? bm = some { cls := .type "builtin_function_or_method", data := .fields #[.builtin "set.__contains__", .ref S] }) (hS : s.heap.SetOf knd S SS n) (hkey : knd.is k key = true) (hsc : key.scannable = true)
    (h : Q (.bool (SS k)) { s with toks := s.toks + 1 }) : wpAny (model prog w) A (call (.ref bm) [key]) Q E s := by
  obtain ⟨es, ep, tb, ho⟩ := SetOf_obj hS
  refine wpAny_call (codeAny_of_tree ?_)
  show wpAny _ _ (callAny (.ref bm) ⟨[key], []⟩) _ _ s
  unfold callAny
  dsimp only
  refine wpAny_bind (wpAny_load hb ?_)
  dsimp only
  rw [if_pos (by decide)]
  show wpAny _ _ (checkBoundCall "set.__contains__" ⟨[.ref S, key], []⟩ >>= fun _ => again (.builtin "set.__contains__" ⟨[.ref S, key], []⟩)) _ _ s
  refine wpAny_bind (bound_ok ho (wpAny_pure ⟨plainId_quiet plain_contains _, codeAny_builtin entry_set_contains ?_⟩))
  rw [Around.under_plainId plain_contains _]
  unfold Builtin.«frozenset.__contains__» Builtin.Frozenset.oneOther
  simp only [List.isEmpty_nil, bind_assoc]
  unfold Builtin.Frozenset.addrOf Builtin.Frozenset.withSetAsKey setContains
  refine wpAny_bind (wpAny_pure ?_)
  try dsimp only
  refine wpAny_bind (wpAny_pure ?_)
  try dsimp only
  refine wpAny_bind (wpAny_tryCatch ?_)
  refine wpAny_holding ?_
  refine wpAny_bind (knd.pyHash hkey ?_)
  refine wpAny_bind (wpAny_setFind_of (s := { s with toks := s.toks + 1 }) hkey hsc hS fun r hr => ?_)
  refine wpAny_pure ?_
  show wpAny _ _ (ret (Value.bool r.isSome)) _ _ _
  rw [hr]
  exact wpAny_pure h
end Mine
namespace Mine
theorem calm11 : True := by
  w_top off
  first
    | (walk1; trivial)
    | trivial
end Mine
namespace Mine
theorem entry_filter_new : entryFor table "filter.__new__" = some Builtin.«filter.__new__» := entryFor_of_tree (by kernel_rfl)
theorem entry_filter_next : entryFor table "filter.__next__" = some Builtin.«filter.__next__» := entryFor_of_tree (by kernel_rfl)
theorem sub_filter : isSubtype (.type "filter") (.type "filter") = pure true := by rw [isSubtype_type]; kernel_rfl
theorem typeCall_filter (a b : Value) : checkTypeCall "filter" ⟨[a, b], []⟩ = pure () := by kernel_rfl
theorem newCall_filter (a b : Value) : checkBuiltinCall "filter.__new__" ⟨[.type "filter", a, b], []⟩ = pure () := by kernel_rfl
theorem args_object_init_3 (a b c : Value) : argsOk "object.__init__" ⟨[a, b, c], []⟩ := by unfold argsOk; kernel_rfl
theorem mro_filter : mroOf (.type "filter") = pure [.type "filter", .type "object"] := by rw [mroOf_type]; kernel_rfl
theorem lookup_filter_new : typeLookup (.type "filter") "__new__" = pure (some (.builtin "filter.__new__")) := by rw [typeLookup_type, builtinLookup_eq_fast]; kernel_rfl
theorem slot_filter_init : Slot "filter" "__init__" "object.__init__" :=
  .of (owner := "object") (n := "__init__") (by rw [typeLookup_type, builtinLookup_eq_fast]; kernel_rfl) (by decide +kernel) (by decide +kernel) (by decide +kernel)
    (by first | exact .inl (by decide +kernel) | exact .inr (by decide +kernel)) (by rw [isSubtype_type]; kernel_rfl)
theorem called_filter : TypeCalled "filter" "filter.__new__" "object.__init__" :=
  ⟨by decide +kernel, by decide +kernel, ⟨_, _, mro_filter⟩, madeBy_type mro_filter lookup_filter_new (by decide +kernel), by decide +kernel, sub_filter, slot_filter_init⟩
abbrev filterObj (bm it : Addr) : Obj := { cls := .type "filter", data := .fields #[.ref bm, .ref it] }
abbrev boundObj (S : Addr) : Obj := { cls := .type "builtin_function_or_method", data := .fields #[.builtin "set.__contains__", .ref S] }
theorem meets_filter_new (bm l : Addr) (items : Array Value) (n : Nat) (dct : Option Addr) (sl : Array (Option Value)) :
    Meets (Builtin.«filter.__new__» ⟨[.type "filter", .ref bm, .ref l], []⟩) (fun _ R s => s.heap.get? l = some { cls := .type "list", dict := dct, data := .seq items n, slots := sl } ∧
      R (.ok (.ret (.ref (s.heap.push { cls := .type "list_iterator", data := .fields #[.ref l, .int 0 0] }).objs.size)))
        { s with heap := (s.heap.push { cls := .type "list_iterator", data := .fields #[.ref l, .int 0 0] }).push (filterObj bm s.heap.objs.size) }) :=
  .of_wp fun prog w A R s h => by
    obtain ⟨hl, h⟩ := h
    have hL : s.heap.IsList l items := ⟨_, hl, rfl, n, rfl⟩
    unfold Builtin.«filter.__new__»
    refine wpAny_bind (m := Builtin.SmallTypes.newClass "filter" _) ?_
    unfold Builtin.SmallTypes.newClass
    refine wpAny_bind (m := isType (.type "filter")) (wpAny_pure ?_)
    refine wpAny_bind (wpAny_of_eq sub_filter (wpAny_pure ?_))
    refine wpAny_bind (m := Builtin.SmallTypes.refuseKeywords _ _ _) (wpAny_pure ?_)
    refine wpAny_bind (wpAny_of_eq (a := ()) rfl ?_)
    refine wpAny_bind (wpAny_pyIter_list hL ?_)
    show wpAny _ _ (newObj (.type "filter") (.fields #[.ref bm, .ref s.heap.objs.size]) >>= fun r => ret r) _ _ _
    refine wpAny_bind (wpAny_newObj_type ?_)
    exact wpAny_pure ⟨_, rfl, h⟩
section
variable {prog : Program} {w : World} {A : Around} {E : Value → Shared → Prop} {s : Shared}
theorem call_filter {bm l : Addr} {items : Array Value} {Q : Value → Shared → Prop} (hL : s.heap.IsList l items)
    (h : ∀ h', h'.get? (s.heap.objs.size + 1) = some (filterObj bm s.heap.objs.size) → h'.IsListIter s.heap.objs.size l 0 → h'.objs.size = s.heap.objs.size + 2 →
      (∀ b o, s.heap.get? b = some o → h'.get? b = some o) → Q (.ref (s.heap.objs.size + 1)) { s with heap := h' }) :
    wpAny (model prog w) A (call (.type "filter") [.ref bm, .ref l]) Q E s := by
  obtain ⟨⟨c, dct, dt, sl⟩, hl, hc, n, hd⟩ := hL
  replace hc : c = .type "list" := hc
  replace hd : dt = .seq items n := hd
  subst hc hd
  refine callType_new called_filter (by decide) (typeCall_filter _ _) (newCall_filter _ _) (fun obj => args_object_init_3 obj _ _) entry_filter_new
    (meets_filter_new bm l items n dct sl) ⟨hl, ?_⟩
  have hz : (s.heap.push { cls := .type "list_iterator", data := .fields #[.ref l, .int 0 0] }).objs.size = s.heap.objs.size + 1 := Heap.size_push ..
  show _ ∧ _
  rw [hz]
  have he : ((s.heap.push { cls := .type "list_iterator", data := .fields #[.ref l, .int 0 0] }).push (filterObj bm s.heap.objs.size)).get? (s.heap.objs.size + 1) = some (filterObj bm s.heap.objs.size) := by
    have := Heap.get?_push_size (s.heap.push { cls := .type "list_iterator", data := .fields #[.ref l, .int 0 0] }) (o := filterObj bm s.heap.objs.size) rfl
    rw [hz] at this; exact this
  refine ⟨⟨_, he, rfl⟩, h _ he ⟨_, Heap.get?_push_of_some _ (Heap.get?_push_size _ rfl), rfl, rfl⟩ (by rw [Heap.size_push, hz]) fun b o x => Heap.get?_push_of_some _ (Heap.get?_push_of_some _ x)⟩
end
end Mine
namespace Mine
theorem calm12 : True := by
  w_top off
  first
    | (walk1; trivial)
    | trivial
end Mine
namespace Mine
theorem slot_filter_next : Slot "filter" "__next__" "filter.__next__" :=
  .of (owner := "filter") (n := "__next__") (by rw [typeLookup_type, builtinLookup_eq_fast]; kernel_rfl) (by decide +kernel) (by decide +kernel) (by decide +kernel)
    (by first | exact .inl (by decide +kernel) | exact .inr (by decide +kernel)) (by rw [isSubtype_type]; kernel_rfl)
theorem slot_filter_iter : Slot "filter" "__iter__" "filter.__iter__" :=
  .of (owner := "filter") (n := "__iter__") (by rw [typeLookup_type, builtinLookup_eq_fast]; kernel_rfl) (by decide +kernel) (by decide +kernel) (by decide +kernel)
    (by first | exact .inl (by decide +kernel) | exact .inr (by decide +kernel)) (by rw [isSubtype_type]; kernel_rfl)
theorem args_filter_next (a : Value) : argsOk "filter.__next__" ⟨[a], []⟩ := by unfold argsOk; kernel_rfl
theorem args_filter_iter (a : Value) : argsOk "filter.__iter__" ⟨[a], []⟩ := by unfold argsOk; kernel_rfl
theorem plain_filter_next : plainId "filter.__next__" = true := by decide +kernel
theorem filter_no_len : typeLookup (.type "filter") "__len__" = pure none := by rw [typeLookup_type, builtinLookup_eq_fast]; kernel_rfl
theorem filter_no_hint : typeLookup (.type "filter") "__length_hint__" = pure none := by rw [typeLookup_type, builtinLookup_eq_fast]; kernel_rfl
theorem entry_filter_iter : entryFor table "filter.__iter__" = some Builtin.«dict_keyiterator.__iter__» :=
  entryFor_alias (id' := "dict_keyiterator.__iter__") (by kernel_rfl) rfl (by decide +kernel) (by kernel_rfl)

section
variable {prog : Program} {w : World} {A : Around} {E : Value → Shared → Prop} {s : Shared}
theorem listnext_item {it l : Addr} {i : Nat} {items : Array Value} {x : Value} {Q : Value → Shared → Prop} (hit : s.heap.IsListIter it l i)
    (hl : s.heap.IsList l items) (hx : items[i]? = some x)
    (hQ : ∀ h', h'.IsListIter it l (i + 1) → Heap.SameBut it s.heap h' → Q x { s with heap := h' }) :
    wpAny (model prog w) A (call (.builtin "list_iterator.__next__") [.ref it]) Q E s := by
  obtain ⟨o, ho, hc, hd⟩ := id hit
  obtain ⟨ol, hol, _, nl, hdl⟩ := hl
  refine wpAny_call_entry slot_listiter_next hit.typeIs entry_listiter_next ?_ (args_listiter_next _)
  show wpAny _ _ (field (.ref it) 0 >>= _) _ _ s
  refine wpAny_bind (wpAny_field ho hd (x := .ref l) rfl ?_)
  show wpAny _ _ (if (Value.ref l == Value.none) = true then _ else _) _ _ s
  rw [if_neg (show ¬ ((Value.ref l == Value.none) = true) from Bool.false_ne_true)]
  show wpAny _ _ (field (.ref it) 1 >>= _) _ _ s
  refine wpAny_bind (wpAny_field ho hd (x := .int i 0) rfl ?_)
  show wpAny _ _ (seqItems? (.ref l) >>= _) _ _ s
  refine wpAny_bind (wpAny_seqItems hol hdl ?_)
  simp only [Int.toNat_natCast, hx]
  refine wpAny_bind (wpAny_setField ho hd (by simp) (wpAny_pure ⟨x, rfl, hQ _ ?_ (Heap.SameBut.update ..)⟩))
  exact ⟨_, Heap.get?_update_self _ ho (Obj.isFreed_of_fields (Obj.data_mapFields hd _)), (Obj.cls_mapFields ..).trans hc, by
    rw [Obj.data_mapFields hd]; simp [rawInt]⟩
theorem listnext_end {it l : Addr} {i : Nat} {items : Array Value} {Q : Value → Shared → Prop} (hh : A.handled = none)
    (hit : s.heap.IsListIter it l i) (hl : s.heap.IsList l items) (hx : items[i]? = none)
    (hE : ∀ h' e, Heap.ExtBut it s.heap h' → Shared.TypeIs { s with heap := h' } e "StopIteration" → E e { s with heap := h' }) : wpAny (model prog w) A (call (.builtin "list_iterator.__next__") [.ref it]) Q E s := by
  obtain ⟨o, ho, hc, hd⟩ := id hit
  obtain ⟨ol, hol, _, nl, hdl⟩ := hl
  refine wpAny_call_entry slot_listiter_next hit.typeIs entry_listiter_next ?_ (args_listiter_next _)
  show wpAny _ _ (field (.ref it) 0 >>= _) _ _ s
  refine wpAny_bind (wpAny_field ho hd (x := .ref l) rfl ?_)
  show wpAny _ _ (if (Value.ref l == Value.none) = true then _ else _) _ _ s
  rw [if_neg (show ¬ ((Value.ref l == Value.none) = true) from Bool.false_ne_true)]
  show wpAny _ _ (field (.ref it) 1 >>= _) _ _ s
  refine wpAny_bind (wpAny_field ho hd (x := .int i 0) rfl ?_)
  show wpAny _ _ (seqItems? (.ref l) >>= _) _ _ s
  refine wpAny_bind (wpAny_seqItems hol hdl ?_)
  simp only [Int.toNat_natCast, hx]
  refine wpAny_bind (wpAny_rule (wpAny_bind (wpAny_setField ho hd (by simp) ?_)))
  show wpAny _ _ (newExc (.type "StopIteration") [] >>= _) _ _ _
  refine wpAny_bind ?_
  simp only [newExc, newTuple]
  refine wpAny_bind (wpAny_newObj_type ?_ (by size_fits))
  refine wpAny_bind (m := firstArgMember _ _) (wpAny_of_eq (a := Value.none) (by first | rfl | (simp only [firstArgMember]; rfl)) ?_)
  refine wpAny_newObj_type ?_ (by size_fits)
  simp only [raiseNew]
  refine wpAny_bind (wpAny_handled ?_)
  rw [show A.in1.handled = none from hh]
  refine wpAny_bind (wpAny_pure (wpAny_throw ?_))
  exact hE _ _ (((Heap.SameBut.update ..).extBut.push _).push _) ⟨_, Heap.get?_push_size _ rfl, rfl⟩
end

def fl {K : Type} (SS : K → Bool) : List Value → List K → List Value
  | v :: vs, k :: ks => if SS k then v :: fl SS vs ks else fl SS vs ks
  | _, _ => []
theorem fl_t {K : Type} {SS : K → Bool} {v : Value} {vs : List Value} {k : K} {ks : List K} (h : SS k = true) : fl SS (v :: vs) (k :: ks) = v :: fl SS vs ks := by
  show (if SS k = true then _ else _) = _
  rw [if_pos h]
theorem fl_f {K : Type} {SS : K → Bool} {v : Value} {vs : List Value} {k : K} {ks : List K} (h : SS k = false) : fl SS (v :: vs) (k :: ks) = fl SS vs ks := by
  show (if SS k = true then _ else _) = _
  rw [if_neg (by rw [h]; exact Bool.false_ne_true)]
structure FilSt {prog : Program} {w : World} {K : Type} [DecidableEq K] (knd : KeyKind prog w K) (SS : K → Bool) (n : Nat) (FI bm S it l : Addr) (items : Array Value) (j : Nat) (h : Heap) : Prop where
  fi : h.get? FI = some (filterObj bm it)
  bo : h.get? bm = some (boundObj S)
  st : h.SetOf knd S SS n
  itr : h.IsListIter it l j
  lst : h.IsList l items
  nFI : FI ≠ it
  nbm : bm ≠ it
  nS : S ≠ it
  nl : l ≠ it
theorem FilSt.move {prog : Program} {w : World} {K : Type} [DecidableEq K] {knd : KeyKind prog w K} {SS : K → Bool} {n : Nat} {FI bm S it l : Addr} {items : Array Value} {j j' : Nat} {h h' : Heap} (x : FilSt knd SS n FI bm S it l items j h)
    (hi : h'.IsListIter it l j') (hk : ∀ b o, b ≠ it → h.get? b = some o → h'.get? b = some o) : FilSt knd SS n FI bm S it l items j' h' :=
  ⟨hk _ _ x.nFI x.fi, hk _ _ x.nbm x.bo, SetOf_at x.st fun o e => hk _ _ x.nS e, hi, let ⟨o, a, b⟩ := x.lst; ⟨o, hk _ _ x.nl a, b⟩, x.nFI, x.nbm, x.nS, x.nl⟩

theorem filter_loop {prog : Program} {w : World} {A : Around} {K : Type} [DecidableEq K] {knd : KeyKind prog w K} {SS : K → Bool} {n : Nat} {FI bm S it l : Addr} {items : Array Value} {R : Result → Shared → Prop} (hh : A.handled = none) :
    ∀ (vs : List Value) (ks : List K) (j : Nat) (s : Shared), items.toList.drop j = vs → KeysAre knd vs ks → FilSt knd SS n FI bm S it l items j s.heap →
      (∀ v vs2 ks2 j2 h' tk, fl SS vs ks = v :: fl SS vs2 ks2 → items.toList.drop j2 = vs2 → KeysAre knd vs2 ks2 → FilSt knd SS n FI bm S it l items j2 h' → (∀ b o, b ≠ it → s.heap.get? b = some o → h'.get? b = some o) → R (.ok (.ret v)) { s with heap := h', toks := tk }) →
      (∀ e h' tk, fl SS vs ks = [] → (∀ b o, b ≠ it → s.heap.get? b = some o → h'.get? b = some o) → Shared.TypeIs { s with heap := h', toks := tk } e "StopIteration" → R (.error e) { s with heap := h', toks := tk }) →
      codeAny (model prog w) A (.builtin "filter.__next__" ⟨[.ref FI], []⟩) R s := by
  intro vs
  induction vs with
  | nil =>
    intro ks j s hd hk hst _ hend
    cases hk
    refine codeAny_builtin entry_filter_next ?_
    rw [Around.under_plainId plain_filter_next _]
    unfold Builtin.«filter.__next__»
    refine wpAny_bind (wpAny_of_eq (a := (Value.ref FI, [])) rfl ?_)
    refine wpAny_bind (wpAny_field hst.fi rfl (x := .ref bm) rfl ?_)
    refine wpAny_bind (wpAny_field hst.fi rfl (x := .ref it) rfl ?_)
    refine wpAny_bind (wpAny_callSpecial?_slot (name := Str.ofString "__next__") hst.itr.typeIs slot_listiter_next ?_)
    have hx : items[j]? = none := by
      have := congrArg List.length hd
      simp at this
      exact Array.getElem?_eq_none (by omega)
    exact listnext_end (A := A.in1) hh hst.itr hst.lst hx fun h' e he hT => hend e h' s.toks rfl (fun b o hb q => he b o hb q) hT
  | cons v vs ih =>
    intro ks j s hd hk hst hok hend
    cases hk with
    | @cons _ k _ ks h1 h2 h3 =>
    refine codeAny_builtin entry_filter_next ?_
    rw [Around.under_plainId plain_filter_next _]
    unfold Builtin.«filter.__next__»
    refine wpAny_bind (wpAny_of_eq (a := (Value.ref FI, [])) rfl ?_)
    refine wpAny_bind (wpAny_field hst.fi rfl (x := .ref bm) rfl ?_)
    refine wpAny_bind (wpAny_field hst.fi rfl (x := .ref it) rfl ?_)
    refine wpAny_bind (wpAny_callSpecial?_slot (name := Str.ofString "__next__") hst.itr.typeIs slot_listiter_next ?_)
    have hx : items[j]? = some v := by
      have := congrArg (·[0]?) hd
      simpa [List.getElem?_drop] using this
    have hd' : items.toList.drop (j + 1) = vs := by
      have := congrArg List.tail hd
      simpa [List.tail_drop] using this
    refine listnext_item (A := A.in1) hst.itr hst.lst hx fun h' hi' hs' => ?_
    have hst' := hst.move (h' := h') hi' fun b o hb e => hs'.extBut b o hb e
    refine wpAny_bind (wpAny_holding ?_)
    rw [if_neg (by simp)]
    refine wpAny_bind (call_bound (knd := knd) (SS := SS) (n := n) hst'.bo hst'.st h1 h2 ?_)
    refine wpAny_holding (wpAny_truthy_bool ?_)
    cases hS : SS k with
    | true =>
      rw [if_pos rfl]
      refine wpAny_pure ?_
      exact hok v vs ks (j + 1) h' _ (fl_t hS) hd' h3 hst' fun b o hb e => hs'.extBut b o hb e
    | false =>
      rw [if_neg Bool.false_ne_true]
      refine wpAny_pure ⟨plainId_quiet plain_filter_next _, ih ks (j + 1) _ hd' h3 hst' ?_ ?_⟩
      · intro v2 vs2 ks2 j2 h2' tk e1 e2 e3 e4 e5
        exact hok v2 vs2 ks2 j2 h2' tk ((fl_f hS).trans e1) e2 e3 e4 fun b o hb e => e5 b o hb (hs'.extBut b o hb e)
      · intro e h2' tk e1 e2 e3
        exact hend e h2' tk ((fl_f hS).trans e1) (fun b o hb q => e2 b o hb (hs'.extBut b o hb q)) e3

theorem pyNext_filter {prog : Program} {w : World} {A : Around} {E : Value → Shared → Prop} {s : Shared} {K : Type} [DecidableEq K] {knd : KeyKind prog w K} {SS : K → Bool} {n : Nat} {FI bm S it l : Addr} {items : Array Value} {Q : Option Value → Shared → Prop} (hh : A.handled = none)
    {vs : List Value} {ks : List K} {j : Nat} (hd : items.toList.drop j = vs) (hk : KeysAre knd vs ks) (hst : FilSt knd SS n FI bm S it l items j s.heap)
    (hok : ∀ v vs2 ks2 j2 h' tk, fl SS vs ks = v :: fl SS vs2 ks2 → items.toList.drop j2 = vs2 → KeysAre knd vs2 ks2 → FilSt knd SS n FI bm S it l items j2 h' → (∀ b o, b ≠ it → s.heap.get? b = some o → h'.get? b = some o) → Q (some v) { s with heap := h', toks := tk })
    (hend : ∀ h' tk, fl SS vs ks = [] → (∀ b o, b ≠ it → s.heap.get? b = some o → h'.get? b = some o) → Q none { s with heap := h', toks := tk }) :
    wpAny (model prog w) A (pyNext (.ref FI)) Q E s := by
  have hT : s.TypeIs (.ref FI) "filter" := ⟨_, hst.fi, rfl⟩
  unfold pyNext
  refine wpAny_bind (wpAny_attempt (wpAny_callSpecial?_slot (name := Str.ofString "__next__") hT slot_filter_next ?_))
  refine wpAny_call (codeAny_call_builtin_code (plainId_quiet plain_filter_next _) (slot_filter_next.check _ _ _ _ _ _ _ _ hT (args_filter_next _) ?_))
  refine filter_loop hh vs ks j s hd hk hst ?_ ?_
  · intro v vs2 ks2 j2 h' tk e1 e2 e3 e4 e5
    exact wpAny_pure (hok v vs2 ks2 j2 h' tk e1 e2 e3 e4 e5)
  · intro e h' tk e1 e2 e3
    refine wpAny_bind (wpAny_isInstance e3 isSubtype_stop ?_)
    exact wpAny_pure (hend h' tk e1 e2)
theorem pyIter_filter {prog : Program} {w : World} {A : Around} {E : Value → Shared → Prop} {s : Shared} {FI bm it : Addr} {Q : Value → Shared → Prop} (hf : s.heap.get? FI = some (filterObj bm it)) (h : Q (.ref FI) s) : wpAny (model prog w) A (pyIter (.ref FI)) Q E s := by
  have hT : s.TypeIs (.ref FI) "filter" := ⟨_, hf, rfl⟩
  refine wpAny_pyIter_slot hT slot_filter_iter (wpAny_call_entry slot_filter_iter hT entry_filter_iter ?_ (args_filter_iter _))
  show wpAny _ _ (ret (.ref FI)) _ _ s
  exact wpAny_pure ⟨_, rfl, "filter", _, hT, slot_filter_next.lookup, h⟩
theorem walks_filter {prog : Program} {w : World} {A : Around} {K : Type} [DecidableEq K] {knd : KeyKind prog w K} {SS : K → Bool} {n : Nat} {FI bm S it l : Addr} {items : Array Value} {ks : List K} (hh : A.handled = none) :
    Walks prog w A FI [FI, bm, S, it, l] [it] (fl SS items.toList ks).length (fun i v => (fl SS items.toList ks)[i]? = some v)
      (fun i h => ∃ j vs ks', items.toList.drop j = vs ∧ KeysAre knd vs ks' ∧ FilSt knd SS n FI bm S it l items j h ∧ fl SS vs ks' = (fl SS items.toList ks).drop i) where
  sub := fun b hb => by rw [List.mem_singleton.mp hb]; simp
  frame := fun i h h' st hk => by
    obtain ⟨j, vs, ks', h1, h2, h3, h4⟩ := st
    exact ⟨j, vs, ks', h1, h2, ⟨hk _ (by simp) _ h3.fi, hk _ (by simp) _ h3.bo, SetOf_at h3.st fun o e => hk _ (by simp) _ e, let ⟨o, a, b⟩ := h3.itr; ⟨o, hk _ (by simp) _ a, b⟩, let ⟨o, a, b⟩ := h3.lst; ⟨o, hk _ (by simp) _ a, b⟩, h3.nFI, h3.nbm, h3.nS, h3.nl⟩, h4⟩
  item := fun i s Q E hi st hQ => by
    obtain ⟨j, vs, ks', h1, h2, h3, h4⟩ := st
    refine pyNext_filter hh h1 h2 h3 ?_ ?_
    · intro v vs2 ks2 j2 h' tk e1 e2 e3 e4 e5
      rw [h4] at e1
      have hv : (fl SS items.toList ks)[i]? = some v := by
        have := congrArg (·[0]?) e1
        simpa [List.getElem?_drop] using this
      have ht : fl SS vs2 ks2 = (fl SS items.toList ks).drop (i + 1) := by
        have := congrArg List.tail e1
        simpa [List.tail_drop] using this.symm
      exact hQ v h' tk hv ⟨j2, vs2, ks2, e2, e3, e4, ht⟩ fun b o hb e => e5 b o (fun q => hb (by rw [q]; exact List.mem_singleton.mpr rfl)) e
    · intro h' tk e1 e2
      rw [h4] at e1
      have := congrArg List.length e1
      simp at this
      omega
  done := fun s Q E st hQ => by
    obtain ⟨j, vs, ks', h1, h2, h3, h4⟩ := st
    rw [List.drop_length] at h4
    refine pyNext_filter hh h1 h2 h3 ?_ ?_
    · intro v vs2 ks2 j2 h' tk e1 _ _ _ _
      rw [h4] at e1
      cases e1
    · intro h' tk e1 e2
      exact hQ h' tk fun b o hb e => e2 b o (fun q => hb (by rw [q]; exact List.mem_singleton.mpr rfl)) e
  self := fun i s Q E st hQ => by
    obtain ⟨j, vs, ks', h1, h2, h3, h4⟩ := st
    exact pyIter_filter h3.fi hQ
end Mine
namespace Mine
theorem calm13 : True := by
  w_top off
  first
    | (walk1; trivial)
    | trivial
end Mine
namespace Mine
section
variable {prog : Program} {w : World} {A : Around} {s : Shared} {R : Result → Shared → Prop}
variable {I : Addr} {fp wr : List Addr} {G : Array GenState → Array GenState → Prop} {n : Nat} {P : Nat → Value → Prop} {St : Nat → Shared → Prop}
theorem extend_filter (W : WalksS prog w A.in1 I fp wr G n P St) (hT : ∀ i s, St i s → s.TypeIs (.ref I) "filter") (S : Addr) (res : Value) (c₀ : Nat) (hst : St 0 s) (hSf : S ∉ fp) (hI : I ∈ fp)
    (hS : s.heap.get? S = some { cls := .type "list", data := .seq #[] c₀ })
    (hR : ∀ s' acc' c', Moved (S :: wr) G s s' → s'.heap.get? S = some { cls := .type "list", dict := none, data := .seq acc' c', slots := #[] } → ItemsOf P acc' n → R (.ok (.ret res)) s') (hn : n ≤ sizeLine) :
    wpAny (model prog w) A.in1 (Builtin.List.listExtendWith (.ref S) (.ref I) res)
      (fun fin s' => match fin with | .done f => R (.ok f) s' | .again c' => c'.quiet = true ∧ codeAny (model prog w) A c' R s') (fun e s' => R (.error e) s') s := by
  have hSI : S ≠ I := fun e => hSf (e ▸ hI)
  unfold Builtin.List.listExtendWith
  refine wpAny_bind (wpAny_typeOf (hT 0 _ hst) ?_)
  have h1 : Builtin.List.listSameRef (.ref S) (.ref I) = false := by simp [Builtin.List.listSameRef, hSI]
  have h2 : (Value.type "filter" == Value.type "list") = false := by decide
  have h3 : (Value.type "filter" == Value.type "tuple") = false := by decide
  simp only [h1, h2, h3, Bool.or_false, Bool.false_eq_true, if_false]
  refine wpAny_bind (W.self 0 _ _ _ hst ?_)
  refine wpAny_bind (wpAny_holding ?_)
  unfold Builtin.List.listLengthHint
  refine wpAny_bind (wpAny_specialOf (hT 0 _ hst) filter_no_len ?_)
  show wpAny _ A.in1 (specialOf (Value.ref I) (Str.ofString "__length_hint__") >>= _) _ _ _
  refine wpAny_bind (wpAny_specialOf (hT 0 _ hst) filter_no_hint ?_)
  refine wpAny_pure ?_
  show wpAny _ A.in1 (rule "list.extend.makes-room" >>= fun _ => Builtin.List.listTouch (.ref S) >>= fun _ =>
    again (.builtin "list.extend.loop" ⟨[.ref S, .ref I, res], []⟩)) _ _ _
  refine wpAny_bind (wpAny_rule ?_)
  refine wpAny_bind ?_
  show wpAny _ A.in1 (updateSeq S (·.push .none) >>= fun _ => updateSeq S (·.pop)) _ _ _
  refine wpAny_bind (wpAny_updateSeq hS rfl ?_)
  have hS₂ := Heap.get?_update_self (Obj.mapSeq (·.push Value.none)) hS rfl
  refine wpAny_updateSeq (hz := by seq_fits) hS₂ rfl ?_
  have hS₃ := Heap.get?_update_self (Obj.mapSeq (·.pop)) hS₂ rfl
  have oth : ∀ b o, b ≠ S → s.heap.get? b = some o → ((s.heap.update S (Obj.mapSeq (·.push Value.none))).update S (Obj.mapSeq (·.pop))).get? b = some o :=
    fun b o hb e => (Heap.get?_update_other _ _ (Ne.symm hb)).trans ((Heap.get?_update_other _ _ (Ne.symm hb)).trans e)
  refine wpAny_pure ⟨plainId_quiet PySem.F.plain_extend_loop _, codeAny_extend_loopS W hn _ hSf _ n 0 _ _ _ rfl (Nat.zero_le _)
    (W.frame 0 s _ s.toks hst (Nat.le_refl _) fun b hb o e => oth b o (fun h => hSf (h ▸ hb)) e) hS₃ (ItemsOf.nil P) fun s' acc' c' hm hS' hacc => ?_⟩
  exact hR s' acc' c' (Moved.trans W.gtrans ((Moved.refl W.grefl).then_heap (Nat.le_refl _) fun b o hb e => oth b o (fun h => hb (h ▸ List.mem_cons_self)) e) hm) hS' hacc
theorem init_filter (W : WalksS prog w A.in1 I fp wr G n P St) (hT : ∀ i s, St i s → s.TypeIs (.ref I) "filter") (S : Addr) (hst : St 0 s) (hSf : S ∉ fp) (hI : I ∈ fp)
    (hS : s.heap.get? S = some { cls := .type "list", data := .seq #[] })
    (hR : ∀ s' acc' c', Moved (S :: wr) G s s' → s'.heap.get? S = some { cls := .type "list", dict := none, data := .seq acc' c', slots := #[] } → ItemsOf P acc' n → R (.ok (.ret .none)) s') (hn : n ≤ sizeLine) :
    wpAny (model prog w) A.in1 (Builtin.«list.__init__» ⟨[.ref S, .ref I], []⟩)
      (fun fin s' => match fin with | .done f => R (.ok f) s' | .again c' => c'.quiet = true ∧ codeAny (model prog w) A c' R s') (fun e s' => R (.error e) s') s := by
  show wpAny _ A.in1 (do let old ← Builtin.List.listItems (.ref S); Builtin.List.listUpdate (.ref S) (fun _ => #[]); letGo old.toList.reverse; Builtin.List.listExtendWith (.ref S) (.ref I) .none) _ _ s
  refine wpAny_bind ?_
  unfold Builtin.List.listItems
  refine wpAny_bind (wpAny_seqItems hS rfl (wpAny_pure ?_))
  show wpAny _ A.in1 (updateSeq S (fun _ => #[]) >>= fun _ => letGo (#[] : Array Value).toList.reverse >>= fun _ => Builtin.List.listExtendWith (.ref S) (.ref I) .none) _ _ s
  refine wpAny_bind (wpAny_updateSeq hS rfl ?_)
  have hS₂ := Heap.get?_update_self (Obj.mapSeq (fun _ => (#[] : Array Value))) hS rfl
  have oth : ∀ b o, b ≠ S → s.heap.get? b = some o → (s.heap.update S (Obj.mapSeq (fun _ => (#[] : Array Value)))).get? b = some o :=
    fun b o hb e => (Heap.get?_update_other _ _ (Ne.symm hb)).trans e
  refine wpAny_bind (wpAny_letGo ?_)
  refine extend_filter (hn := hn) W hT S .none _ (W.frame 0 s _ s.toks hst (Nat.le_refl _) fun b hb o e => oth b o (fun h => hSf (h ▸ hb)) e) hSf hI hS₂ fun s' acc' c' hm hS' hacc => ?_
  exact hR s' acc' c' (Moved.trans W.gtrans ((Moved.refl W.grefl).then_heap (Nat.le_refl _) fun b o hb e => oth b o (fun h => hb (h ▸ List.mem_cons_self)) e) hm) hS' hacc
end
theorem call_list_filter {prog : Program} {w : World} {A : Around} {E : Value → Shared → Prop} {s : Shared} {K : Type} [DecidableEq K] {knd : KeyKind prog w K} {SS : K → Bool} {n : Nat} {FI bm S it l : Addr} {items : Array Value} {ks : List K} {Q : Value → Shared → Prop} (hh : A.handled = none)
    (hk : KeysAre knd items.toList ks) (hst : FilSt knd SS n FI bm S it l items 0 s.heap) (hsz : items.size ≤ sizeLine)
    (hQ : ∀ h' tk acc c, h'.get? s.heap.objs.size = some { cls := .type "list", dict := none, data := .seq acc c, slots := #[] } → acc.toList = fl SS items.toList ks →
      (∀ b o, b ≠ it → s.heap.get? b = some o → h'.get? b = some o) → Q (.ref s.heap.objs.size) { s with heap := h', toks := tk }) :
    wpAny (model prog w) A (call (.type "list") [.ref FI]) Q E s := by
  have hlen : (fl SS items.toList ks).length ≤ sizeLine := by
    have : ∀ (vs : List Value) (ks : List K), (fl SS vs ks).length ≤ vs.length := by
      intro vs
      induction vs with
      | nil => intro ks; cases ks <;> exact Nat.le_refl _
      | cons v vs ih =>
        intro ks
        cases ks with
        | nil => exact Nat.zero_le _
        | cons k ks =>
          show (if SS k = true then v :: fl SS vs ks else fl SS vs ks).length ≤ _
          have := ih ks
          split <;> simp <;> omega
    have := this items.toList ks
    simp at this
    omega
  have W := (walks_filter (prog := prog) (w := w) (A := A.in1.in1) (knd := knd) (SS := SS) (n := n) (FI := FI) (bm := bm) (S := S) (it := it) (l := l) (items := items) (ks := ks) hh).toS
  have hfp : ∀ b ∈ [FI, bm, S, it, l], b < s.heap.objs.size := by
    intro b hb
    obtain ⟨es, ep, tb, ho⟩ := SetOf_obj hst.st
    obtain ⟨o1, q1, _⟩ := hst.itr
    obtain ⟨o2, q2, _⟩ := hst.lst
    simp only [List.mem_cons, List.not_mem_nil, or_false] at hb
    rcases hb with rfl | rfl | rfl | rfl | rfl
    · exact Heap.lt_size hst.fi
    · exact Heap.lt_size hst.bo
    · exact Heap.lt_size ho
    · exact Heap.lt_size q1
    · exact Heap.lt_size q2
  have hSf : s.heap.objs.size ∉ [FI, bm, S, it, l] := fun hm => Nat.lt_irrefl _ (hfp _ hm)
  refine callType_codes (Q₁ := fun obj s₁ => obj = .ref s.heap.objs.size ∧ s₁ = { s with heap := s.heap.push { cls := .type "list", data := .seq #[] } }) PySem.F.called_list (PySem.F.typeCall_list_1 _) PySem.F.entry_list_init
    (code_list_new _ ⟨rfl, rfl⟩) fun obj s₁ h₁ => ?_
  obtain ⟨rfl, rfl⟩ := h₁
  have hS : (s.heap.push { cls := .type "list", data := .seq #[] }).get? s.heap.objs.size = some { cls := .type "list", data := .seq #[] } := Heap.get?_push_size _ rfl
  refine ⟨⟨_, hS, rfl⟩, PySem.F.args_list_init_2 _ _, init_filter (hn := hlen) W (fun i s st => ?_) _ (W.frame 0 s _ s.toks ⟨0, items.toList, ks, rfl, hk, hst, rfl⟩ (Nat.le_refl _) fun b _ o e => Heap.get?_push_of_some _ e) hSf (by simp) hS fun s' acc' c' hm hS' hacc => ?_⟩
  · obtain ⟨_, _, _, _, _, h3, _⟩ := st
    exact ⟨_, h3.fi, rfl⟩
  · rw [Moved.eq_with hm]
    refine ⟨rfl, hQ s'.heap s'.toks acc' c' hS' ?_ fun b o hb e => hm.heap b o (fun q => ?_) (Heap.get?_push_of_some _ e)⟩
    · obtain ⟨h1, h2⟩ := hacc
      refine List.ext_getElem? fun j => ?_
      rw [Array.getElem?_toList]
      by_cases hj : j < acc'.size
      · have e : acc'[j]? = some acc'[j] := by simp [hj]
        rw [e, h2 j _ e]
      · rw [Array.getElem?_eq_none (by omega), List.getElem?_eq_none (by omega)]
    · rcases List.mem_cons.mp q with q | q
      · rw [q] at e; exact Nat.lt_irrefl _ (Heap.lt_size e)
      · exact hb (List.mem_singleton.mp q)
end Mine
namespace Mine
theorem calm14 : True := by
  w_top off
  first
    | (walk1; trivial)
    | trivial
end Mine
namespace Mine
section
variable {prog : Program} {w : World} {A : Around} {E : Value → Shared → Prop} {s : Shared} {h₀ : Heap} {L : Addr} {m : Str → Option Value} {news : List (Addr × Obj)} {Q : Value → Shared → Prop}
theorem fresh_of (F : Fr h₀ L s.heap m) {a : Addr} (ha : s.heap.objs.size ≤ a) : a ≠ L ∧ h₀.get? a = none := by
  refine ⟨fun e => ?_, ?_⟩
  · obtain ⟨o, _, _, e1, _⟩ := F.ns
    have := Heap.lt_size e1
    rw [e] at ha
    exact Nat.lt_irrefl _ (Nat.lt_of_lt_of_le this ha)
  · cases q : h₀.get? a with
    | none => rfl
    | some o => exact absurd (Heap.lt_size (F.keep _ _ q)) (Nat.not_lt.mpr ha)
theorem set_N {K : Type} [DecidableEq K] (knd : KeyKind prog w K) {T It : String} (ST : SeqT prog w T It) {l : Addr} {items : Array Value} {nl : Nat} {d : Option Addr} {sl : Array (Option Value)} {ks : List K} (F : Fr h₀ L s.heap m) (N : News h₀ L s.heap news) (hh : A.handled = none)
    (hl : s.heap.get? l = some ⟨.type T, d, .seq items nl, sl⟩) (hi : KeysAre knd items.toList ks) (hb : ks.length + 1 < scanBound)
    (h : ∀ S o h' tk, Fr h₀ L h' m → News h₀ L h' ((S, o) :: news) → o.SetObjOf knd (fun k' => (dd ks).any (· == k')) (dd ks).length → (∀ p ∈ news, p.1 < S) → Q (.ref S) { s with heap := h', toks := tk }) :
    wpAny (model prog w) A (call (.type "set") [.ref l]) Q E s := by
  refine call_set_seq knd ST hh hl hi hb fun h' tk hS hk => ?_
  obtain ⟨o, ho, hso⟩ := hS.objOf
  have kk : ∀ b o, s.heap.get? b = some o → h'.get? b = some o := fun b o e => hk b o (Heap.lt_size e) e
  obtain ⟨f1, f2⟩ := fresh_of F (Nat.le_refl s.heap.objs.size)
  refine h _ o h' tk (F.keeps kk) (fun p hp => ?_) hso fun p hp => Heap.lt_size (N p hp).1
  rcases List.mem_cons.mp hp with rfl | hp
  · exact ⟨ho, f1, f2⟩
  · exact N.grown kk p hp
theorem contains_N {K : Type} [DecidableEq K] {knd : KeyKind prog w K} {S : Addr} {o : Obj} {SS : K → Bool} {n : Nat} {e : Bool} (F : Fr h₀ L s.heap m) (N : News h₀ L s.heap news) (hm : (S, o) ∈ news) (hso : o.SetObjOf knd SS n) (hb : n < scanBound)
    (h : ∀ bm h', Fr h₀ L h' m → News h₀ L h' ((bm, boundObj S) :: news) → (∀ p ∈ news, p.1 < bm) → Q (.ref bm) { s with heap := h', toks := s.toks + 1 }) :
    wpAny (model prog w) A (getAttr (.ref S) (Str.ofString "__contains__") e) Q E s := by
  obtain ⟨es, ep, tb, ho⟩ := SetOf_obj (hso.setOf (N _ hm).1 hb)
  exact getAttr_contains ho (h _ _ (F.push _) (N.push F _) fun p hp => Heap.lt_size (N p hp).1)
abbrev litObj (l : Addr) : Obj := { cls := .type "list_iterator", data := .fields #[.ref l, .int 0 0] }
theorem filter_N {bm l : Addr} {items : Array Value} (F : Fr h₀ L s.heap m) (N : News h₀ L s.heap news) (hl : s.heap.IsList l items)
    (h : ∀ it FI oit h', Fr h₀ L h' m → News h₀ L h' ((FI, filterObj bm it) :: (it, oit) :: news) → h'.IsListIter it l 0 → (∀ p ∈ news, p.1 < it) → @LT.lt Nat _ it FI → Q (.ref FI) { s with heap := h' }) :
    wpAny (model prog w) A (call (.type "filter") [.ref bm, .ref l]) Q E s := by
  refine call_filter hl fun h' e1 e2 e3 kk => ?_
  obtain ⟨oit, q1, q2⟩ := id e2
  obtain ⟨f1, f2⟩ := fresh_of F (Nat.le_refl s.heap.objs.size)
  obtain ⟨g1, g2⟩ := fresh_of F (Nat.le_succ s.heap.objs.size)
  refine h s.heap.objs.size (s.heap.objs.size + 1) oit h' (F.keeps kk) (fun p hp => ?_) e2 (fun p hp => Heap.lt_size (N p hp).1) (Nat.lt_succ_self _)
  rcases List.mem_cons.mp hp with rfl | hp
  · exact ⟨e1, g1, g2⟩
  rcases List.mem_cons.mp hp with rfl | hp
  · exact ⟨q1, f1, f2⟩
  · exact N.grown kk p hp
theorem listf_N {K : Type} [DecidableEq K] {knd : KeyKind prog w K} {SS : K → Bool} {n : Nat} {FI bm S it l : Addr} {oit o : Obj} {items : Array Value} {ks : List K} (F : Fr h₀ L s.heap m) (N : News h₀ L s.heap ((FI, filterObj bm it) :: (it, oit) :: (bm, boundObj S) :: (S, o) :: news)) (hh : A.handled = none)
    (hit : s.heap.IsListIter it l 0) (hl : h₀.IsList l items) (hk : KeysAre knd items.toList ks) (hso : o.SetObjOf knd SS n) (hb : n < scanBound) (hsz : items.size ≤ 100)
    (lt1 : ∀ p ∈ (bm, boundObj S) :: (S, o) :: news, p.1 < it) (lt2 : @LT.lt Nat _ it FI)
    (h : ∀ D acc c h' tk, Fr h₀ L h' m → News h₀ L h' ((D, listOf acc c) :: news) → acc.toList = fl SS items.toList ks → (∀ p ∈ news, p.1 < D) → Q (.ref D) { s with heap := h', toks := tk }) :
    wpAny (model prog w) A (call (.type "list") [.ref FI]) Q E s := by
  obtain ⟨ol, hol, hlr⟩ := hl
  have hneL : l ≠ it := fun e => by
    have := (N (it, oit) (by simp)).2.2
    rw [← e, hol] at this
    cases this
  have hst : FilSt knd SS n FI bm S it l items 0 s.heap := ⟨(N (FI, filterObj bm it) (by simp)).1, (N (bm, boundObj S) (by simp)).1, hso.setOf (N (S, o) (by simp)).1 hb, hit, ⟨ol, F.keep _ _ hol, hlr⟩,
    Nat.ne_of_gt lt2, Nat.ne_of_lt (lt1 (bm, boundObj S) (by simp)), Nat.ne_of_lt (lt1 (S, o) (by simp)), hneL⟩
  refine call_list_filter hh hk hst (Nat.le_trans hsz (by decide)) fun h' tk acc c e1 e2 kk => ?_
  obtain ⟨f1, f2⟩ := fresh_of F (Nat.le_refl s.heap.objs.size)
  have hLit : L ≠ it := fun e => (N (it, oit) (by simp)).2.1 e.symm
  have hit0 : h₀.get? it = none := (N (it, oit) (by simp)).2.2
  refine h s.heap.objs.size acc c h' tk ⟨F.ns.at' fun o e => kk L o hLit e, fun b o e => kk b o (fun q => by rw [q, hit0] at e; cases e) (F.keep b o e), F.above⟩ (fun p hp => ?_) e2 (fun p hp => Heap.lt_size (N p (by simp [hp])).1)
  rcases List.mem_cons.mp hp with rfl | hp
  · exact ⟨e1, f1, f2⟩
  · have P := N p (by simp [hp])
    exact ⟨kk p.1 _ (Nat.ne_of_lt (lt1 p (by simp [hp]))) P.1, P.2⟩
end
end Mine
namespace Mine
theorem calm15 : True := by
  w_top off
  first
    | (walk1; trivial)
    | trivial
end Mine
namespace Mine
theorem inst_up {h₀ h : Heap} {x C : Addr} {ox : Obj} {od : Option Obj} (I : InstAt h₀ x ox C od) (hk : ∀ b o, h₀.get? b = some o → h.get? b = some o) : InstAt h x ox C od := by
  refine ⟨hk _ _ I.at_, I.cls, I.no, ?_⟩
  have := I.dict
  revert this
  cases ox.dict <;> cases od <;> simp <;> exact hk _ _
structure EntAt (P : Params) (h : Heap) (x u l : Addr) (us rs : List Str) : Prop where
  out : ∃ dx k vs ws n1 n2 n3, (∀ p ∈ EntNews P x dx u l k vs ws n1 n2 n3, h.get? p.1 = some p.2) ∧ StrsAre vs us ∧ StrsAre ws rs
local macro_rules | `(tactic| k_inst) => `(tactic| exact inst_up (by assumption) (Fr.keep (by with_reducible assumption)))
local macro_rules | `(tactic| walk_at "call ref") => `(tactic| (k_here; (with_reducible show wpAny _ _ (call (Value.ref 76) _) _ _ _); k_dflt (refine' newEntry ?k1 ?k2 ?k3 ?k4 ?k5 ?_; (case k1 => k_asm); (case k2 => k_asm); (case k3 => k_asm); (case k4 => k_asm); (case k5 => (dsimp only [Around.deeper]; omega)); k_whole); intro x9 dx9 u9 l9 k19 k29 k39 k49 h9 tk9 F9 N9 lt9 lu9; (k_lt lt9); (try dsimp only); (try k_fold)))
theorem dd_lt {us : List Str} (h : us.length ≤ 100) : (dd us).length < scanBound := Nat.lt_of_le_of_lt (dd_len_le _) (Nat.lt_of_le_of_lt h (by decide))
theorem any_contains (y : Str) : ∀ l : List Str, l.any (· == y) = l.contains y
  | [] => rfl
  | a :: r => by
    rw [List.any_cons, List.contains_cons, any_contains y r]
    congr 1
    by_cases e : a = y
    · subst e; rfl
    · rw [beq_false_of_ne e, beq_false_of_ne (fun q => e q.symm)]
theorem setL_N {prog : Program} {w : World} {A : Around} {E : Value → Shared → Prop} {s : Shared} {h₀ : Heap} {L : Addr} {m : Str → Option Value} {news : List (Addr × Obj)} {Q : Value → Shared → Prop} {l : Addr} {vs : List Value} {us : List Str} {n : Nat} (F : Fr h₀ L s.heap m) (N : News h₀ L s.heap news) (hh : A.handled = none)
    (hl : h₀.get? l = some (listOf vs.toArray n)) (hi : StrsAre vs us) (hb : us.length ≤ 100)
    (h : ∀ S o h' tk, Fr h₀ L h' m → News h₀ L h' ((S, o) :: news) → o.SetObjOf (strKind prog w) (fun k' => (dd us).any (· == k')) (dd us).length → (∀ p ∈ news, p.1 < S) → Q (.ref S) { s with heap := h', toks := tk }) :
    wpAny (model prog w) A (call (.type "set") [.ref l]) Q E s :=
  set_N (strKind prog w) seqT_list (items := vs.toArray) F N hh (F.keep _ _ hl) (by simpa using KeysAre.strs hi) (Nat.lt_of_le_of_lt (Nat.succ_le_succ hb) (by decide)) h
local macro_rules | `(tactic| walk_at "call type:set") => `(tactic| (k_here; k_dflt (refine' setL_N ?k1 ?k2 ?k3 ?k4 ?k5 ?k6 ?_; (case k1 => k_asm); (case k2 => k_asm); (case k3 => exact rfl); (case k4 => assumption); (case k5 => assumption); (case k6 => assumption); k_whole); intro S9 o9 h9 tk9 F9 N9 hs9 lt9; (k_lt lt9); (try dsimp only); (try k_fold)))
theorem containsS_N {prog : Program} {w : World} {A : Around} {E : Value → Shared → Prop} {s : Shared} {h₀ : Heap} {L : Addr} {m : Str → Option Value} {news : List (Addr × Obj)} {Q : Value → Shared → Prop} {S : Addr} {o : Obj} {us : List Str} {e : Bool} (F : Fr h₀ L s.heap m) (N : News h₀ L s.heap news) (hm : (S, o) ∈ news)
    (hso : o.SetObjOf (strKind prog w) (fun k' => (dd us).any (· == k')) (dd us).length) (hb : us.length ≤ 100)
    (h : ∀ bm h', Fr h₀ L h' m → News h₀ L h' ((bm, boundObj S) :: news) → (∀ p ∈ news, p.1 < bm) → Q (.ref bm) { s with heap := h', toks := s.toks + 1 }) :
    wpAny (model prog w) A (getAttr (.ref S) (Str.ofString "__contains__") e) Q E s := contains_N F N hm hso (dd_lt hb) h
local macro_rules | `(tactic| walk_at "getAttr ref") => `(tactic| (k_here; (with_reducible show wpAny _ _ (getAttr _ (PySem.Str.ofString "__contains__") _) _ _ _); k_dflt (refine' containsS_N ?k1 ?k2 ?k3 ?k4 ?k5 ?_; (case k1 => k_asm); (case k2 => k_asm); (case k3 => k_mem); (case k4 => assumption); (case k5 => assumption); k_whole); intro bm9 h9 F9 N9 lt9; (k_lt lt9); (try dsimp only); (try k_fold)))
theorem filterL_N {prog : Program} {w : World} {A : Around} {E : Value → Shared → Prop} {s : Shared} {h₀ : Heap} {L : Addr} {m : Str → Option Value} {news : List (Addr × Obj)} {Q : Value → Shared → Prop} {bm l : Addr} {vs : List Value} {n : Nat} (F : Fr h₀ L s.heap m) (N : News h₀ L s.heap news)
    (hl : h₀.get? l = some (listOf vs.toArray n))
    (h : ∀ it FI oit h', Fr h₀ L h' m → News h₀ L h' ((FI, filterObj bm it) :: (it, oit) :: news) → h'.IsListIter it l 0 → (∀ p ∈ news, p.1 < it) → @LT.lt Nat _ it FI → Q (.ref FI) { s with heap := h' }) :
    wpAny (model prog w) A (call (.type "filter") [.ref bm, .ref l]) Q E s := filter_N F N ⟨_, F.keep _ _ hl, rfl, _, rfl⟩ h
local macro_rules | `(tactic| walk_at "call type:filter") => `(tactic| (k_here; k_dflt (refine' filterL_N ?k1 ?k2 ?k3 ?_; (case k1 => k_asm); (case k2 => k_asm); (case k3 => assumption); k_whole); intro it9 FI9 oit9 h9 F9 N9 hit9 lt9 lf9; (try dsimp only); (try k_fold)))
theorem listfL_N {prog : Program} {w : World} {A : Around} {E : Value → Shared → Prop} {s : Shared} {h₀ : Heap} {L : Addr} {m : Str → Option Value} {news : List (Addr × Obj)} {Q : Value → Shared → Prop} {FI bm S it l : Addr} {oit o : Obj} {vs : List Value} {us us2 : List Str} {n : Nat}
    (F : Fr h₀ L s.heap m) (N : News h₀ L s.heap ((FI, filterObj bm it) :: (it, oit) :: (bm, boundObj S) :: (S, o) :: news)) (hh : A.handled = none)
    (hit : s.heap.IsListIter it l 0) (hl : h₀.get? l = some (listOf vs.toArray n)) (hk : StrsAre vs us) (hso : o.SetObjOf (strKind prog w) (fun k' => (dd us2).any (· == k')) (dd us2).length) (hb : us2.length ≤ 100) (hsz : us.length ≤ 100)
    (lt1 : ∀ p ∈ (bm, boundObj S) :: (S, o) :: news, p.1 < it) (lt2 : @LT.lt Nat _ it FI)
    (h : ∀ D acc c h' tk, Fr h₀ L h' m → News h₀ L h' ((D, listOf acc c) :: news) → StrsAre acc.toList (us.filter (us2.contains ·)) → (∀ p ∈ news, p.1 < D) → Q (.ref D) { s with heap := h', toks := tk }) :
    wpAny (model prog w) A (call (.type "list") [.ref FI]) Q E s := by
  have hlen : vs.length = us.length := (KeysAre.strs (prog := prog) (w := w) hk).len
  refine listf_N (knd := strKind prog w) (items := vs.toArray) (ks := us) F N hh hit ⟨_, hl, rfl, _, rfl⟩ (by simpa using KeysAre.strs hk) hso (dd_lt hb) (by simp; omega) lt1 lt2 fun D acc c h' tk F' N' e lt => h D acc c h' tk F' N' ?_ lt
  rw [e]
  clear e N' F' lt h N hit hl hlen
  show StrsAre (fl _ vs us) _
  induction hk with
  | nil => exact .nil
  | @cons y t vs ys hr ih =>
    have hs : (fun k' => (dd us2).any (· == k')) y = us2.contains y := by
      show (dd us2).any (· == y) = _
      rw [dd_any, any_contains]
    cases hy : us2.contains y with
    | true =>
      rw [fl_t (SS := fun k' => (dd us2).any (· == k')) (hs.trans hy), List.filter_cons_of_pos hy]
      exact .cons _ _ (ih (by simp at hsz; omega))
    | false =>
      rw [fl_f (SS := fun k' => (dd us2).any (· == k')) (hs.trans hy), List.filter_cons_of_neg (by rw [hy]; exact Bool.false_ne_true)]
      exact ih (by simp at hsz; omega)
local macro_rules | `(tactic| walk_at "call type:list") => `(tactic| (k_here; k_dflt (refine' listfL_N ?k1 ?k2 ?k3 ?k4 ?k5 ?k6 ?k7 ?k8 ?k9 ?k10 ?k11 ?_; (case k1 => k_asm); (case k2 => k_asm); (case k3 => exact rfl); (case k4 => assumption); (case k5 => assumption); (case k6 => assumption); (case k7 => assumption); (case k8 => assumption); (case k9 => assumption); (case k10 => assumption); (case k11 => assumption); k_whole); intro D9 acc9 c9 h9 tk9 F9 N9 hs9 lt9; (k_lt lt9); (try dsimp only); (try k_fold)))
theorem strs_app : ∀ {vs ws : List Value} {us rs : List Str}, StrsAre vs us → StrsAre ws rs → StrsAre (vs ++ ws) (us ++ rs)
  | _, _, _, _, .nil, h => h
  | _, _, _, _, .cons y t h1, h => .cons y t (strs_app h1 h)
theorem strs_len : ∀ {vs : List Value} {us : List Str}, StrsAre vs us → vs.length = us.length
  | _, _, .nil => rfl
  | _, _, .cons _ _ h => congrArg (· + 1) (strs_len h)
theorem addL_N {prog : Program} {w : World} {A : Around} {E : Value → Shared → Prop} {s : Shared} {h₀ : Heap} {L : Addr} {m : Str → Option Value} {news : List (Addr × Obj)} {Q : Value → Shared → Prop} {l b : Addr} {vs ws : List Value} {us rs : List Str} {n k : Nat} (F : Fr h₀ L s.heap m) (N : News h₀ L s.heap news)
    (hl : h₀.get? l = some (listOf vs.toArray n)) (hi : StrsAre vs us) (hb : h₀.get? b = some (listOf ws.toArray k)) (hj : StrsAre ws rs) (hz : us.length + rs.length ≤ 1000)
    (h : ∀ D h', Fr h₀ L h' m → News h₀ L h' ((D, listOf (vs ++ ws).toArray 0) :: news) → StrsAre (vs ++ ws) (us ++ rs) → (∀ p ∈ news, p.1 < D) → Q (.ref D) { s with heap := h' }) :
    wpAny (model prog w) A (binaryOp .Add (.ref l) (.ref b)) Q E s :=
  add_lists (hsz := by rw [strs_len hi, strs_len hj]; exact Nat.le_trans hz (by decide)) F N ⟨_, F.keep _ _ hl, rfl, _, rfl⟩ ⟨_, F.keep _ _ hb, rfl, _, rfl⟩ fun h' F' N' => h _ h' F' N' (strs_app hi hj) fun p hp => Heap.lt_size (N p hp).1
local macro_rules | `(tactic| walk_at "binaryOp Add ref ref") => `(tactic| (k_here; k_dflt (refine' addL_N ?k1 ?k2 ?k3 ?k4 ?k5 ?k6 ?k7 ?_; (case k1 => k_asm); (case k2 => k_asm); (case k3 => assumption); (case k4 => assumption); (case k5 => assumption); (case k6 => assumption); (case k7 => assumption); k_whole); intro D9 h9 F9 N9 hs9 lt9; (k_lt lt9); (try dsimp only); (try k_fold)))
theorem merge {w : World} {A : Around} {s : Shared} {mean : ExcName → Option Value} {mg mb : Str → Option Value} {p : Program} {loose : List Str} {Q E : Value → Shared → Prop} {x1 x2 d1 d2 u1 u2 l1 l2 : Addr} {a1 a2 a3 a4 b1 b2 b3 b4 : Tok} {vs1 ws1 vs2 ws2 : List Value} {n1 n2 n3 m1 m2 m3 : Nat} {us1 rs1 us2 rs2 : List Str}
    (X : (hd.heap_39 w.params).In s.heap) (T : Top p loose mean mg mb s.heap) (hroom : A.depth + 9 < recursionLimit) (hh : A.handled = none)
    (I1 : InstAt s.heap x1 (instObj 76 d1) 76 (some (dictOf (entD w.params (.ref u1) (.ref l1) .none .none a1 a2 a3 a4) n1))) (U1 : s.heap.get? u1 = some (listOf vs1.toArray n2)) (L1 : s.heap.get? l1 = some (listOf ws1.toArray n3)) (S1 : StrsAre vs1 us1) (R1 : StrsAre ws1 rs1)
    (I2 : InstAt s.heap x2 (instObj 76 d2) 76 (some (dictOf (entD w.params (.ref u2) (.ref l2) .none .none b1 b2 b3 b4) m1))) (U2 : s.heap.get? u2 = some (listOf vs2.toArray m2)) (L2 : s.heap.get? l2 = some (listOf ws2.toArray m3)) (S2 : StrsAre vs2 us2) (R2 : StrsAre ws2 rs2)
    (b1l : us1.length ≤ 100) (b2l : us2.length ≤ 100) (b3l : rs1.length + rs2.length ≤ 1000) (h : RecPost w.params s (us1.filter (us2.contains ·)) (rs1 ++ rs2) Q) : wpAny (model PR w) A (call (.ref 87) [.ref x1, .ref x2]) Q E s := by
  obtain ⟨ahd, adp, afr, agd, aun⟩ := A
  dsimp only at hh hroom
  subst hh
  have GG : PySem.Challenge.rw_re0078_01 = PySem.Challenge.rw_re0078_01 ∧ hd.heap_39 = hd.heap_39 := ⟨rfl, rfl⟩
  revert GG
  k_fill
  intro _
  k_dflt (refine' call0 [(Str.ofString "e1", .ref x1), (Str.ofString "e2", .ref x2)] X T ?k6 ?k7 ?k8 ?k9 ?kB ?_ ?c2 ?c3 ?c4 ?c5; (case k6 => k_is); (case k7 => k_is); (case k8 => (dsimp only; omega)); (case k9 => exact BindsTo.of_eq rfl); (case c5 => decide); (case kB => exact locs rfl); (case c2 => exact rfl); (case c3 => exact rfl); (case c4 => exact rfl); k_whole; intro L' h' F' N'; (try dsimp only); (try k_fold))
  k_steps
  all_goals first
    | exact rec_end h (by with_reducible assumption) (by with_reducible assumption) (by k_mem) (by k_mem) (by k_mem) (by k_mem) (by assumption) (by simpa using (by assumption : StrsAre (ws1 ++ ws2) (rs1 ++ rs2)))
end Mine
namespace Mine
theorem calm16 : True := by
  w_top off
  first
    | (walk1; trivial)
    | trivial
end Mine
namespace Mine
def TurnEnd (h₀ : Heap) (L : Addr) (all : List (Addr × Obj)) (Jn : (Str → Option Value) → Prop) (s₁ : Shared) (fl : Flow) (s₂ : Shared) : Prop :=
  fl = .next ∧ ∃ h' tk m₂, s₂ = { s₁ with heap := h', toks := tk } ∧ Fr h₀ L h' m₂ ∧ News h₀ L h' all ∧ Jn m₂
theorem forR {prog : Program} {w : World} {A : Around} {s : Shared} {env : Env} {h₀ : Heap} {Q : Flow → Shared → Prop} {E : Value → Shared → Prop} {x : Str} {px pos : Pos} {iter : PySem.Expr} {body : List Stmt} {m : Str → Option Value} {news : List (Addr × Obj)} (n : Nat)
    (F₀ : Fr h₀ env.locals s.heap m) (N₀ : News h₀ env.locals s.heap news) (hE : E = fun _ _ => False) (hh : A.handled = none) (hx : env.kindOf x = some .local) (hp : (env.scope.kind == .class || (env.scope.kind == .module && env.locals != env.globals)) = false) (hn : n ≤ 1000)
    (J : Nat → (Str → Option Value) → Prop) (h0 : J 0 m)
    (hs : ∀ x, foldedSetIterable iter env x = pure x)
    (hiter : wpAny (model prog w) A (eval iter env) (fun xv s₁ => Stop (∃ r h1 tk t u v, xv = .ref r ∧ s₁ = { s with heap := h1, toks := tk } ∧ IsRange h1 r 0 n 1 t u v ∧ Fr h₀ env.locals h1 m ∧ News h₀ env.locals h1 news)) E s)
    (step : ∀ i t m₁ s₁ own, (∃ h tk, s₁ = { s with heap := h, toks := tk }) → i < n → J i m₁ → Fr h₀ env.locals s₁.heap (fun y => if y = x then some (.int (i : Nat) t) else m₁ y) → News h₀ env.locals s₁.heap (own ++ news) →
      wpAny (model prog w) A (execs body env) (fun fl s₂ => Stop (TurnEnd h₀ env.locals (own ++ news) (J (i + 1)) s₁ fl s₂)) E s₁)
    (hQ : ∀ h' tk m', Fr h₀ env.locals h' m' → News h₀ env.locals h' news → J n m' → Q .next { s with heap := h', toks := tk }) :
    wpAny (model prog w) A (exec (.For (.Name x px) iter body [] pos) env) Q E s := by
  subst hE
  refine For_invV h₀ hx hp (wpAny_mono hiter (fun xv s₁ q => ?_) fun _ _ e => e) hs
  obtain ⟨r, h1, tk, t, u, v, rfl, rfl, hr, F, N⟩ := q.out
  have hsm : Builtin.Range.small 0 (n : Int) 1 = true := small_one (by decide) (by decide) (by omega) (by omega)
  have hsz : Builtin.Range.rangeSize 0 (n : Int) 1 = (n : Int) := by
    unfold Builtin.Range.rangeSize
    rw [if_pos (by decide)]
    split <;> omega
  refine wpAny_pyIter_range hr hsm ?_
  have up : ∀ b o, h1.get? b = some o → b ≠ h1.objs.size := fun b o e => Nat.ne_of_lt (Heap.lt_size e)
  have hI0 : h₀.get? h1.objs.size = none := by
    cases q : h₀.get? h1.objs.size with
    | none => rfl
    | some o => exact absurd (Heap.lt_size (F.keep _ _ q)) (Nat.lt_irrefl _)
  have hLne : env.locals ≠ h1.objs.size := by obtain ⟨_, _, _, e, _⟩ := F.ns; exact up _ _ e
  have hnw : ∀ p ∈ news, p.1 ∉ [h1.objs.size] := fun p hp q => up _ _ (N p hp).1 (List.mem_singleton.mp q)
  refine ⟨h1.objs.size, [h1.objs.size], [h1.objs.size], n, _, _, m, news, fun i m' nw => nw = news ∧ J i m', rfl, Walks.range hh _ 0 1 n, fun q => hLne (List.mem_singleton.mp q), fun b hb => by rw [List.mem_singleton.mp hb]; exact hI0, hnw, ?_, F.push _, fun p hp => ⟨Heap.get?_push_of_some _ (N p hp).1, (N p hp).2⟩, ⟨rfl, h0⟩, ?_, ?_⟩
  · show IsRangeIter _ _ _ _ _
    rw [hsz]
    simpa using Heap.get?_push_size _ rfl
  · intro i v m₁ news₁ s₁ own hs₁ hi hP hJ hnw₁ _ _ _ _ F₁ N₁
    obtain ⟨tv, rfl⟩ := hP
    obtain ⟨rfl, hJ⟩ := hJ
    have e : (0 + (i : Int) * 1) = (i : Int) := by omega
    rw [e] at F₁
    obtain ⟨hq, tq, rfl⟩ := hs₁
    refine wpAny_mono (step i tv m₁ _ own ⟨_, _, rfl⟩ hi hJ F₁ N₁) (fun fl s₂ q => ?_) fun _ _ e => e
    obtain ⟨rfl, h', tk, m₂, rfl, F₂, N₂, hJ₂⟩ := q.out
    exact ⟨rfl, h', tk, m₂, news₁, rfl, F₂, N₂, hnw₁, rfl, hJ₂⟩
  · intro h' tk m' news' F' N' _ hJ
    obtain ⟨rfl, hJ⟩ := hJ
    exact hQ h' tk m' F' N' hJ
end Mine
namespace Mine
theorem calm17 : True := by
  w_top off
  first
    | (walk1; trivial)
    | trivial
end Mine
namespace Mine
section
variable {prog : Program} {w : World} {A : Around} {E : Value → Shared → Prop} {s : Shared} {h₀ : Heap} {L : Addr} {m : Str → Option Value} {news : List (Addr × Obj)} {Q : Value → Shared → Prop}
theorem item_N {value slice : PySem.Expr} {l : Addr} {items : Array Value} {n i : Nat} {u : Tok} {val : Nat → Value} (F : Fr h₀ L s.heap m) (hl : h₀.get? l = some (listOf items n)) (hx : ∀ k, k < 6 → items[k]? = some (val k)) (hi : i < 6) (h : Q (val i) s)
    (hs : subscripted slice false (.ref l) (.int (i : Int) u) = operate [.ref l, .int (i : Int) u] (getItem (.ref l) (.int (i : Int) u))) :
    wpAny (model prog w) A (subscriptTail value slice (.ref l) (.int (i : Int) u)) Q E s := by
  have hL : s.heap.IsList l items := ⟨_, F.keep _ _ hl, rfl, _, rfl⟩
  exact tail_any hL.typeIs slot_list_getitem.lookup (wpAny_getItem_list hL (by omega) (by omega) (by rw [Int.toNat_natCast]; exact hx i hi) h) hs
theorem addT_N {t b : Addr} {vs ws : List Value} (F : Fr h₀ L s.heap m) (N : News h₀ L s.heap news) (ht : IsTup s.heap t vs.toArray) (hb : IsTup s.heap b ws.toArray) (hz : vs.length + ws.length ≤ 100) (hn : vs ≠ []) (hn2 : ws ≠ [])
    (h : ∀ D h', Fr h₀ L h' m → News h₀ L h' news → IsTup h' D (vs ++ ws).toArray → Q (.ref D) { s with heap := h' }) : wpAny (model prog w) A (binaryOp .Add (.ref t) (.ref b)) Q E s :=
  add_tuples (hsz := Nat.le_trans hz (by decide)) F N ht hb (fun e => absurd e hn) (fun _ e => absurd e hn2) fun _ _ h' F' N' => h _ h' F' (fun p hp => N' p (List.mem_cons_of_mem _ hp)) ⟨_, (N' _ List.mem_cons_self).1, rfl, _, rfl⟩
theorem setT_N {t : Addr} {vs : List Value} {ns : List Int} (F : Fr h₀ L s.heap m) (N : News h₀ L s.heap news) (hh : A.handled = none) (ht : IsTup s.heap t vs.toArray) (hi : IntsAre vs ns) (hb : ns.length ≤ 100)
    (h : ∀ S o h' tk, Fr h₀ L h' m → News h₀ L h' ((S, o) :: news) → o.SetObjOf (intKind prog w) (fun k' => (dd ns).any (· == k')) (dd ns).length → Q (.ref S) { s with heap := h', toks := tk }) :
    wpAny (model prog w) A (call (.type "set") [.ref t]) Q E s := by
  obtain ⟨⟨c, d, dt, sl⟩, ho, hc, n, hd⟩ := ht
  replace hc : c = .type "tuple" := hc
  replace hd : dt = .seq vs.toArray n := hd
  subst hc hd
  exact set_N (intKind prog w) seqT_tuple (items := vs.toArray) F N hh ho (by simpa using KeysAre.ints hi) (Nat.lt_of_le_of_lt (Nat.succ_le_succ hb) (by decide)) fun S o h' tk F' N' hs _ => h S o h' tk F' N' hs
theorem lenS_N {S : Addr} {o : Obj} {ns : List Int} (F : Fr h₀ L s.heap m) (N : News h₀ L s.heap ((S, o) :: news)) (hso : o.SetObjOf (intKind prog w) (fun k' => (dd ns).any (· == k')) (dd ns).length) (hb : ns.length ≤ 100)
    (h : Q (.int ((dd ns).length : Nat) (s.toks + 1)) { s with toks := s.toks + 1 + 1 }) :
    wpAny (model prog w) A (call (.builtin "len") [.ref S]) Q E s :=
  len_sl1 (own := []) N hso (by have := dd_len_le ns; omega) h
end
def gc (sp : Nat → Nat → Nat → Bool) (W : Nat → Int) (g : Int) (a b : Nat) : Nat → Int
  | 0 => g
  | c + 1 => if sp a b c then max (gc sp W g a b c) (W a + W b + W c) else gc sp W g a b c
def gb (sp : Nat → Nat → Nat → Bool) (W : Nat → Int) (g : Int) (a : Nat) : Nat → Int
  | 0 => g
  | b + 1 => gc sp W (gb sp W g a b) a b b
def ga (sp : Nat → Nat → Nat → Bool) (W : Nat → Int) : Nat → Int
  | 0 => 0
  | a + 1 => gb sp W (ga sp W a) a a
def six (pi pj : Nat → Int) (a b c : Nat) : List Int := [pi a, pj a, pi b, pj b, pi c, pj c]
def span (pi pj : Nat → Int) (a b c : Nat) : Bool := decide (((dd (six pi pj a b c)).length : Int) = 4)

theorem lenB_N {prog : Program} {w : World} {A : Around} {E : Value → Shared → Prop} {s : Shared} {h₀ : Heap} {L : Addr} {m : Str → Option Value} {Q : Value → Shared → Prop} {l : Addr} {items : Array Value} {n k : Nat} (F : Fr h₀ L s.heap m) (hl : h₀.get? l = some (listOf items n)) (hs : items.size = k) (hk : k ≤ 1000)
    (h : Q (.int (k : Nat) (s.toks + 1)) { s with toks := s.toks + 1 + 1 }) : wpAny (model prog w) A (call (.builtin "len") [.ref l]) Q E s := by
  subst hs
  exact len_list ⟨_, F.keep _ _ hl, rfl, _, rfl⟩ (by omega) h
local macro_rules | `(tactic| walk_at "call builtin:len") => `(tactic| (k_here; k_dflt (refine' lenB_N ?k1 ?k2 ?k3 ?k4 ?_; (case k1 => k_asm); (case k2 => assumption); (case k3 => assumption); (case k4 => decide); k_whole)))
local macro_rules | `(tactic| walk_at "call builtin:len") => `(tactic| (k_here; k_dflt (refine' lenS_N ?k1 ?k2 ?k3 ?k4 ?_; (case k1 => k_asm); (case k2 => k_asm); (case k3 => assumption); (case k4 => exact Nat.le_of_ble_eq_true rfl); k_whole)))
theorem gc_t {pi pj W : Nat → Int} {g : Int} {a b c : Nat} (h : (((dd [pi a, pj a, pi b, pj b, pi c, pj c]).length : Nat) : Int) = 4) :
    gc (span pi pj) W g a b (c + 1) = if W a + W b + W c > gc (span pi pj) W g a b c then W a + W b + W c else gc (span pi pj) W g a b c := by
  have hs : span pi pj a b c = true := decide_eq_true h
  show (if span pi pj a b c = true then _ else _) = _
  rw [if_pos hs]
  split <;> omega
theorem gc_f {pi pj W : Nat → Int} {g : Int} {a b c : Nat} (h : (((dd [pi a, pj a, pi b, pj b, pi c, pj c]).length : Nat) : Int) ≠ 4) :
    gc (span pi pj) W g a b (c + 1) = gc (span pi pj) W g a b c := by
  have hs : span pi pj a b c = false := decide_eq_false h
  show (if span pi pj a b c = true then _ else _) = _
  rw [if_neg (by rw [hs]; exact Bool.false_ne_true)]
local macro_rules | `(tactic| ktr_rel) => `(tactic| first | exact rfl | assumption | (refine Eq.trans (if_neg (by decide)) ?_; ktr_rel))
local macro_rules | `(tactic| walk_at "exec For Name Call cons nil") => `(tactic| refine Stop.out ?_)
local macro_rules | `(tactic| walk_at "eval Name") => `(tactic| (k_here; k_dflt (refine' ld ?k1 ?k2 ?_; (case k1 => k_asm); (case k2 => ktr_rel); k_whole)))
theorem tup_up {h₀ h : Heap} {a : Addr} {its : Array Value} (x : IsTup h₀ a its) (hk : ∀ b o, h₀.get? b = some o → h.get? b = some o) : IsTup h a its := let ⟨o, e, r⟩ := x; ⟨o, hk _ _ e, r⟩
theorem ints6 {a b c d e f : Int} {x y z u v w : Tok} : IntsAre (([.int a x, .int b y] ++ [.int c z, .int d u]) ++ [.int e v, .int f w]) [a, b, c, d, e, f] := by repeat constructor
local macro_rules | `(tactic| walk_at "subscriptTail Name Name ref int") => `(tactic| (k_here; k_dflt (refine' item_N ?k1 ?k2 ?k3 ?k4 ?_ ?k6; (case k6 => with_unfolding_all rfl); (case k1 => k_asm); (case k2 => assumption); (case k3 => assumption); (case k4 => assumption); k_whole); (try dsimp only); (try k_fold)))
local macro_rules | `(tactic| walk_at "binaryOp Add ref ref") => `(tactic| (k_here; k_dflt (refine' addT_N ?k1 ?k2 ?k3 ?k4 ?k5 ?k6 ?k7 ?_; (case k1 => k_asm); (case k2 => k_asm); (case k3 => first | assumption | exact tup_up (by assumption) (Fr.keep (by with_reducible assumption))); (case k4 => first | assumption | exact tup_up (by assumption) (Fr.keep (by with_reducible assumption))); (case k5 => exact Nat.le_of_ble_eq_true rfl); (case k6 => exact List.cons_ne_nil _ _); (case k7 => exact List.cons_ne_nil _ _); k_whole); intro D9 h9 F9 N9 ht9; (try dsimp only); (try k_fold)))
local macro_rules | `(tactic| walk_at "call type:set") => `(tactic| (k_here; k_dflt (refine' setT_N ?k1 ?k2 ?k3 ?k4 ?k5 ?k6 ?_; (case k1 => k_asm); (case k2 => k_asm); (case k3 => exact rfl); (case k4 => assumption); (case k5 => exact ints6); (case k6 => exact Nat.le_of_ble_eq_true rfl); k_whole); intro S9 o9 h9 tk9 F9 N9 hs9; (try dsimp only); (try k_fold)))
theorem heaviest {w : World} {A : Around} {s : Shared} {mean : ExcName → Option Value} {mg mb : Str → Option Value} {p : Program} {loose : List Str} {Q E : Value → Shared → Prop} {pl wl : Addr} {pit wit : Array Value} {np nw : Nat} {tp : Nat → Addr} {pi pj W : Nat → Int} {t1 t2 tw : Nat → Tok} {nt : Nat → Nat}
    (X : (hd.heap_39 w.params).In s.heap) (T : Top p loose mean mg mb s.heap) (hroom : A.depth + 9 < recursionLimit) (hh : A.handled = none)
    (HP : s.heap.get? pl = some (listOf pit np)) (HPs : pit.size = 6) (HPx : ∀ k, k < 6 → pit[k]? = some (.ref (tp k)))
    (HT : ∀ k, k < 6 → s.heap.get? (tp k) = some { cls := .type "tuple", data := .seq #[.int (pi k) (t1 k), .int (pj k) (t2 k)] (nt k) })
    (HW : s.heap.get? wl = some (listOf wit nw)) (HWx : ∀ k, k < 6 → wit[k]? = some (.int (W k) (tw k))) (HWb : ∀ k, k < 6 → 0 ≤ W k ∧ W k ≤ 100)
    (h : ∀ s' t, Keeps s s' → Q (.int (ga (span pi pj) W 6) t) s') : wpAny (model PR w) A (call (.ref 132) [.ref pl, .ref wl]) Q E s := by
  obtain ⟨ahd, adp, afr, agd, aun⟩ := A
  dsimp only at hh hroom
  subst hh
  have GG : PySem.Challenge.rw_re0078_01 = PySem.Challenge.rw_re0078_01 ∧ hd.heap_39 = hd.heap_39 := ⟨rfl, rfl⟩
  revert GG
  k_fill
  intro _
  k_dflt (refine' call0 [(Str.ofString "pairs", .ref pl), (Str.ofString "weights", .ref wl)] X T ?k6 ?k7 ?k8 ?k9 ?kB ?_ ?c2 ?c3 ?c4 ?c5; (case k6 => k_is); (case k7 => k_is); (case k8 => (dsimp only; omega)); (case k9 => exact BindsTo.of_eq rfl); (case c5 => decide); (case kB => exact locs rfl); (case c2 => exact rfl); (case c3 => exact rfl); (case c4 => exact rfl); k_whole; intro L' h' F' N'; (try dsimp only); (try k_fold))
  k_steps
  refine ⟨?_⟩
  refine forR 6 (by assumption) (by assumption) rfl rfl rfl rfl (by decide) (fun i m => m (Str.ofString "pairs") = some (.ref pl) ∧ m (Str.ofString "weights") = some (.ref wl) ∧ ∃ t, m (Str.ofString "greatest") = some (.int (ga (span pi pj) W i) t)) ⟨by ktr_rel, by ktr_rel, _, by ktr_rel⟩ (by intro _; rfl) ?_ ?_ ?_
  · k_steps
    all_goals exact ⟨⟨_, _, _, _, _, _, rfl, rfl, by assumption, by assumption, by assumption⟩⟩
  · intro a ta m₁ s₁ own hs₁ hi hJ F1 N1
    obtain ⟨hq, tq, rfl⟩ := hs₁
    obtain ⟨j1, j2, tg, j3⟩ := hJ
    dsimp only at F1 N1 ⊢
    k_steps
    refine ⟨?_⟩
    refine forR a (by assumption) (by assumption) rfl rfl rfl rfl (by omega) (fun i m => m (Str.ofString "pairs") = some (.ref pl) ∧ m (Str.ofString "weights") = some (.ref wl) ∧ (∃ t, m (Str.ofString "a") = some (.int (a : Nat) t)) ∧ ∃ t, m (Str.ofString "greatest") = some (.int (gb (span pi pj) W (ga (span pi pj) W a) a i) t))
      ⟨by ktr_rel, by ktr_rel, ⟨_, by ktr_rel⟩, _, by ktr_rel⟩ (by intro _; rfl) ?_ ?_ ?_
    · k_steps
      all_goals exact ⟨⟨_, _, _, _, _, _, rfl, rfl, by assumption, by assumption, by assumption⟩⟩
    · intro b tb m₂ s₂ own2 hs₂ hi2 hJ F2 N2
      obtain ⟨hq2, tq2, rfl⟩ := hs₂
      obtain ⟨i1, i2, ⟨ta2, i3⟩, tg2, i4⟩ := hJ
      clear F1 N1 j1 j2 j3
      dsimp only at F2 N2 ⊢
      k_steps
      refine ⟨?_⟩
      refine forR b (by assumption) (by assumption) rfl rfl rfl rfl (by omega) (fun i m => m (Str.ofString "pairs") = some (.ref pl) ∧ m (Str.ofString "weights") = some (.ref wl) ∧ (∃ t, m (Str.ofString "a") = some (.int (a : Nat) t)) ∧ (∃ t, m (Str.ofString "b") = some (.int (b : Nat) t)) ∧ ∃ t, m (Str.ofString "greatest") = some (.int (gc (span pi pj) W (gb (span pi pj) W (ga (span pi pj) W a) a b) a b i) t))
        ⟨by ktr_rel, by ktr_rel, ⟨_, by ktr_rel⟩, ⟨_, by ktr_rel⟩, _, by ktr_rel⟩ (by intro _; rfl) ?_ ?_ ?_
      · k_steps
        all_goals exact ⟨⟨_, _, _, _, _, _, rfl, rfl, by assumption, by assumption, by assumption⟩⟩
      · intro c tc m₃ s₃ own3 hs₃ hi3 hJ F3 N3
        obtain ⟨hq3, tq3, rfl⟩ := hs₃
        obtain ⟨p1, p2, ⟨ta3, p3⟩, ⟨tb3, p4⟩, tg3, p5⟩ := hJ
        clear F2 N2 i1 i2 i3 i4
        have ha6 : a < 6 := hi
        have hb6 : b < 6 := by omega
        have hc6 : c < 6 := by omega
        dsimp only at F3 N3 ⊢
        have HTa : IsTup s.heap (tp a) [.int (pi a) (t1 a), .int (pj a) (t2 a)].toArray := ⟨_, HT a ha6, rfl, _, rfl⟩
        have HTb : IsTup s.heap (tp b) [.int (pi b) (t1 b), .int (pj b) (t2 b)].toArray := ⟨_, HT b hb6, rfl, _, rfl⟩
        have HTc : IsTup s.heap (tp c) [.int (pi c) (t1 c), .int (pj c) (t2 c)].toArray := ⟨_, HT c hc6, rfl, _, rfl⟩
        k_steps
        · refine ⟨⟨rfl, _, _, _, rfl, by assumption, ?_, by ktr_rel, by ktr_rel, ⟨_, by ktr_rel⟩, ⟨_, by ktr_rel⟩, ?_⟩⟩
          · rename News _ _ _ (_ :: _) => NN
            exact fun p hp => NN p (List.mem_cons_of_mem _ hp)
          · rw [gc_t (by assumption)]
            exact ⟨_, by ktr_rel⟩
        · refine ⟨⟨rfl, _, _, _, rfl, by assumption, ?_, by ktr_rel, by ktr_rel, ⟨_, by ktr_rel⟩, ⟨_, by ktr_rel⟩, ?_⟩⟩
          · rename News _ _ _ (_ :: _) => NN
            exact fun p hp => NN p (List.mem_cons_of_mem _ hp)
          · rw [gc_f (by assumption)]
            exact ⟨_, by ktr_rel⟩
      · intro h4 tk4 m4 F4 N4 hJ
        obtain ⟨p1, p2, p3, _, p5⟩ := hJ
        dsimp only
        k_steps
        all_goals exact ⟨rfl, _, _, _, rfl, F4, N4, p1, p2, p3, p5⟩
    · intro h4 tk4 m4 F4 N4 hJ
      obtain ⟨p1, p2, _, p5⟩ := hJ
      dsimp only
      k_steps
      all_goals exact ⟨rfl, _, _, _, rfl, F4, N4, p1, p2, p5⟩
  · intro h2 tk2 m2 F2 N2 hJ
    obtain ⟨j1, j2, tg, j3⟩ := hJ
    dsimp only
    k_steps
    all_goals exact h _ _ ⟨_, _, rfl, Fr.keep (by assumption)⟩
end Mine
namespace Mine
theorem calm18 : True := by
  w_top off
  first
    | (walk1; trivial)
    | trivial
end Mine
namespace Mine
/-- the values that a comprehension's turns hand back, from turn i on, and the objects that they make (the newest ahead) -/
inductive Made (Rel : Nat → Value → List (Addr × Obj) → Prop) : Nat → List Value → List (Addr × Obj) → Prop
  | nil {i : Nat} : Made Rel i [] []
  | cons {i : Nat} {y : Value} {tl : List (Addr × Obj)} {ys : List Value} {tls : List (Addr × Obj)} : Rel i y tl → Made Rel (i + 1) ys tls → Made Rel i (y :: ys) (tls ++ tl)
def EltPost (Rel : Nat → Value → List (Addr × Obj) → Prop) (i : Nat) (s : Shared) (y : Value) (s' : Shared) : Prop :=
  ∃ tl, Keeps s s' ∧ (∀ p ∈ tl, s'.heap.get? p.1 = some p.2 ∧ s.heap.get? p.1 = none) ∧ Rel i y tl
section
variable {prog : Program} {w : World} {A : Around} {E : Value → Shared → Prop} {s : Shared} {h₀ : Heap} {L : Addr} {m : Str → Option Value} {env : Env}
theorem comp_run {elt : PySem.Expr} {x : Str} {scope : Scope} {cl : List (Str × Addr)} {S : List (Addr × Obj) → Prop} {P : Nat → Value → Prop} {Fin : List Value → List (Addr × Obj) → Prop} {news0 : List (Addr × Obj)} (Rel : Nat → Value → List (Addr × Obj) → Prop)
    (Sm : ∀ tl nw, S nw → S (tl ++ nw))
    (helt : ∀ i v C m₂ s' E', P i v → Fr h₀ L s'.heap m → News h₀ L s'.heap news0 → s'.heap.Ns C m₂ → m₂ x = some v →
      wpAny (model prog w) A (eval elt (compEnvC scope cl C env)) (fun y s'' => Stop (EltPost Rel i s' y s'')) E' s') :
    ∀ (k i : Nat) (ys : List Value) (news : List (Addr × Obj)), S news → (∀ p ∈ news0, p ∈ news) → (∀ ys' tls, ys'.length = k → Made Rel i ys' tls → Fin (ys ++ ys') (tls ++ news)) →
      LCg.CompRest prog w A h₀ L m env elt x scope cl s S P Fin k i ys news
  | 0, i, ys, news, _, _, hf => LCg.CompRest.zero (by have := hf [] [] rfl .nil; simpa using this)
  | k + 1, i, ys, news, hS, hsub, hf => LCg.CompRest.succ (by
      intro v I oI C oC D m₂ h tk E' hP hC hx F N off ne
      refine wpAny_mono (helt i v C m₂ _ E' hP F (fun p hp => N p (by simp [hsub p hp])) (hC.ns (N (C, oC) (by simp)).1) hx) (fun y s'' q => ?_) fun _ _ e => e
      obtain ⟨tl, ⟨h'', tk'', rfl, kk⟩, hfr, hr⟩ := q.out
      have Nall : News h₀ L h'' (tl ++ ((I, oI) :: (C, oC) :: (D, LCg.lst ys) :: news)) := by
        intro p hp
        rcases List.mem_append.mp hp with hp | hp
        · obtain ⟨e1, e2⟩ := hfr p hp
          refine ⟨e1, fun q => ?_, ?_⟩
          · obtain ⟨_, _, _, e3, _⟩ := F.ns
            have e2' : h.get? p.1 = none := e2
            rw [q, e3] at e2'
            cases e2'
          · cases q : h₀.get? p.1 with
            | none => rfl
            | some o => have e2' : h.get? p.1 = none := e2; rw [F.keep _ _ q] at e2'; cases e2'
        · exact N.grown kk p hp
      refine LCg.CompEnd.intro (F.keeps kk) Nall (tl ++ news) (fun p hp => ?_) (LCg.Off3.of fun p hp => ?_) (Sm tl news hS) (comp_run Rel Sm helt k (i + 1) (ys ++ [y]) (tl ++ news) (Sm tl news hS) (fun p hp => List.mem_append_right _ (hsub p hp)) fun ys' tls hl hm => ?_)
      · simp only [List.mem_cons, List.mem_append] at hp ⊢
        rcases hp with hp | hp | hp | hp | hp <;> simp [hp]
      · rcases List.mem_append.mp hp with hp | hp
        · have e2 : h.get? p.1 = none := (hfr p hp).2
          refine ⟨fun q => ?_, fun q => ?_, fun q => ?_⟩
          · have := (N (I, oI) (by simp)).1; rw [q] at e2; rw [e2] at this; cases this
          · have := (N (C, oC) (by simp)).1; rw [q] at e2; rw [e2] at this; cases this
          · have := (N (D, LCg.lst ys) (by simp)).1; rw [q] at e2; rw [e2] at this; cases this
        · exact off.mem p hp
      · have := hf (y :: ys') (tls ++ tl) (by simp [hl]) (.cons hr hm)
        simpa using this)
theorem srcAt_mono {ax : Addr} {its : Array Value} : ∀ tl nw, LCg.SrcAt h₀ ax its nw → LCg.SrcAt h₀ ax its (tl ++ nw)
  | tl, _, .inl h => .inl h
  | tl, _, .inr ⟨o, hm, r⟩ => .inr ⟨o, List.mem_append_right _ hm, r⟩
/-- the source is a list: in the base, or in the ledger -/
def SrcIs (s : Shared) (h₀ : Heap) (L : Addr) (m : Str → Option Value) (its : Array Value) (news : List (Addr × Obj)) (xv : Value) (s₁ : Shared) : Prop :=
  ∃ ax h1 tk nw, xv = .ref ax ∧ s₁ = { s with heap := h1, toks := tk } ∧ Fr h₀ L h1 m ∧ News h₀ L h1 nw ∧ LCg.SrcAt h₀ ax its nw ∧ ∀ p ∈ news, p ∈ nw
theorem comp_E {elt iter : PySem.Expr} {x : Str} {px : Pos} {scope : Scope} {cl : List (Str × Addr)} {pos : Pos} {Q : Value → Shared → Prop} {its : Array Value} {news : List (Addr × Obj)} (Rel : Nat → Value → List (Addr × Obj) → Prop) (F₀ : Fr h₀ L s.heap m) (N₀ : News h₀ L s.heap news) (hh : A.handled = none)
    (hclos : closureFor scope env = pure cl) (hcell : ∀ y ∈ scope.names, y.2 ≠ .cell) (hkind : scope.kind = .function)
    (hnames : ∀ y ∈ scope.names, y.2 = .local → scope.names.lookup y.1 = some .local) (hx : scope.names.lookup x = some .local)
    (hs : ∀ x, foldedSetIterable iter env x = pure x) (hz : its.size ≤ 1000)
    (hiter : wpAny (model prog w) A (eval iter env) (fun xv s₁ => Stop (SrcIs s h₀ L m its news xv s₁)) E s)
    (helt : ∀ i v C m₂ s' E', its[i]? = some v → Fr h₀ L s'.heap m → News h₀ L s'.heap news → s'.heap.Ns C m₂ → m₂ x = some v →
      wpAny (model prog w) A (eval elt (compEnvC scope cl C env)) (fun y s'' => Stop (EltPost Rel i s' y s'')) E' s')
    (hQ : ∀ D ys tls h' tk, ys.length = its.size → Made Rel 0 ys tls → Fr h₀ L h' m → News h₀ L h' ((D, listOf ys.toArray ys.length) :: (tls ++ news)) → (∀ p ∈ tls ++ news, p.1 ≠ D) → Q (.ref D) { s with heap := h', toks := tk }) :
    wpAny (model prog w) A (eval (.ListComp elt [⟨.Name x px, iter, [], 0⟩] scope pos) env) Q E s := by
  refine LCg.ListComp_U F₀ hclos hcell hkind hnames hx (wpAny_mono hiter (fun xv s₁ q => ?_) fun _ _ e => e) hs
  obtain ⟨ax, h1, tk, nw, rfl, rfl, F1, N1, hsrc, hsub⟩ := q.out
  refine .inl ⟨ax, its, nw, rfl, hh, F1, N1, hsrc, Nat.le_trans hz (by decide), fun s₂ hs₂ => ?_⟩
  obtain ⟨g, rfl⟩ := hs₂
  refine comp_run (news0 := news) Rel srcAt_mono helt _ _ _ _ hsrc hsub fun ys' tls hl hm => ?_
  intro D h' tk' F' N' off
  have hoff : ∀ {l : List (Addr × Obj)}, LCg.Off1 D l → ∀ p ∈ l, p.1 ≠ D := by
    intro l
    induction l with
    | nil => intro _ p hp; cases hp
    | cons a r ih =>
      intro h p hp
      rcases List.mem_cons.mp hp with rfl | hp
      · exact h.1
      · exact ih h.2 p hp
  refine hQ D ys' tls h' tk' hl hm F' (fun p hp => ?_) fun p hp => hoff off p ?_
  · rcases List.mem_cons.mp hp with rfl | hp
    · exact N' (D, LCg.lst ([] ++ ys')) List.mem_cons_self
    · refine N' p (List.mem_cons_of_mem _ ?_)
      rcases List.mem_append.mp hp with hp | hp
      · exact List.mem_append_left _ hp
      · exact List.mem_append_right _ (hsub p hp)
  · rcases List.mem_append.mp hp with hp | hp
    · exact List.mem_append_left _ hp
    · exact List.mem_append_right _ (hsub p hp)
theorem comp_A {elt iter : PySem.Expr} {x y : Str} {px py : Pos} {scope : Scope} {cl : List (Str × Addr)} {pos spos : Pos} {Q : Flow → Shared → Prop} {its : Array Value} {news : List (Addr × Obj)} (Rel : Nat → Value → List (Addr × Obj) → Prop) (F₀ : Fr h₀ L s.heap m) (N₀ : News h₀ L s.heap news) (hh : A.handled = none) (hLe : env.locals = L)
    (hsw : swapsWith (.ListComp elt [⟨.Name x px, iter, [], 0⟩] scope pos) (some (.Name y py)) spos.line env = pure true)
    (hclos : closureFor scope env = pure cl) (hcell : ∀ z ∈ scope.names, z.2 ≠ .cell) (hkind : scope.kind = .function)
    (hnames : ∀ z ∈ scope.names, z.2 = .local → scope.names.lookup z.1 = some .local) (hx : scope.names.lookup x = some .local)
    (hy : env.kindOf y = some .local) (hp : (env.scope.kind == .class || (env.scope.kind == .module && env.locals != env.globals)) = false)
    (hs : ∀ x, foldedSetIterable iter env x = pure x) (hz : its.size ≤ 1000)
    (hiter : wpAny (model prog w) A (eval iter env) (fun xv s₁ => Stop (SrcIs s h₀ L m its news xv s₁)) E s)
    (helt : ∀ i v C m₂ s' E', its[i]? = some v → Fr h₀ L s'.heap m → News h₀ L s'.heap news → s'.heap.Ns C m₂ → m₂ x = some v →
      wpAny (model prog w) A (eval elt (compEnvC scope cl C env)) (fun y s'' => Stop (EltPost Rel i s' y s'')) E' s')
    (hQ : ∀ D ys tls h' tk, ys.length = its.size → Made Rel 0 ys tls → Fr h₀ L h' (fun z => if z = y then some (.ref D) else m z) → News h₀ L h' ((D, listOf ys.toArray ys.length) :: (tls ++ news)) → (∀ p ∈ tls ++ news, p.1 ≠ D) → Q .next { s with heap := h', toks := tk }) :
    wpAny (model prog w) A (exec (.Assign [.Name y py] (.ListComp elt [⟨.Name x px, iter, [], 0⟩] scope pos) spos) env) Q E s := by
  refine LCg.Assign_ListComp_U F₀ hLe hsw hclos hcell hkind hnames hx hy hp (wpAny_mono hiter (fun xv s₁ q => ?_) fun _ _ e => e) hs
  obtain ⟨ax, h1, tk, nw, rfl, rfl, F1, N1, hsrc, hsub⟩ := q.out
  refine .inl ⟨ax, its, nw, rfl, hh, F1, N1, hsrc, Nat.le_trans hz (by decide), fun s₂ hs₂ => ?_⟩
  obtain ⟨g, rfl⟩ := hs₂
  refine comp_run (news0 := news) Rel srcAt_mono helt _ _ _ _ hsrc hsub fun ys' tls hl hm => ?_
  intro D h' tk' F' N' off
  have hoff : ∀ {l : List (Addr × Obj)}, LCg.Off1 D l → ∀ p ∈ l, p.1 ≠ D := by
    intro l
    induction l with
    | nil => intro _ p hp; cases hp
    | cons a r ih =>
      intro h p hp
      rcases List.mem_cons.mp hp with rfl | hp
      · exact h.1
      · exact ih h.2 p hp
  refine hQ D ys' tls h' tk' hl hm F' (fun p hp => ?_) fun p hp => hoff off p ?_
  · rcases List.mem_cons.mp hp with rfl | hp
    · exact N' (D, LCg.lst ([] ++ ys')) List.mem_cons_self
    · refine N' p (List.mem_cons_of_mem _ ?_)
      rcases List.mem_append.mp hp with hp | hp
      · exact List.mem_append_left _ hp
      · exact List.mem_append_right _ (hsub p hp)
  · rcases List.mem_append.mp hp with hp | hp
    · exact List.mem_append_left _ hp
    · exact List.mem_append_right _ (hsub p hp)
end
end Mine
namespace Mine
theorem calm19 : True := by
  w_top off
  first
    | (walk1; trivial)
    | trivial
end Mine
namespace Mine
def cexp (st : Bool) (elt : PySem.Expr) (gens : List Comprehension) (scope : Scope) (pos : Pos) : PySem.Expr := cond st (.SetComp elt gens scope pos) (.ListComp elt gens scope pos)
def emit (st : Bool) (elt : PySem.Expr) (acc : Value) (env : Env) : Sem Unit :=
  cond st (eval elt env >>= fun v => standAt elt.pos >>= fun _ => call (.builtin "set.add") [acc, v] >>= fun _ => pure ()) (eval elt env >>= fun v => call (.builtin "list.append") [acc, v] >>= fun _ => pure ())
theorem turn0 (st : Bool) (elt t0 i0 t1 i1 : PySem.Expr) (scope : Scope) (pos : Pos) (it acc : Value) (env : Env) :
    compTurn (cexp st elt [⟨t0, i0, [], 0⟩, ⟨t1, i1, [], 0⟩] scope pos) 0 it acc env = (standAt i0.pos >>= fun _ => pyNext it >>= fun r => match r with
      | none => pure (.done .next)
      | some v => letOwnedTupleGo t0 it v >>= fun _ => assign t0 env v >>= fun _ => eval i1 env >>= fun x => standAt i1.pos >>= fun _ => foldedSetIterable i1 env x >>= fun x =>
        holding [x] (pyIter x) >>= fun it1 => runOwn (.compStart (cexp st elt [⟨t0, i0, [], 0⟩, ⟨t1, i1, [], 0⟩] scope pos) 1 it1 acc env) env >>= fun _ =>
          again (.compLoop (cexp st elt [⟨t0, i0, [], 0⟩, ⟨t1, i1, [], 0⟩] scope pos) 0 it acc env)) := by cases st <;> rfl
theorem turn1 (st : Bool) (elt t0 i0 t1 i1 : PySem.Expr) (scope : Scope) (pos : Pos) (it acc : Value) (env : Env) :
    compTurn (cexp st elt [⟨t0, i0, [], 0⟩, ⟨t1, i1, [], 0⟩] scope pos) 1 it acc env = (standAt i1.pos >>= fun _ => pyNext it >>= fun r => match r with
      | none => pure (.done .next)
      | some v => letOwnedTupleGo t1 it v >>= fun _ => assign t1 env v >>= fun _ => emit st elt acc env >>= fun _ =>
          again (.compLoop (cexp st elt [⟨t0, i0, [], 0⟩, ⟨t1, i1, [], 0⟩] scope pos) 1 it acc env)) := by cases st <;> rfl
theorem Made.snoc {Rel : Nat → Value → List (Addr × Obj) → Prop} {z : Value} {tl : List (Addr × Obj)} : ∀ {i : Nat} {ys : List Value} {tls : List (Addr × Obj)}, Made Rel i ys tls → Rel (i + ys.length) z tl → Made Rel i (ys ++ [z]) (tl ++ tls)
  | i, _, _, .nil, h => by have := Made.cons (Rel := Rel) (i := i) h .nil; simpa using this
  | i, _, _, .cons (y := y) (ys := ys) (tls := tls) (tl := tl0) hr hm, h => by
    have := Made.cons hr (hm.snoc (by rw [List.length_cons, show i + (ys.length + 1) = i + 1 + ys.length by omega] at h; exact h))
    simpa using this
inductive MadeM (Rel : Nat → Nat → Value → List (Addr × Obj) → Prop) (cnt : Nat → Nat) : Nat → List Value → List (Addr × Obj) → Prop
  | zero : MadeM Rel cnt 0 [] []
  | succ {i : Nat} {zs zs' : List Value} {tls tls' : List (Addr × Obj)} : MadeM Rel cnt i zs tls → Made (Rel i) 0 zs' tls' → zs'.length = cnt i → MadeM Rel cnt (i + 1) (zs ++ zs') (tls' ++ tls)
section
variable {prog : Program} {w : World} {A : Around} {E : Value → Shared → Prop} {s : Shared} {R : Result → Shared → Prop}
theorem start_any {st : Bool} {elt t0 i0 t1 i1 : PySem.Expr} {scope : Scope} {pos : Pos} {it acc : Value} {env : Env} (d : Nat) (hd : d = 0 ∨ d = 1)
    (h0 : codeAny (model prog w) A (.compLoop (cexp st elt [⟨t0, i0, [], 0⟩, ⟨t1, i1, [], 0⟩] scope pos) d it acc env) R s)
    (h : wpAny (model prog w) A (pyIter it) (fun it' s' => codeAny (model prog w) A (.compLoop (cexp st elt [⟨t0, i0, [], 0⟩, ⟨t1, i1, [], 0⟩] scope pos) d it' acc env) R s')
      (notedBy (model prog w) A env fun x s' => R (.error x) s') s) :
    codeAny (model prog w) A (.compStart (cexp st elt [⟨t0, i0, [], 0⟩, ⟨t1, i1, [], 0⟩] scope pos) d it acc env) R s := by
  refine codeAny_of_tree ?_
  cases st <;> rcases hd with rfl | rfl
  all_goals
    show wpAny _ _ ((compStart _ _ it acc env).onRaise (fun x => do noteFrame x env; standAt theWindowsPlace)) _ _ s
    refine wpAny_notedAt ?_
    unfold compStart
    show wpAny _ _ (ask >>= _) _ _ s
    refine wpAny_bind (wpAny_askSetting (wpAny_ite ?_))
    split
    · first
        | exact wpAny_bind (wpAny_pure (wpAny_pure (And.intro rfl h0)))
        | exact wpAny_pure (And.intro rfl h0)
    · first
        | exact wpAny_bind (wpAny_rule (wpAny_bind (wpAny_standAt (wpAny_bind (wpAny_mono h (fun it' s' h' => wpAny_pure (And.intro rfl h')) fun _ _ x => x)))))
        | (refine wpAny_bind (wpAny_rule ?_); show wpAny _ _ (standAt _ >>= _) _ _ s; exact wpAny_bind (wpAny_standAt (wpAny_bind (wpAny_mono h (fun it' s' h' => wpAny_pure (And.intro rfl h')) fun _ _ x => x))))
theorem loop1 {st : Bool} {elt i0 i1 : PySem.Expr} {x y : Str} {px py : Pos} {scope : Scope} {pos : Pos} {it acc : Value} {env : Env} (I : Nat → Shared → Prop)
    (turn : ∀ n s, I n s → wpAny (model prog w) A (pyNext it) (fun r s₁ => match r with
      | none => R (.ok .next) s₁
      | some v => wpAny (model prog w) A (assign (.Name y py) env v) (fun _ s₂ => wpAny (model prog w) A (emit st elt acc env) (fun _ s₃ => ∃ m, m < n ∧ I m s₃) (notedBy (model prog w) A env fun e s' => R (.error e) s') s₂)
        (notedBy (model prog w) A env fun e s' => R (.error e) s') s₁) (notedBy (model prog w) A env fun e s' => R (.error e) s') s)
    (n : Nat) (h : I n s) : codeAny (model prog w) A (.compLoop (cexp st elt [⟨.Name x px, i0, [], 0⟩, ⟨.Name y py, i1, [], 0⟩] scope pos) 1 it acc env) R s := by
  refine codeAny_loop (by cases st <;> rfl) I (fun n s hI => ?_) n h
  have e : ∀ Q E, wpAny (model prog w) A ((compTurn (cexp st elt [⟨.Name x px, i0, [], 0⟩, ⟨.Name y py, i1, [], 0⟩] scope pos) 1 it acc env).onRaise (fun x => do noteFrame x env; theTreesLotGoes x)) Q E s →
      wpAny (model prog w) (A.under (.compLoop (cexp st elt [⟨.Name x px, i0, [], 0⟩, ⟨.Name y py, i1, [], 0⟩] scope pos) 1 it acc env)) ((model prog w).den (.compLoop (cexp st elt [⟨.Name x px, i0, [], 0⟩, ⟨.Name y py, i1, [], 0⟩] scope pos) 1 it acc env)) Q E s := by
    intro Q E hq
    cases st <;> exact hq
  refine e _ _ (wpAny_noted ?_)
  rw [turn1]
  refine wpAny_bind (wpAny_standAt (wpAny_bind (wpAny_mono (turn n s hI) (fun r s₁ h₁ => ?_) fun _ _ h' => h')))
  cases r with
  | none => exact wpAny_pure h₁
  | some v =>
    refine wpAny_bind (wpAny_of_eq (a := ()) rfl ?_)
    exact wpAny_bind (wpAny_mono h₁ (fun _ s₂ h₂ => wpAny_bind (wpAny_mono h₂ (fun _ s₃ h₃ => wpAny_pure ⟨rfl, h₃⟩) fun _ _ h' => h')) fun _ _ h' => h')
theorem loop0 {st : Bool} {elt i0 i1 : PySem.Expr} {x y : Str} {px py : Pos} {scope : Scope} {pos : Pos} {it acc : Value} {env : Env} (I : Nat → Shared → Prop) (hs : ∀ x, foldedSetIterable i1 env x = pure x)
    (turn : ∀ n s, I n s → wpAny (model prog w) A (pyNext it) (fun r s₁ => match r with
      | none => R (.ok .next) s₁
      | some v => wpAny (model prog w) A (assign (.Name x px) env v) (fun _ s₂ => wpAny (model prog w) A (eval i1 env) (fun xv s₃ => wpAny (model prog w) A (pyIter xv) (fun it1 s₄ =>
          codeAny (model prog w) A (.compStart (cexp st elt [⟨.Name x px, i0, [], 0⟩, ⟨.Name y py, i1, [], 0⟩] scope pos) 1 it1 acc env) (fun r s₅ => match r with | .ok _ => ∃ m, m < n ∧ I m s₅ | .error e => cameBackBy (model prog w) A env (notedBy (model prog w) A env fun e s' => R (.error e) s') e s₅) s₄)
            (notedBy (model prog w) A env fun e s' => R (.error e) s') s₃) (notedBy (model prog w) A env fun e s' => R (.error e) s') s₂)
        (notedBy (model prog w) A env fun e s' => R (.error e) s') s₁) (notedBy (model prog w) A env fun e s' => R (.error e) s') s)
    (n : Nat) (h : I n s) : codeAny (model prog w) A (.compLoop (cexp st elt [⟨.Name x px, i0, [], 0⟩, ⟨.Name y py, i1, [], 0⟩] scope pos) 0 it acc env) R s := by
  refine codeAny_loop (by cases st <;> rfl) I (fun n s hI => ?_) n h
  have e : ∀ Q E, wpAny (model prog w) A ((compTurn (cexp st elt [⟨.Name x px, i0, [], 0⟩, ⟨.Name y py, i1, [], 0⟩] scope pos) 0 it acc env).onRaise (fun x => do noteFrame x env; theTreesLotGoes x)) Q E s →
      wpAny (model prog w) (A.under (.compLoop (cexp st elt [⟨.Name x px, i0, [], 0⟩, ⟨.Name y py, i1, [], 0⟩] scope pos) 0 it acc env)) ((model prog w).den (.compLoop (cexp st elt [⟨.Name x px, i0, [], 0⟩, ⟨.Name y py, i1, [], 0⟩] scope pos) 0 it acc env)) Q E s := by
    intro Q E hq
    cases st <;> exact hq
  refine e _ _ (wpAny_noted ?_)
  rw [turn0]
  refine wpAny_bind (wpAny_standAt (wpAny_bind (wpAny_mono (turn n s hI) (fun r s₁ h₁ => ?_) fun _ _ h' => h')))
  cases r with
  | none => exact wpAny_pure h₁
  | some v =>
    refine wpAny_bind (wpAny_of_eq (a := ()) rfl ?_)
    refine wpAny_bind (wpAny_mono h₁ (fun _ s₂ h₂ => wpAny_bind (wpAny_mono h₂ (fun xv s₃ h₃ => wpAny_bind (wpAny_standAt (wpAny_bind (wpAny_of_eq (hs xv) (wpAny_bind (wpAny_holding (wpAny_mono h₃ (fun it1 s₄ h₄ => ?_) fun _ _ h' => h'))))))) fun _ _ h' => h')) fun _ _ h' => h')
    exact wpAny_bind (wpAny_runOwn (Q := fun _ s₅ => wpAny _ _ _ _ _ s₅) (codeAny_mono h₄ fun r s₅ h₅ => by
      cases r with
      | ok f => exact wpAny_pure ⟨rfl, h₅⟩
      | error e => exact h₅))
end
end Mine
namespace Mine
theorem calm20 : True := by
  w_top off
  first
    | (walk1; trivial)
    | trivial
end Mine
namespace Mine
def EmitPost (D : Addr) (AccO : List Value → Obj → Prop) (Rel : Value → List (Addr × Obj) → Prop) (zs : List Value) (s s'' : Shared) : Prop :=
  ∃ z tl o h'' tk, s'' = { s with heap := h'', toks := tk } ∧ h''.get? D = some o ∧ AccO (zs ++ [z]) o ∧ (∀ b o, b ≠ D → s.heap.get? b = some o → h''.get? b = some o) ∧ (∀ p ∈ tl, h''.get? p.1 = some p.2 ∧ s.heap.get? p.1 = none) ∧ Rel z tl
section
variable {prog : Program} {w : World} {A : Around} {E : Value → Shared → Prop} {s : Shared} {R : Result → Shared → Prop}
theorem inner_loop {st : Bool} {elt i0 i1 : PySem.Expr} {x y : Str} {px py : Pos} {scope : Scope} {pos : Pos} {cenv : Env} {I1 D : Addr} {m : Str → Option Value} {v : Value} {a : Int} {n1 : Nat} {zs : List Value} {oD : Obj} (AccO : List Value → Obj → Prop) (Rel : Nat → Value → List (Addr × Obj) → Prop)
    (hh : A.handled = none) (hy : cenv.kindOf y = some .local) (hp : (cenv.scope.kind == .class || (cenv.scope.kind == .module && cenv.locals != cenv.globals)) = false) (hxy : x ≠ y)
    (hDC : D ≠ cenv.locals) (hDI : D ≠ I1) (hIC : I1 ≠ cenv.locals) (hit : IsRangeIter s.heap I1 a n1 1) (hn : s.heap.Ns cenv.locals m) (hx : m x = some v) (hD : s.heap.get? D = some oD) (hacc : AccO zs oD)
    (helt : ∀ j t s' m₂ E' zs' o, j < n1 → s'.heap.Ns cenv.locals m₂ → m₂ x = some v → m₂ y = some (.int (a + (j : Nat)) t) → s'.heap.get? D = some o → AccO zs' o → zs'.length = zs.length + j →
      (∀ b o, b ≠ cenv.locals → b ≠ I1 → b ≠ D → s.heap.get? b = some o → s'.heap.get? b = some o) → (∃ h tk, s' = { s with heap := h, toks := tk }) →
      wpAny (model prog w) A (emit st elt (.ref D) cenv) (fun _ s'' => EmitPost D AccO (Rel j) zs' s' s'') E' s')
    (hR : ∀ h' tk m' zs' tls o, h'.Ns cenv.locals m' → h'.get? D = some o → AccO (zs ++ zs') o → zs'.length = n1 → Made Rel 0 zs' tls →
      (∀ p ∈ tls, h'.get? p.1 = some p.2 ∧ s.heap.get? p.1 = none) → (∀ b o, b ≠ cenv.locals → b ≠ I1 → b ≠ D → s.heap.get? b = some o → h'.get? b = some o) → R (.ok .next) { s with heap := h', toks := tk }) :
    codeAny (model prog w) A (.compLoop (cexp st elt [⟨.Name x px, i0, [], 0⟩, ⟨.Name y py, i1, [], 0⟩] scope pos) 1 (.ref I1) (.ref D) cenv) R s := by
  have W := Walks.range (prog := prog) (w := w) hh I1 a 1 n1
  refine loop1 (fun k s' => ∃ h' tk m' j zs' tls o, s' = { s with heap := h', toks := tk } ∧ j ≤ n1 ∧ k = n1 + 1 - j ∧ IsRangeIter h' I1 (a + (j : Nat) * 1) ((n1 : Int) - (j : Nat)) 1 ∧ h'.Ns cenv.locals m' ∧ m' x = some v ∧ h'.get? D = some o ∧ AccO (zs ++ zs') o ∧ zs'.length = j ∧ Made Rel 0 zs' tls ∧
      (∀ p ∈ tls, h'.get? p.1 = some p.2 ∧ s.heap.get? p.1 = none ∧ p.1 ≠ cenv.locals ∧ p.1 ≠ I1 ∧ p.1 ≠ D) ∧ (∀ b o, b ≠ cenv.locals → b ≠ I1 → b ≠ D → s.heap.get? b = some o → h'.get? b = some o)) ?_ (n1 + 1)
    ⟨s.heap, s.toks, m, 0, [], [], oD, rfl, Nat.zero_le _, rfl, by simpa using hit, hn, hx, hD, by simpa using hacc, rfl, .nil, by simp, fun _ _ _ _ _ e => e⟩
  rintro k s' ⟨h', tk, m', j, zs', tls, o, rfl, hj, rfl, hit', hn', hx', hD', hacc', hlen, hm, htl, hk⟩
  by_cases hlt : j < n1
  · refine W.item j _ _ _ hlt hit' fun u h₁ tk₁ hPu hit₁ hk₁ => ?_
    obtain ⟨t, rfl⟩ := hPu
    have hC₁ : cenv.locals ∉ [I1] := fun q => hIC (List.mem_singleton.mp q).symm
    refine wpAny_assign_Name (wpAny_storeName_local hy (hn'.at' fun o e => hk₁ _ o hC₁ e) (fun h₂ hn₂ hs₂ => ?_) hp)
    have up : ∀ b o, b ≠ cenv.locals → b ≠ I1 → h'.get? b = some o → h₂.get? b = some o := fun b o hb1 hb2 e => hs₂.extBut b o hb1 (hk₁ b o (fun q => hb2 (List.mem_singleton.mp q)) e)
    have hit₂ : IsRangeIter h₂ I1 (a + ((j + 1 : Nat) : Int) * 1) ((n1 : Int) - ((j + 1 : Nat) : Int)) 1 := hs₂.extBut _ _ hIC hit₁
    refine wpAny_mono (helt j t { s with heap := h₂, toks := _ } _ _ (zs ++ zs') o hlt hn₂ (by simp [hxy, hx']) (by simp) (up D o hDC hDI hD') hacc' (by simp [hlen]) (fun b o hb1 hb2 hb3 e => up b o hb1 hb2 (hk b o hb1 hb2 hb3 e)) ⟨_, _, rfl⟩) (fun _ s₃ h₃ => ?_) fun _ _ e => e
    obtain ⟨z, tl, o₃, h₃, tk₃, rfl, hD₃, hacc₃, hk₃, htl₃, hr₃⟩ := h₃
    have upC : ∀ b o, b ≠ cenv.locals → b ≠ I1 → b ≠ D → h'.get? b = some o → h₃.get? b = some o := fun b o h1 h2 h3 e => hk₃ b o h3 (up b o h1 h2 e)
    refine ⟨n1 + 1 - (j + 1), by omega, h₃, tk₃, _, j + 1, zs' ++ [z], tl ++ tls, o₃, rfl, hlt, rfl, hk₃ _ _ (Ne.symm hDI) hit₂, hn₂.at' (fun o e => hk₃ _ o (Ne.symm hDC) e), by simp [hxy, hx'], hD₃, by simpa using hacc₃, by simp [hlen], hm.snoc (by rw [Nat.zero_add, hlen]; exact hr₃), fun p hp => ?_, fun b o h1 h2 h3 e => upC b o h1 h2 h3 (hk b o h1 h2 h3 e)⟩
    rcases List.mem_append.mp hp with hp | hp
    · obtain ⟨e1, e2⟩ := htl₃ p hp
      have e2' : h₂.get? p.1 = none := e2
      have q1 : p.1 ≠ cenv.locals := fun q => by obtain ⟨_, _, _, e, _⟩ := hn₂; rw [q, e] at e2'; cases e2'
      have q2 : p.1 ≠ I1 := fun q => by rw [q, hit₂] at e2'; cases e2'
      have q3 : p.1 ≠ D := fun q => by rw [q, up D o hDC hDI hD'] at e2'; cases e2'
      refine ⟨e1, ?_, q1, q2, q3⟩
      cases q : s.heap.get? p.1 with
      | none => rfl
      | some o => rw [up _ _ q1 q2 (hk _ _ q1 q2 q3 q)] at e2'; cases e2'
    · obtain ⟨e1, e2, q1, q2, q3⟩ := htl p hp
      exact ⟨upC _ _ q1 q2 q3 e1, e2, q1, q2, q3⟩
  · obtain rfl : j = n1 := Nat.le_antisymm hj (Nat.not_lt.mp hlt)
    refine W.done _ _ _ hit' fun h₁ tk₁ hk₁ => ?_
    have up : ∀ b o, b ≠ I1 → h'.get? b = some o → h₁.get? b = some o := fun b o hb e => hk₁ b o (fun q => hb (List.mem_singleton.mp q)) e
    exact hR h₁ tk₁ m' zs' tls o (hn'.at' fun o e => up _ o (Ne.symm hIC) e) (up _ _ hDI hD') hacc' hlen hm (fun p hp => by obtain ⟨e1, e2, q1, q2, q3⟩ := htl p hp; exact ⟨up _ _ q2 e1, e2⟩) fun b o h1 h2 h3 e => up b o h2 (hk b o h1 h2 h3 e)

theorem outer_loop {st : Bool} {elt i0 i1 : PySem.Expr} {x y : Str} {px py : Pos} {scope : Scope} {pos : Pos} {cenv : Env} {I0 D : Addr} {fp : List Addr} {n0 : Nat} {P0 : Nat → Value → Prop} {St0 : Nat → Heap → Prop} {m : Str → Option Value} {oD : Obj} (AccO : List Value → Obj → Prop) (Rel : Nat → Nat → Value → List (Addr × Obj) → Prop) (cnt : Nat → Nat) (lo : Nat → Int)
    (W : Walks prog w A I0 fp [I0] n0 P0 St0) (hI0 : ∀ i h, St0 i h → ∃ o, h.get? I0 = some o)
    (hh : A.handled = none) (hxk : cenv.kindOf x = some .local) (hy : cenv.kindOf y = some .local) (hp : (cenv.scope.kind == .class || (cenv.scope.kind == .module && cenv.locals != cenv.globals)) = false) (hxy : x ≠ y)
    (hs1 : ∀ x, foldedSetIterable i1 cenv x = pure x) (hc : ∀ i, cnt i ≤ 10) (hlo : ∀ i, -1000 ≤ lo i ∧ lo i ≤ 1000)
    (hDC : D ≠ cenv.locals) (hDf : D ∉ fp) (hCf : cenv.locals ∉ fp) (hst : St0 0 s.heap) (hn : s.heap.Ns cenv.locals m) (hD : s.heap.get? D = some oD) (hacc : AccO [] oD)
    (hiter : ∀ i v s' m₂ E', P0 i v → i < n0 → s'.heap.Ns cenv.locals m₂ → m₂ x = some v → (∀ b o, b ≠ cenv.locals → b ≠ I0 → b ≠ D → s.heap.get? b = some o → s'.heap.get? b = some o) → (∃ h tk, s' = { s with heap := h, toks := tk }) →
      wpAny (model prog w) A (eval i1 cenv) (fun xv s'' => Stop (∃ r t u w', xv = .ref r ∧ Keeps s' s'' ∧ IsRange s''.heap r (lo i) (lo i + cnt i) 1 t u w')) E' s')
    (helt : ∀ i j v t s' m₂ E' zs' o, P0 i v → j < cnt i → s'.heap.Ns cenv.locals m₂ → m₂ x = some v → m₂ y = some (.int (lo i + (j : Nat)) t) → s'.heap.get? D = some o → AccO zs' o → zs'.length ≤ i * 10 + j → i < n0 →
      (∀ b o, b ≠ cenv.locals → b ≠ I0 → b ≠ D → s.heap.get? b = some o → s'.heap.get? b = some o) → (∃ h tk, s' = { s with heap := h, toks := tk }) →
      wpAny (model prog w) A (emit st elt (.ref D) cenv) (fun _ s'' => EmitPost D AccO (Rel i j) zs' s' s'') E' s')
    (hR : ∀ h' tk m' zs tls o, h'.Ns cenv.locals m' → h'.get? D = some o → AccO zs o → MadeM Rel cnt n0 zs tls →
      (∀ p ∈ tls, h'.get? p.1 = some p.2 ∧ s.heap.get? p.1 = none ∧ p.1 ≠ cenv.locals ∧ p.1 ≠ D) → (∀ b o, b ≠ cenv.locals → b ≠ I0 → b ≠ D → s.heap.get? b = some o → h'.get? b = some o) → R (.ok .next) { s with heap := h', toks := tk }) :
    codeAny (model prog w) A (.compLoop (cexp st elt [⟨.Name x px, i0, [], 0⟩, ⟨.Name y py, i1, [], 0⟩] scope pos) 0 (.ref I0) (.ref D) cenv) R s := by
  have hIf : I0 ∈ fp := W.sub I0 (List.mem_singleton.mpr rfl)
  have hIC : I0 ≠ cenv.locals := fun q => hCf (q ▸ hIf)
  have hDI : D ≠ I0 := fun q => hDf (q ▸ hIf)
  refine loop0 (fun k s' => ∃ h' tk m' i zs tls o, s' = { s with heap := h', toks := tk } ∧ i ≤ n0 ∧ k = n0 + 1 - i ∧ St0 i h' ∧ h'.Ns cenv.locals m' ∧ h'.get? D = some o ∧ AccO zs o ∧ zs.length ≤ i * 10 ∧ MadeM Rel cnt i zs tls ∧
      (∀ p ∈ tls, h'.get? p.1 = some p.2 ∧ s.heap.get? p.1 = none ∧ p.1 ≠ cenv.locals ∧ p.1 ≠ I0 ∧ p.1 ≠ D) ∧ (∀ b o, b ≠ cenv.locals → b ≠ I0 → b ≠ D → s.heap.get? b = some o → h'.get? b = some o)) hs1 ?_ (n0 + 1)
    ⟨s.heap, s.toks, m, 0, [], [], oD, rfl, Nat.zero_le _, rfl, hst, hn, hD, hacc, by simp, .zero, by simp, fun _ _ _ _ _ e => e⟩
  rintro k s' ⟨h', tk, m', i, zs, tls, o, rfl, hi, rfl, hst', hn', hD', hacc', hlen, hm, htl, hk⟩
  by_cases hlt : i < n0
  · refine W.item i _ _ _ hlt hst' fun v h₁ tk₁ hPv hst₁ hk₁ => ?_
    have hC₁ : cenv.locals ∉ [I0] := fun q => hIC (List.mem_singleton.mp q).symm
    refine wpAny_assign_Name (wpAny_storeName_local hxk (hn'.at' fun o e => hk₁ _ o hC₁ e) (fun h₂ hn₂ hs₂ => ?_) hp)
    have up : ∀ b o, b ≠ cenv.locals → b ≠ I0 → h'.get? b = some o → h₂.get? b = some o := fun b o hb1 hb2 e => hs₂.extBut b o hb1 (hk₁ b o (fun q => hb2 (List.mem_singleton.mp q)) e)
    have hst₂ : St0 (i + 1) h₂ := W.frame _ _ _ hst₁ fun b hb o e => hs₂.extBut b o (fun q => hCf (q ▸ hb)) e
    refine wpAny_mono (hiter i v { s with heap := h₂, toks := _ } _ _ hPv hlt hn₂ (by simp) (fun b o hb1 hb2 hb3 e => up b o hb1 hb2 (hk b o hb1 hb2 hb3 e)) ⟨_, _, rfl⟩) (fun xv s₃ q₃ => ?_) fun _ _ e => e
    obtain ⟨r, t, u, w', rfl, ⟨h₃, tk₃, rfl, hk₃⟩, hr⟩ := q₃.out
    have hk₃' : ∀ b o, h₂.get? b = some o → h₃.get? b = some o := hk₃
    have hl := hlo i
    have hci := hc i
    have hsm : Builtin.Range.small (lo i) (lo i + cnt i) 1 = true := small_one (by omega) (by omega) (by omega) (by omega)
    have hsz : Builtin.Range.rangeSize (lo i) (lo i + cnt i) 1 = (cnt i : Int) := by
      unfold Builtin.Range.rangeSize
      rw [if_pos (by decide)]
      split <;> omega
    refine wpAny_pyIter_range hr hsm ?_
    rw [hsz]
    have up4 : ∀ b o, h₂.get? b = some o → (h₃.push { cls := .type "range_iterator", data := .fields #[rawInt (lo i), rawInt (cnt i), rawInt 1] }).get? b = some o := fun b o e => Heap.get?_push_of_some _ (hk₃' b o e)
    have hne : ∀ b o, h₂.get? b = some o → b ≠ h₃.objs.size := fun b o e => Nat.ne_of_lt (Heap.lt_size (hk₃' b o e))
    have hD2 := up D o hDC hDI hD'
    have hC2 : ∃ o, h₂.get? cenv.locals = some o := by obtain ⟨o, _, _, e, _⟩ := hn₂; exact ⟨o, e⟩
    obtain ⟨oC, hC2⟩ := hC2
    have hiI : IsRangeIter (h₃.push { cls := .type "range_iterator", data := .fields #[rawInt (lo i), rawInt (cnt i), rawInt 1] }) h₃.objs.size (lo i) (cnt i) 1 := Heap.get?_push_size _ rfl
    have body : ∀ RR : Result → Shared → Prop, (∀ h' tk m' zs' tls' o, h'.Ns cenv.locals m' → h'.get? D = some o → AccO (zs ++ zs') o → zs'.length = cnt i → Made (Rel i) 0 zs' tls' →
        (∀ p ∈ tls', h'.get? p.1 = some p.2 ∧ h₂.get? p.1 = none) → (∀ b o, b ≠ cenv.locals → b ≠ D → h₂.get? b = some o → h'.get? b = some o) → RR (.ok .next) { s with heap := h', toks := tk }) →
        codeAny (model prog w) A (.compLoop (cexp st elt [⟨.Name x px, i0, [], 0⟩, ⟨.Name y py, i1, [], 0⟩] scope pos) 1 (.ref h₃.objs.size) (.ref D) cenv) RR { s with heap := h₃.push { cls := .type "range_iterator", data := .fields #[rawInt (lo i), rawInt (cnt i), rawInt 1] }, toks := tk₃ } := by
      intro RR hRR
      refine inner_loop (AccO := AccO) (Rel := Rel i) (v := v) (a := lo i) (n1 := cnt i) hh hy hp hxy hDC (hne _ _ hD2) (hne _ _ hC2).symm hiI (hn₂.at' fun o e => up4 _ o e) (by simp) (up4 _ _ hD2) hacc' ?_ ?_
      · intro j t s' m₂ E' zs' o' hj hn3 hx3 hy3 hD3 ha3 hl3 hk4 hs4
        obtain ⟨hq, tq, rfl⟩ := hs4
        exact helt i j v t _ m₂ E' zs' o' hPv hj hn3 hx3 hy3 hD3 ha3 (by omega) hlt (fun b o h1 h2 h3 e => hk4 b o h1 (hne _ _ (up _ _ h1 h2 (hk b o h1 h2 h3 e))) h3 (up4 _ _ (up _ _ h1 h2 (hk b o h1 h2 h3 e)))) ⟨_, _, rfl⟩
      · intro h5 tk5 m5 zs5 tls5 o5 hn5 hD5 ha5 hl5 hm5 ht5 hk5
        refine hRR h5 tk5 m5 zs5 tls5 o5 hn5 hD5 ha5 hl5 hm5 (fun p hp => ⟨(ht5 p hp).1, ?_⟩) fun b o h1 h3 e => hk5 b o h1 (hne _ _ e) h3 (up4 _ _ e)
        cases q : h₂.get? p.1 with
        | none => rfl
        | some o => have := (ht5 p hp).2; rw [up4 _ _ q] at this; cases this
    have fin : ∀ h' tk m' zs' tls' o, h'.Ns cenv.locals m' → h'.get? D = some o → AccO (zs ++ zs') o → zs'.length = cnt i → Made (Rel i) 0 zs' tls' →
        (∀ p ∈ tls', h'.get? p.1 = some p.2 ∧ h₂.get? p.1 = none) → (∀ b o, b ≠ cenv.locals → b ≠ D → h₂.get? b = some o → h'.get? b = some o) → ∃ k', k' < n0 + 1 - i ∧ (∃ h'' tk' m' i zs tls o, ({ s with heap := h', toks := tk } : Shared) = { s with heap := h'', toks := tk' } ∧ i ≤ n0 ∧ k' = n0 + 1 - i ∧ St0 i h'' ∧ h''.Ns cenv.locals m' ∧ h''.get? D = some o ∧ AccO zs o ∧ zs.length ≤ i * 10 ∧ MadeM Rel cnt i zs tls ∧
      (∀ p ∈ tls, h''.get? p.1 = some p.2 ∧ s.heap.get? p.1 = none ∧ p.1 ≠ cenv.locals ∧ p.1 ≠ I0 ∧ p.1 ≠ D) ∧ (∀ b o, b ≠ cenv.locals → b ≠ I0 → b ≠ D → s.heap.get? b = some o → h''.get? b = some o)) := by
      intro h5 tk5 m5 zs5 tls5 o5 hn5 hD5 ha5 hl5 hm5 ht5 hk5
      refine ⟨n0 + 1 - (i + 1), by omega, h5, tk5, m5, i + 1, zs ++ zs5, tls5 ++ tls, o5, rfl, hlt, rfl, W.frame _ _ _ hst₂ (fun b hb o e => hk5 b o (fun q => hCf (q ▸ hb)) (fun q => hDf (q ▸ hb)) e), hn5, hD5, ha5, by rw [List.length_append, hl5]; omega, .succ hm hm5 hl5, fun p hp => ?_, fun b o h1 h2 h3 e => hk5 b o h1 h3 (up _ _ h1 h2 (hk b o h1 h2 h3 e))⟩
      rcases List.mem_append.mp hp with hp | hp
      · obtain ⟨e1, e2⟩ := ht5 p hp
        have q1 : p.1 ≠ cenv.locals := fun q => by rw [q, hC2] at e2; cases e2
        have q2 : p.1 ≠ I0 := fun q => by obtain ⟨o, e⟩ := hI0 _ _ hst₂; rw [q, e] at e2; cases e2
        have q3 : p.1 ≠ D := fun q => by rw [q, hD2] at e2; cases e2
        refine ⟨e1, ?_, q1, q2, q3⟩
        cases q : s.heap.get? p.1 with
        | none => rfl
        | some o => rw [up _ _ q1 q2 (hk _ _ q1 q2 q3 q)] at e2; cases e2
      · obtain ⟨e1, e2, q1, q2, q3⟩ := htl p hp
        exact ⟨hk5 _ _ q1 q3 (up _ _ q1 q2 e1), e2, q1, q2, q3⟩
    exact start_any 1 (.inr rfl) (body _ fin) (wpAny_pyIter_rangeiter hiI (body _ fin))
  · obtain rfl : i = n0 := Nat.le_antisymm hi (Nat.not_lt.mp hlt)
    refine W.done _ _ _ hst' fun h₁ tk₁ hk₁ => ?_
    have up : ∀ b o, b ≠ I0 → h'.get? b = some o → h₁.get? b = some o := fun b o hb e => hk₁ b o (fun q => hb (List.mem_singleton.mp q)) e
    exact hR h₁ tk₁ m' zs tls o (hn'.at' fun o e => up _ o (Ne.symm hIC) e) (up _ _ hDI hD') hacc' hm (fun p hp => by obtain ⟨e1, e2, q1, q2, q3⟩ := htl p hp; exact ⟨up _ _ q2 e1, e2, q1, q3⟩) fun b o h1 h2 h3 e => up b o h2 (hk b o h1 h2 h3 e)
end
end Mine
namespace Mine
theorem calm21 : True := by
  w_top off
  first
    | (walk1; trivial)
    | trivial
end Mine
namespace Mine
section
variable {prog : Program} {w : World} {A : Around} {E : Value → Shared → Prop} {s : Shared} {h₀ : Heap} {L : Addr} {m : Str → Option Value} {env : Env}
/-- the outer source, as an iterator -/
def SrcN (prog : Program) (w : World) (A : Around) (s : Shared) (h₀ : Heap) (L : Addr) (m : Str → Option Value) (news : List (Addr × Obj)) (n0 : Nat) (P0 : Nat → Value → Prop) (it : Value) (s₂ : Shared) : Prop :=
  ∃ I0 fp St0 h tk, it = .ref I0 ∧ s₂ = { s with heap := h, toks := tk } ∧ Walks prog w A I0 fp [I0] n0 P0 St0 ∧ (∀ i h, St0 i h → ∃ o, h.get? I0 = some o) ∧ St0 0 h ∧ (∀ b ∈ fp, b < h.objs.size) ∧ Fr h₀ L h m ∧ News h₀ L h news ∧
    L ≠ I0 ∧ h₀.get? I0 = none ∧ ∀ p ∈ news, p.1 ≠ I0
def newAcc (st : Bool) : Sem Value := cond st (newSet (.type "set")) (newList [])
theorem nest_A {st : Bool} {elt i0 i1 : PySem.Expr} {x y nm : Str} {px py pn : Pos} {scope : Scope} {cl : List (Str × Addr)} {pos spos : Pos} {Q : Flow → Shared → Prop} {news : List (Addr × Obj)} {n0 : Nat} {P0 : Nat → Value → Prop} (AccO : List Value → Obj → Prop) (Rel : Nat → Nat → Value → List (Addr × Obj) → Prop) (cnt : Nat → Nat) (lo : Nat → Int)
    (hh : A.handled = none) (hLe : env.locals = L)
    (hsw : swapsWith (cexp st elt [⟨.Name x px, i0, [], 0⟩, ⟨.Name y py, i1, [], 0⟩] scope pos) (some (.Name nm pn)) spos.line env = pure true)
    (hclos : closureFor scope env = pure cl) (hcell : ∀ z ∈ scope.names, z.2 ≠ .cell) (hkind : scope.kind = .function)
    (hnames : ∀ z ∈ scope.names, z.2 = .local → scope.names.lookup z.1 = some .local) (hx : scope.names.lookup x = some .local) (hy : scope.names.lookup y = some .local) (hxy : x ≠ y)
    (hnm : env.kindOf nm = some .local) (hp : (env.scope.kind == .class || (env.scope.kind == .module && env.locals != env.globals)) = false)
    (hs0 : ∀ x, foldedSetIterable i0 env x = pure x) (hs1 : ∀ C x, foldedSetIterable i1 (compEnvC scope cl C env) x = pure x) (hc : ∀ i, cnt i ≤ 10) (hlo : ∀ i, -1000 ≤ lo i ∧ lo i ≤ 1000)
    (hnew : ∀ (s : Shared) (Q : Value → Shared → Prop), (∀ o, o.isFreed = false → AccO [] o → Q (.ref s.heap.objs.size) { s with heap := s.heap.push o }) → wpAny (model prog w) A (newAcc st) Q E s)
    (hsrc : wpAny (model prog w) A (eval i0 env) (fun xv s₁ => wpAny (model prog w) A (pyIter xv) (fun it s₂ => SrcN prog w A s h₀ L m news n0 P0 it s₂) E s₁) E s)
    (hiter : ∀ i v C s' m₂ E', P0 i v → i < n0 → Fr h₀ L s'.heap m → News h₀ L s'.heap news → s'.heap.Ns C m₂ → m₂ x = some v → (∃ h tk, s' = { s with heap := h, toks := tk }) →
      wpAny (model prog w) A (eval i1 (compEnvC scope cl C env)) (fun xv s'' => Stop (∃ r t u w', xv = .ref r ∧ Keeps s' s'' ∧ IsRange s''.heap r (lo i) (lo i + cnt i) 1 t u w')) E' s')
    (helt : ∀ i j v t C D s' m₂ E' zs' o, P0 i v → j < cnt i → Fr h₀ L s'.heap m → News h₀ L s'.heap news → (∀ p ∈ news, p.1 ≠ D) → s'.heap.Ns C m₂ → m₂ x = some v → m₂ y = some (.int (lo i + (j : Nat)) t) → s'.heap.get? D = some o → AccO zs' o → zs'.length ≤ i * 10 + j → i < n0 → (∃ h tk, s' = { s with heap := h, toks := tk }) →
      wpAny (model prog w) A (emit st elt (.ref D) (compEnvC scope cl C env)) (fun _ s'' => EmitPost D AccO (Rel i j) zs' s' s'') E' s')
    (hQ : ∀ D o zs tls h' tk, AccO zs o → MadeM Rel cnt n0 zs tls → Fr h₀ L h' (fun z => if z = nm then some (.ref D) else m z) → News h₀ L h' ((D, o) :: (tls ++ news)) → (∀ p ∈ tls ++ news, p.1 ≠ D) → Q .next { s with heap := h', toks := tk }) :
    wpAny (model prog w) A (exec (.Assign [.Name nm pn] (cexp st elt [⟨.Name x px, i0, [], 0⟩, ⟨.Name y py, i1, [], 0⟩] scope pos) spos) env) Q E s := by
  rw [exec_Assign_Name_used _ _ _ _ hsw]
  refine wpAny_bind (wpAny_standAt (wpAny_bind ?_))
  have key : wpAny (model prog w) A (comprehension (cexp st elt [⟨.Name x px, i0, [], 0⟩, ⟨.Name y py, i1, [], 0⟩] scope pos) scope env (firstIterPos [⟨.Name x px, i0, [], 0⟩, ⟨.Name y py, i1, [], 0⟩] pos) (newAcc st) false (eval i0 env) (some (assign (.Name nm pn) env)))
      (fun _ s' => Q .next s') E s := by
    refine wpAny_comprehension_free (use := some (assign (.Name nm pn) env)) (g := ⟨.Name x px, i0, [], 0⟩) (gs := [⟨.Name y py, i1, [], 0⟩]) (by cases st <;> rfl) hs0 hclos hkind hnames
      (wpAny_mono hsrc (fun xv s₁ h₁ => wpAny_mono h₁ (fun it s₂ h₂ => ?_) fun _ _ e => e) fun _ _ e => e)
    obtain ⟨I0, fp, St0, h, tk, rfl, rfl, W, hI0, hst, hfp, F, N, hLI, hI0n, hNI⟩ := h₂
    refine hnew _ _ fun o hfree ha => ?_
    refine wpAny_newFunctionEnv hcell (by intro y hy; simp at hy) (fun h₁ hns₁ hsb₁ => ?_) hkind
    dsimp only at hns₁ hsb₁ ⊢
    generalize hH2 : h.push o = H2 at hns₁ hsb₁ ⊢
    have hC : H2.objs.size = h.objs.size + 1 := by rw [← hH2, Heap.size_push]
    have hDC : h.objs.size ≠ H2.objs.size := by rw [hC]; exact Nat.ne_of_lt (Nat.lt_succ_self _)
    have below : ∀ b, b < h.objs.size → b ≠ H2.objs.size ∧ b ≠ h.objs.size := fun b hb => ⟨by rw [hC]; exact Nat.ne_of_lt (Nat.lt_succ_of_lt hb), Nat.ne_of_lt hb⟩
    have hDf : h.objs.size ∉ fp := fun hm => Nat.lt_irrefl _ (hfp _ hm)
    have hCf : H2.objs.size ∉ fp := fun hm => by have := hfp _ hm; rw [hC] at this; exact Nat.lt_irrefl _ (Nat.lt_of_succ_lt this)
    have old : ∀ b o, h.get? b = some o → h₁.get? b = some o := fun b o e => hsb₁.extBut b o (below b (Heap.lt_size e)).1 (Heap.get?_push_of_some _ (hH2 ▸ Heap.get?_push_of_some _ e))
    have hacc : h₁.get? h.objs.size = some o := hsb₁.extBut _ _ hDC (Heap.get?_push_of_some _ (hH2 ▸ Heap.get?_push_size _ hfree))
    have fresh₀ : ∀ a, h.objs.size ≤ a → h₀.get? a = none := fun a ha => by
      cases e : h₀.get? a with
      | none => rfl
      | some o' => exact absurd (Heap.lt_size (F.keep a o' e)) (Nat.not_lt.mpr ha)
    have hLlt : L < h.objs.size := F.ns.lt
    have hLC : L ≠ H2.objs.size := (below L hLlt).1
    have hLD : L ≠ h.objs.size := (below L hLlt).2
    have hC0 : h₀.get? H2.objs.size = none := fresh₀ _ (by rw [hC]; exact Nat.le_succ _)
    have hD0 : h₀.get? h.objs.size = none := fresh₀ _ (Nat.le_refl _)
    have hNlt : ∀ p ∈ news, p.1 < h.objs.size := fun p hp => Heap.lt_size (N p hp).1
    have F1 : Fr h₀ L h₁ m := F.keeps old
    have N1 : News h₀ L h₁ news := N.grown old
    have FN : ∀ h2 : Heap, (∀ b o, b ≠ H2.objs.size → b ≠ I0 → b ≠ h.objs.size → h₁.get? b = some o → h2.get? b = some o) → Fr h₀ L h2 m ∧ News h₀ L h2 news := fun h2 hk2 =>
      ⟨⟨F1.ns.at' fun o e => hk2 L o hLC hLI hLD e, fun b o e => hk2 b o (fun q => by rw [q, hC0] at e; cases e) (fun q => by rw [q, hI0n] at e; cases e) (fun q => by rw [q, hD0] at e; cases e) (F1.keep b o e), F1.above⟩,
        fun p hp => ⟨hk2 _ _ (below _ (hNlt p hp)).1 (hNI p hp) (below _ (hNlt p hp)).2 (N1 p hp).1, (N1 p hp).2⟩⟩
    have hst₁ : St0 0 h₁ := W.frame _ _ _ hst fun b _ o e => old b o e
    have loop : codeAny (model prog w) A (.compLoop (cexp st elt [⟨.Name x px, i0, [], 0⟩, ⟨.Name y py, i1, [], 0⟩] scope pos) 0 (.ref I0) (.ref h.objs.size) (compEnvC scope cl H2.objs.size env))
        (compPost (model prog w) A E (some (assign (.Name nm pn) env)) (fun _ s' => Q .next s') (.ref h.objs.size) H2.objs.size) { s with heap := h₁, toks := tk + ([] : List (Str × Value)).length } := by
      refine outer_loop (cenv := compEnvC scope cl H2.objs.size env) (AccO := AccO) (Rel := Rel) (cnt := cnt) (lo := lo) W hI0 hh (lookup_relabel_local hx) (lookup_relabel_local hy) (by simp [compEnvC, relabel, hkind]) hxy (hs1 _) hc hlo hDC hDf hCf hst₁ hns₁ hacc ha ?_ ?_ ?_
      · intro i v s' m₂ E' hP hi0 hn' hx' hk' hs'
        obtain ⟨hq, tq, rfl⟩ := hs'
        obtain ⟨F', N'⟩ := FN _ hk'
        exact hiter i v _ _ m₂ E' hP hi0 F' N' hn' hx' ⟨_, _, rfl⟩
      · intro i j v t s' m₂ E' zs' o' hP hj hn' hx' hy' hD' ha' hl' hi' hk' hs'
        obtain ⟨hq, tq, rfl⟩ := hs'
        obtain ⟨F', N'⟩ := FN _ hk'
        exact helt i j v t _ _ _ m₂ E' zs' o' hP hj F' N' (fun p hp => (below _ (hNlt p hp)).2) hn' hx' hy' hD' ha' hl' hi' ⟨_, _, rfl⟩
      · intro h' tk' m' zs tls o' hn' hD' ha' hm' ht' hk'
        obtain ⟨F', N'⟩ := FN _ hk'
        show wpAny _ A (assign (.Name nm pn) env (.ref h.objs.size)) _ _ _
        refine wpAny_assign_Name (wpAny_storeName_local hnm (hLe ▸ F'.ns) (fun h₂ hn₂ hs₂ => ?_) hp)
        rw [hLe] at hn₂ hs₂
        refine ⟨m', hn'.sameBut hs₂ (Ne.symm hLC), fun h₃ hs₃ => ?_⟩
        have hL0 : h₀.get? L = none := Heap.get?_none_of_le F'.above
        have F2 : Fr h₀ L h₂ (fun z => if z = nm then some (.ref h.objs.size) else m z) := F'.set hn₂ hs₂
        have htL : ∀ p ∈ tls, p.1 ≠ L ∧ h₀.get? p.1 = none := fun p hp => by
          have e2 : h₁.get? p.1 = none := (ht' p hp).2.1
          refine ⟨fun q => ?_, ?_⟩
          · obtain ⟨_, _, _, e, _⟩ := F1.ns; rw [q, e] at e2; cases e2
          · cases q : h₀.get? p.1 with
            | none => rfl
            | some o => rw [F1.keep _ _ q] at e2; cases e2
        refine hQ h.objs.size o' zs tls h₃ _ ha' hm' (F2.change hs₃ (Ne.symm hLC) hC0) (fun p hp => ?_) fun p hp => ?_
        · rcases List.mem_cons.mp hp with rfl | hp
          · exact ⟨hs₃.extBut _ _ hDC (hs₂.extBut _ _ (Ne.symm hLD) hD'), Ne.symm hLD, hD0⟩
          · rcases List.mem_append.mp hp with hp | hp
            · exact ⟨hs₃.extBut _ _ (ht' p hp).2.2.1 (hs₂.extBut _ _ (htL p hp).1 (ht' p hp).1), htL p hp⟩
            · exact ⟨hs₃.extBut _ _ (below _ (hNlt p hp)).1 (hs₂.extBut _ _ (N' p hp).2.1 (N' p hp).1), (N' p hp).2⟩
        · rcases List.mem_append.mp hp with hp | hp
          · exact (ht' p hp).2.2.2
          · exact (below _ (hNlt p hp)).2
    exact start_any 0 (.inl rfl) loop (W.self 0 _ _ _ hst₁ loop)
  have fin : wpAny (model prog w) A (comprehension (cexp st elt [⟨.Name x px, i0, [], 0⟩, ⟨.Name y py, i1, [], 0⟩] scope pos) scope env (firstIterPos [⟨.Name x px, i0, [], 0⟩, ⟨.Name y py, i1, [], 0⟩] pos) (newAcc st) false (eval i0 env) (some (assign (.Name nm pn) env)) >>= fun _ => pure ())
      (fun _ s' => wpAny (model prog w) A (pure Flow.next) Q E s') E s := wpAny_bind (wpAny_mono key (fun _ s' hq => wpAny_pure (wpAny_pure hq)) fun _ _ e => e)
  cases st <;> exact fin
theorem src_range {r : Addr} {n0 : Nat} {a : Int} {t u v : Tok} {news : List (Addr × Obj)} (hh : A.handled = none) (hr : IsRange s.heap r a (a + n0) 1 t u v) (ha : -1000 ≤ a ∧ a ≤ 1000) (hn : n0 ≤ 1000) (F : Fr h₀ L s.heap m) (N : News h₀ L s.heap news) :
    wpAny (model prog w) A (pyIter (.ref r)) (fun it s₂ => SrcN prog w A s h₀ L m news n0 (fun i v => ∃ t, v = .int (a + (i : Nat)) t) it s₂) E s := by
  have hsm : Builtin.Range.small a (a + n0) 1 = true := small_one (by omega) (by omega) (by omega) (by omega)
  have hsz : Builtin.Range.rangeSize a (a + n0) 1 = (n0 : Int) := by
    unfold Builtin.Range.rangeSize
    rw [if_pos (by decide)]
    split <;> omega
  refine wpAny_pyIter_range hr hsm ?_
  have W := Walks.range (prog := prog) (w := w) hh s.heap.objs.size a 1 n0
  simp only [Int.mul_one] at W
  refine ⟨_, _, _, _, _, rfl, rfl, W, fun i h st => ⟨_, st⟩, ?_, ?_, F.push _, N.grown fun b o e => Heap.get?_push_of_some _ e, Nat.ne_of_lt F.ns.lt, next_is_new F, fun p hp => Nat.ne_of_lt (Heap.lt_size (N p hp).1)⟩
  · show IsRangeIter _ _ _ _ _
    rw [hsz]
    simpa using Heap.get?_push_size _ rfl
  · intro b hb
    rw [List.mem_singleton.mp hb, Heap.size_push]
    exact Nat.lt_succ_self _
theorem src_list {ax : Addr} {its : Array Value} {news : List (Addr × Obj)} (hh : A.handled = none) (hl : s.heap.IsList ax its) (F : Fr h₀ L s.heap m) (N : News h₀ L s.heap news) :
    wpAny (model prog w) A (pyIter (.ref ax)) (fun it s₂ => SrcN prog w A s h₀ L m news its.size (fun i v => its[i]? = some v) it s₂) E s := by
  have hlt : ax < s.heap.objs.size := by obtain ⟨o, e, _⟩ := hl; exact Heap.lt_size e
  refine wpAny_pyIter_list hl ?_
  refine ⟨_, _, _, _, _, rfl, rfl, Walks.list hh s.heap.objs.size ax (Nat.ne_of_lt hlt) its, fun i h st => by obtain ⟨o, e, _⟩ := st.1; exact ⟨o, e⟩, ⟨⟨_, Heap.get?_push_size _ rfl, rfl, rfl⟩, hl.push _⟩, ?_, F.push _, N.grown fun b o e => Heap.get?_push_of_some _ e, Nat.ne_of_lt F.ns.lt, next_is_new F, fun p hp => Nat.ne_of_lt (Heap.lt_size (N p hp).1)⟩
  intro b hb
  rw [Heap.size_push]
  rcases List.mem_cons.mp hb with rfl | hb
  · exact Nat.lt_succ_self _
  · rw [List.mem_singleton.mp hb]; exact Nat.lt_succ_of_lt hlt
end
end Mine
namespace Mine
theorem calm22 : True := by
  w_top off
  first
    | (walk1; trivial)
    | trivial
end Mine
namespace Mine
def ListO (zs : List Value) (o : Obj) : Prop := o = LCg.lst zs
def SetO (prog : Program) (w : World) (zs : List Value) (o : Obj) : Prop := ∃ ks : List Str, KeysAre (strKind prog w) zs ks ∧ o.SetObjOf (strKind prog w) (fun k' => (dd ks).any (· == k')) (dd ks).length
section
variable {prog : Program} {w : World} {A : Around} {E : Value → Shared → Prop} {s : Shared} {h₀ : Heap} {L : Addr} {m : Str → Option Value} {env : Env}
theorem new_list (s : Shared) (Q : Value → Shared → Prop) (h : ∀ o, o.isFreed = false → ListO [] o → Q (.ref s.heap.objs.size) { s with heap := s.heap.push o }) : wpAny (model prog w) A (newAcc false) Q E s := by
  show wpAny _ _ (newList []) _ _ _
  exact wpAny_newObj_type (h (LCg.lst []) rfl rfl)
theorem new_set (s : Shared) (Q : Value → Shared → Prop) (h : ∀ o, o.isFreed = false → SetO prog w [] o → Q (.ref s.heap.objs.size) { s with heap := s.heap.push o }) : wpAny (model prog w) A (newAcc true) Q E s := by
  show wpAny _ _ (newSet (.type "set")) _ _ _
  refine wpAny_newSet_of (knd := strKind prog w) fun led hS => ?_
  refine h _ rfl ⟨[], .nil, ?_⟩
  have := PyProof.Rows.setObjOf_fresh (knd := strKind prog w) led
  exact this
theorem emit_list {elt : PySem.Expr} {cenv : Env} {D : Addr} {o : Obj} {zs : List Value} {Rel : Value → List (Addr × Obj) → Prop} (hD : s.heap.get? D = some o) (ho : ListO zs o) (hz : zs.length ≤ 1000)
    (h : wpAny (model prog w) A (eval elt cenv) (fun z s' => Stop (∃ tl, Keeps s s' ∧ (∀ p ∈ tl, s'.heap.get? p.1 = some p.2 ∧ s.heap.get? p.1 = none) ∧ Rel z tl)) E s) :
    wpAny (model prog w) A (emit false elt (.ref D) cenv) (fun _ s'' => EmitPost D ListO Rel zs s s'') E s := by
  subst ho
  show wpAny _ _ (eval elt cenv >>= fun v => call (.builtin "list.append") [.ref D, v] >>= fun _ => pure ()) _ _ _
  refine wpAny_bind (wpAny_mono h (fun z s' q => ?_) fun _ _ e => e)
  obtain ⟨tl, ⟨h', tk, rfl, hk⟩, ht, hr⟩ := q.out
  refine wpAny_bind (append_at (hsz := by rw [List.size_toArray]; exact Nat.le_trans hz (by decide)) (hk _ _ hD) fun h₅ hs₅ hD₅ => wpAny_pure ?_)
  refine ⟨z, tl, _, h₅, tk, rfl, hD₅.trans (congrArg some (LCg.lst_snoc zs z)), rfl, fun b o hb e => hs₅.extBut b o hb (hk b o e), fun p hp => ⟨hs₅.extBut _ _ (fun q => ?_) (ht p hp).1, (ht p hp).2⟩, hr⟩
  have := (ht p hp).2
  rw [q, hD] at this; cases this
theorem SetO.at {h : Heap} {D : Addr} {o : Obj} {zs : List Value} (hD : h.get? D = some o) (ho : SetO prog w zs o) (hz : zs.length ≤ 1000) : ∃ ks : List Str, KeysAre (strKind prog w) zs ks ∧ h.SetOf (strKind prog w) D (fun k' => (dd ks).any (· == k')) (dd ks).length := by
  obtain ⟨ks, hk, hs⟩ := ho
  refine ⟨ks, hk, hs.setOf hD ?_⟩
  have h1 := dd_len_le ks
  have h2 := hk.len
  exact Nat.lt_of_le_of_lt (by omega : (dd ks).length ≤ 1000) (by decide)
theorem KeysAre.snoc {K : Type} [DecidableEq K] {knd : KeyKind prog w K} {v : Value} {k : K} : ∀ {vs : List Value} {ks : List K}, KeysAre knd vs ks → knd.is k v = true → v.scannable = true → KeysAre knd (vs ++ [v]) (ks ++ [k])
  | _, _, .nil, h1, h2 => .cons h1 h2 .nil
  | _, _, .cons a b r, h1, h2 => .cons a b (r.snoc h1 h2)
theorem emit_set {elt : PySem.Expr} {cenv : Env} {D : Addr} {o : Obj} {zs : List Value} {y : Str} (hD : s.heap.get? D = some o) (ho : SetO prog w zs o) (hz : zs.length ≤ 900)
    (h : wpAny (model prog w) A (eval elt cenv) (fun z s' => Stop (Keeps s s' ∧ ∃ t, z = .str y t)) E s) :
    wpAny (model prog w) A (emit true elt (.ref D) cenv) (fun _ s'' => EmitPost D (SetO prog w) (fun z tl => tl = [] ∧ ∃ t, z = .str y t) zs s s'') E s := by
  show wpAny _ _ (eval elt cenv >>= fun v => standAt elt.pos >>= fun _ => call (.builtin "set.add") [.ref D, v] >>= fun _ => pure ()) _ _ _
  refine wpAny_bind (wpAny_mono h (fun z s' q => ?_) fun _ _ e => e)
  obtain ⟨⟨h', tk, rfl, hk⟩, t, rfl⟩ := q.out
  refine wpAny_bind (wpAny_standAt (wpAny_bind ?_))
  obtain ⟨ks, hks, hS⟩ := SetO.at (h := h') (hk _ _ hD) ho (by omega)
  have h1 := dd_len_le ks
  have h2 := hks.len
  refine call_set_add (knd := strKind prog w) (k := y) (strKind_is _ _ _ _) rfl hS (Nat.lt_of_le_of_lt (by omega : (dd ks).length + 1 ≤ 1000) (by decide)) fun h₅ hs₅ hS₅ => wpAny_pure ?_
  obtain ⟨o₅, ho₅, hso₅⟩ := hS₅.objOf
  refine ⟨_, [], o₅, h₅, _, rfl, ho₅, ⟨ks ++ [y], hks.snoc (strKind_is _ _ _ _) rfl, ?_⟩, fun b o hb e => hs₅.extBut b o hb (hk b o e), fun p hp => (nomatch hp), rfl, t, rfl⟩
  have e1 : (fun k' => (dd (ks ++ [y])).any (· == k')) = fun k' => (dd ks).any (· == k') || decide (k' = y) := by
    funext k'
    rw [dd_snoc, step_anyK]
  have e2 : (dd (ks ++ [y])).length = if (dd ks).any (· == y) then (dd ks).length else (dd ks).length + 1 := by rw [dd_snoc, step_lenK]
  rw [e1, e2]
  exact hso₅
theorem comp_runB {elt : PySem.Expr} {x : Str} {scope : Scope} {cl : List (Str × Addr)} {S : List (Addr × Obj) → Prop} {P : Nat → Value → Prop} {Fin : List Value → List (Addr × Obj) → Prop} {news0 : List (Addr × Obj)} {n : Nat} (Rel : Nat → Value → List (Addr × Obj) → Prop)
    (Sm : ∀ tl nw, S nw → S (tl ++ nw))
    (helt : ∀ i v C m₂ s' E', i < n → P i v → Fr h₀ L s'.heap m → News h₀ L s'.heap news0 → s'.heap.Ns C m₂ → m₂ x = some v →
      wpAny (model prog w) A (eval elt (compEnvC scope cl C env)) (fun y s'' => Stop (EltPost Rel i s' y s'')) E' s') :
    ∀ (k i : Nat) (ys : List Value) (news : List (Addr × Obj)), i + k = n → S news → (∀ p ∈ news0, p ∈ news) → (∀ ys' tls, ys'.length = k → Made Rel i ys' tls → Fin (ys ++ ys') (tls ++ news)) →
      LCg.CompRest prog w A h₀ L m env elt x scope cl s S P Fin k i ys news
  | 0, i, ys, news, _, _, _, hf => LCg.CompRest.zero (by have := hf [] [] rfl .nil; simpa using this)
  | k + 1, i, ys, news, hn, hS, hsub, hf => LCg.CompRest.succ (by
      intro v I oI C oC D m₂ h tk E' hP hC hx F N off ne
      refine wpAny_mono (helt i v C m₂ _ E' (by omega) hP F (fun p hp => N p (by simp [hsub p hp])) (hC.ns (N (C, oC) (by simp)).1) hx) (fun y s'' q => ?_) fun _ _ e => e
      obtain ⟨tl, ⟨h'', tk'', rfl, kk⟩, hfr, hr⟩ := q.out
      have Nall : News h₀ L h'' (tl ++ ((I, oI) :: (C, oC) :: (D, LCg.lst ys) :: news)) := by
        intro p hp
        rcases List.mem_append.mp hp with hp | hp
        · obtain ⟨e1, e2⟩ := hfr p hp
          refine ⟨e1, fun q => ?_, ?_⟩
          · obtain ⟨_, _, _, e3, _⟩ := F.ns
            have e2' : h.get? p.1 = none := e2
            rw [q, e3] at e2'
            cases e2'
          · cases q : h₀.get? p.1 with
            | none => rfl
            | some o => have e2' : h.get? p.1 = none := e2; rw [F.keep _ _ q] at e2'; cases e2'
        · exact N.grown kk p hp
      refine LCg.CompEnd.intro (F.keeps kk) Nall (tl ++ news) (fun p hp => ?_) (LCg.Off3.of fun p hp => ?_) (Sm tl news hS) (comp_runB Rel Sm helt k (i + 1) (ys ++ [y]) (tl ++ news) (by omega) (Sm tl news hS) (fun p hp => List.mem_append_right _ (hsub p hp)) fun ys' tls hl hm => ?_)
      · simp only [List.mem_cons, List.mem_append] at hp ⊢
        rcases hp with hp | hp | hp | hp | hp <;> simp [hp]
      · rcases List.mem_append.mp hp with hp | hp
        · have e2 : h.get? p.1 = none := (hfr p hp).2
          refine ⟨fun q => ?_, fun q => ?_, fun q => ?_⟩
          · have := (N (I, oI) (by simp)).1; rw [q] at e2; rw [e2] at this; cases this
          · have := (N (C, oC) (by simp)).1; rw [q] at e2; rw [e2] at this; cases this
          · have := (N (D, LCg.lst ys) (by simp)).1; rw [q] at e2; rw [e2] at this; cases this
        · exact off.mem p hp
      · have := hf (y :: ys') (tls ++ tl) (by simp [hl]) (.cons hr hm)
        simpa using this)
theorem off1_mem {D : Addr} : ∀ {l : List (Addr × Obj)}, LCg.Off1 D l → ∀ p ∈ l, p.1 ≠ D
  | [], _, _, hp => nomatch hp
  | _ :: _, h, p, hp => by
    rcases List.mem_cons.mp hp with rfl | hp
    · exact h.1
    · exact off1_mem h.2 p hp
/-- one clause, over range -/
theorem comp_AR {elt iter : PySem.Expr} {x y : Str} {px py : Pos} {scope : Scope} {cl : List (Str × Addr)} {pos spos : Pos} {Q : Flow → Shared → Prop} {a : Int} {n : Nat} {news : List (Addr × Obj)} (Rel : Nat → Value → List (Addr × Obj) → Prop) (F₀ : Fr h₀ L s.heap m) (N₀ : News h₀ L s.heap news) (hh : A.handled = none) (hLe : env.locals = L)
    (hsw : swapsWith (.ListComp elt [⟨.Name x px, iter, [], 0⟩] scope pos) (some (.Name y py)) spos.line env = pure true)
    (hclos : closureFor scope env = pure cl) (hcell : ∀ z ∈ scope.names, z.2 ≠ .cell) (hkind : scope.kind = .function)
    (hnames : ∀ z ∈ scope.names, z.2 = .local → scope.names.lookup z.1 = some .local) (hx : scope.names.lookup x = some .local)
    (hy : env.kindOf y = some .local) (hp : (env.scope.kind == .class || (env.scope.kind == .module && env.locals != env.globals)) = false)
    (hs : ∀ x, foldedSetIterable iter env x = pure x) (hz : n ≤ 1000) (ha : -1000 ≤ a ∧ a ≤ 1000)
    (hiter : wpAny (model prog w) A (eval iter env) (fun xv s₁ => Stop (∃ r h1 tk t u v, xv = .ref r ∧ s₁ = { s with heap := h1, toks := tk } ∧ IsRange h1 r a (a + n) 1 t u v ∧ Fr h₀ L h1 m ∧ News h₀ L h1 news)) E s)
    (helt : ∀ i t C m₂ s' E', i < n → Fr h₀ L s'.heap m → News h₀ L s'.heap news → s'.heap.Ns C m₂ → m₂ x = some (.int (a + (i : Nat)) t) →
      wpAny (model prog w) A (eval elt (compEnvC scope cl C env)) (fun y s'' => Stop (EltPost Rel i s' y s'')) E' s')
    (hQ : ∀ D ys tls h' tk, ys.length = n → Made Rel 0 ys tls → Fr h₀ L h' (fun z => if z = y then some (.ref D) else m z) → News h₀ L h' ((D, listOf ys.toArray ys.length) :: (tls ++ news)) → (∀ p ∈ tls ++ news, p.1 ≠ D) → Q .next { s with heap := h', toks := tk }) :
    wpAny (model prog w) A (exec (.Assign [.Name y py] (.ListComp elt [⟨.Name x px, iter, [], 0⟩] scope pos) spos) env) Q E s := by
  refine LCg.Assign_ListComp_U F₀ hLe hsw hclos hcell hkind hnames hx hy hp (wpAny_mono hiter (fun xv s₁ q => ?_) fun _ _ e => e) hs
  obtain ⟨r, h1, tk, t, u, v, rfl, rfl, hr, F1, N1⟩ := q.out
  have hsm : Builtin.Range.small a (a + n) 1 = true := small_one (by omega) (by omega) (by omega) (by omega)
  have hsz : Builtin.Range.rangeSize a (a + n) 1 = (n : Int) := by
    unfold Builtin.Range.rangeSize
    rw [if_pos (by decide)]
    split <;> omega
  refine LCg.CompSrc.range hh F1 N1 hr hsm hsz (Nat.le_trans hz (by decide)) ?_
  intro s₂
  refine comp_runB (n := n) (news0 := news) Rel (fun _ _ _ => trivial) (fun i v C m₂ s' E' hi hP F N hC hx => ?_) _ _ _ _ (by omega) trivial (fun p hp => hp) fun ys' tls hl hm => ?_
  · obtain ⟨t, rfl⟩ := hP
    exact helt i t C m₂ s' E' hi F N hC hx
  · intro D h' tk' F' N' off
    exact hQ D ys' tls h' tk' hl hm F' N' (off1_mem off)
end
end Mine
namespace Mine
theorem calm23 : True := by
  w_top off
  first
    | (walk1; trivial)
    | trivial
end Mine
namespace Mine
def pick4 {α : Type} (a b c d : α) : Nat → α
  | 0 => a
  | 1 => b
  | 2 => c
  | _ => d
section
variable {prog : Program} {w : World} {M : Model} {A : Around} {E : Value → Shared → Prop} {s : Shared} {h₀ : Heap} {L C c : Addr} {m m₂ mg mb : Str → Option Value} {env : Env} {scope : Scope} {cl : List (Str × Addr)} {K : Frag} {p : Program} {loose : List Str} {mean : ExcName → Option Value} {x : Str} {pos : Pos} {v : Value} {Q : Value → Shared → Prop}
theorem nmG (X : K.In s.heap) (T : Top p loose mean mg mb s.heap) (e : nsIn K mainGlobals x = some (some v)) (h : Q v s) (hg : env.globals = mainGlobals := by rfl)
    (hk : (compEnvC scope cl C env).scope.kind = .function := by rfl) (hx : (compEnvC scope cl C env).kindOf x = some .globalImplicit := by rfl) (hd : (x == ("__debug__" : Str)) = false := by decide) :
    wpAny M A (eval (.Name x pos) (compEnvC scope cl C env)) Q E s :=
  Name_function_global hk hx (loadGlobal_global (env := compEnvC scope cl C env) (show s.heap.Ns env.globals mg from hg ▸ T.g) (mg_of X T.g e) h) hd
theorem nmB (X : K.In s.heap) (T : Top p loose mean mg mb s.heap) (e : nsIn K mainGlobals x = some none) (hv : bootBuiltins x = some v) (hn : x ≠ "__name__") (h : Q v s) (hg : env.globals = mainGlobals := by rfl) (hb : env.builtins = builtinsNs := by rfl)
    (hk : (compEnvC scope cl C env).scope.kind = .function := by rfl) (hx : (compEnvC scope cl C env).kindOf x = some .globalImplicit := by rfl) (hd : (x == ("__debug__" : Str)) = false := by decide) :
    wpAny M A (eval (.Name x pos) (compEnvC scope cl C env)) Q E s :=
  Name_function_global hk hx (loadGlobal_builtin (env := compEnvC scope cl C env) (show s.heap.Ns env.globals mg from hg ▸ T.g) (mg_none_of X T.g e) (show s.heap.Ns env.builtins mb from hb ▸ T.b) ((T.builtins x hn).trans hv) h) hd
theorem addRaw {l b : Addr} {vs ws : List Value} (hl : s.heap.IsList l vs.toArray) (hb : s.heap.IsList b ws.toArray)
    (h : Q (.ref s.heap.objs.size) { s with heap := s.heap.push { cls := .type "list", data := .seq (vs ++ ws).toArray } })
    (hsz : vs.length + ws.length ≤ 1000) :
    wpAny (model prog w) A (binaryOp .Add (.ref l) (.ref b)) Q E s := by
  obtain ⟨⟨cls, dd, data, sl⟩, ho, hc, n, hd⟩ := id hl
  obtain ⟨⟨cls2, dd2, data2, sl2⟩, ho2, hc2, n2, hd2⟩ := id hb
  simp only at hc hd hc2 hd2
  subst hc hd hc2 hd2
  have e : vs.toArray ++ ws.toArray = (vs ++ ws).toArray := by simp
  have hsz' : vs.length + ws.length ≤ sizeLine := Nat.le_trans hsz (by decide)
  refine concat_meets ⟨_, ho, rfl⟩ ⟨_, ho2, rfl⟩ noFill_list_add seq_list_add PySem.F.slot_list_add PySem.F.entry_list_add (PySem.F.args_list_add_2 _ _) (list_addW l b vs.toArray ws.toArray n n2 dd dd2 sl sl2 (by simpa using hsz')) ⟨ho, ho2, ?_⟩
  rw [e]
  exact h
theorem sliceRaw {value slice : PySem.Expr} {l : Addr} {items : Array Value} {vl vu : Value} {lo hi : Option Int} (hl : s.heap.IsList l items) (pl : IsPart vl lo) (pu : IsPart vu hi)
    (h : ∀ h', h'.get? (s.heap.objs.size + 1) = some { cls := .type "list", data := .seq (slicePick items lo hi none) } → (∀ b o, s.heap.get? b = some o → h'.get? b = some o) → Q (.ref (s.heap.objs.size + 1)) { s with heap := h' })
    (hsz : items.size ≤ 1000)
    (hs : subscripted slice false (.ref l) (.ref s.heap.objs.size) = operate [.ref s.heap.objs.size, .ref l] (getItem (.ref l) (.ref s.heap.objs.size)) := by with_unfolding_all rfl)
    (ht : ∀ r, letTemporaryGo value (.ref l) r = pure () := by intro _; with_unfolding_all rfl) :
    wpAny (model prog w) A (subscriptTail value slice (.ref l) (.ref s.heap.objs.size)) Q E { s with heap := s.heap.push { cls := .type "slice", data := .fields #[vl, vu, .none] } } := by
  refine subscriptTail_ops (Heap.IsList.typeIs (s := { s with heap := s.heap.push { cls := .type "slice", data := .fields #[vl, vu, .none] } }) (hl.push _)) list_getitem_lookup
    (wpAny_getItem_list_slice (hl.push _) (Heap.IsSliceOf.new ..) pl pu .none (by simp) ?_ (Nat.le_trans hsz (by decide))) hs ht
  show Q (.ref (s.heap.push _).objs.size) _
  have e := Heap.get?_push_size (s.heap.push { cls := .type "slice", data := .fields #[vl, vu, .none] }) (o := { cls := .type "list", data := .seq (slicePick items lo hi none) }) rfl
  rw [Heap.size_push] at e ⊢
  exact h _ e fun b o e => Heap.get?_push_of_some _ (Heap.get?_push_of_some _ e)
/-- one clause over a list, the items told by PI -/
theorem comp_AX {elt iter : PySem.Expr} {x y : Str} {px py : Pos} {scope : Scope} {cl : List (Str × Addr)} {pos spos : Pos} {Q : Flow → Shared → Prop} {news : List (Addr × Obj)} (PI : Array Value → Prop) (Rel : Nat → Value → List (Addr × Obj) → Prop) (F₀ : Fr h₀ L s.heap m) (hh : A.handled = none) (hLe : env.locals = L)
    (hsw : swapsWith (.ListComp elt [⟨.Name x px, iter, [], 0⟩] scope pos) (some (.Name y py)) spos.line env = pure true)
    (hclos : closureFor scope env = pure cl) (hcell : ∀ z ∈ scope.names, z.2 ≠ .cell) (hkind : scope.kind = .function)
    (hnames : ∀ z ∈ scope.names, z.2 = .local → scope.names.lookup z.1 = some .local) (hx : scope.names.lookup x = some .local)
    (hy : env.kindOf y = some .local) (hp : (env.scope.kind == .class || (env.scope.kind == .module && env.locals != env.globals)) = false)
    (hs : ∀ x, foldedSetIterable iter env x = pure x)
    (hiter : wpAny (model prog w) A (eval iter env) (fun xv s₁ => Stop (∃ its, PI its ∧ its.size ≤ 1000 ∧ SrcIs s h₀ L m its news xv s₁)) E s)
    (helt : ∀ its i v C m₂ s' E', PI its → its[i]? = some v → Fr h₀ L s'.heap m → News h₀ L s'.heap news → s'.heap.Ns C m₂ → m₂ x = some v →
      wpAny (model prog w) A (eval elt (compEnvC scope cl C env)) (fun y s'' => Stop (EltPost Rel i s' y s'')) E' s')
    (hQ : ∀ its D ys tls h' tk, PI its → ys.length = its.size → Made Rel 0 ys tls → Fr h₀ L h' (fun z => if z = y then some (.ref D) else m z) → News h₀ L h' ((D, listOf ys.toArray ys.length) :: (tls ++ news)) → (∀ p ∈ tls ++ news, p.1 ≠ D) → Q .next { s with heap := h', toks := tk }) :
    wpAny (model prog w) A (exec (.Assign [.Name y py] (.ListComp elt [⟨.Name x px, iter, [], 0⟩] scope pos) spos) env) Q E s := by
  refine LCg.Assign_ListComp_U F₀ hLe hsw hclos hcell hkind hnames hx hy hp (wpAny_mono hiter (fun xv s₁ q => ?_) fun _ _ e => e) hs
  obtain ⟨its, hPI, hz, ax, h1, tk, nw, rfl, rfl, F1, N1, hsrc, hsub⟩ := q.out
  refine .inl ⟨ax, its, nw, rfl, hh, F1, N1, hsrc, Nat.le_trans hz (by decide), fun s₂ hs₂ => ?_⟩
  obtain ⟨g, rfl⟩ := hs₂
  refine comp_run (news0 := news) Rel srcAt_mono (fun i v C m₂ s' E' => helt its i v C m₂ s' E' hPI) _ _ _ _ hsrc hsub fun ys' tls hl hm => ?_
  intro D h' tk' F' N' off
  refine hQ its D ys' tls h' tk' hPI hl hm F' (fun p hp => ?_) fun p hp => off1_mem off p ?_
  · rcases List.mem_cons.mp hp with rfl | hp
    · exact N' (D, LCg.lst ([] ++ ys')) List.mem_cons_self
    · refine N' p (List.mem_cons_of_mem _ ?_)
      rcases List.mem_append.mp hp with hp | hp
      · exact List.mem_append_left _ hp
      · exact List.mem_append_right _ (hsub p hp)
  · rcases List.mem_append.mp hp with hp | hp
    · exact List.mem_append_left _ hp
    · exact List.mem_append_right _ (hsub p hp)
end
theorem Made.inv {Rel : Nat → Value → List (Addr × Obj) → Prop} {i : Nat} {y : Value} {ys : List Value} {tls : List (Addr × Obj)} (h : Made Rel i (y :: ys) tls) : ∃ tl tls', tls = tls' ++ tl ∧ Rel i y tl ∧ Made Rel (i + 1) ys tls' := by
  cases h with
  | cons a b => exact ⟨_, _, rfl, a, b⟩
theorem len4 {ys : List Value} (hl : ys.length = 4) : ∃ a b c d, ys = [a, b, c, d] := by
  cases ys with
  | nil => cases hl
  | cons a ys =>
    cases ys with
    | nil => cases hl
    | cons b ys =>
      cases ys with
      | nil => cases hl
      | cons c ys =>
        cases ys with
        | nil => cases hl
        | cons d ys =>
          cases ys with
          | nil => exact ⟨a, b, c, d, rfl⟩
          | cons _ _ => simp at hl
theorem below4 {P : Nat → Prop} (h0 : P 0) (h1 : P 1) (h2 : P 2) (h3 : P 3) : ∀ k, k < 4 → P k
  | 0, _ => h0
  | 1, _ => h1
  | 2, _ => h2
  | 3, _ => h3
  | _ + 4, h => absurd h (by omega)
theorem made4 {Rel : Nat → Value → List (Addr × Obj) → Prop} {ys : List Value} {tls : List (Addr × Obj)} (h : Made Rel 0 ys tls) (hl : ys.length = 4) : ∃ (y : Nat → Value) (t : Nat → List (Addr × Obj)), ys = [y 0, y 1, y 2, y 3] ∧ (∀ k, k < 4 → Rel k (y k) (t k)) ∧ ∀ k, k < 4 → ∀ p ∈ t k, p ∈ tls := by
  obtain ⟨y0, y1, y2, y3, rfl⟩ := len4 hl
  obtain ⟨t0, r0, rfl, h0, g⟩ := h.inv
  obtain ⟨t1, r1, rfl, h1, g⟩ := g.inv
  obtain ⟨t2, r2, rfl, h2, g⟩ := g.inv
  obtain ⟨t3, r3, rfl, h3, g⟩ := g.inv
  refine ⟨pick4 y0 y1 y2 y3, pick4 t0 t1 t2 t3, rfl, below4 h0 h1 h2 h3, below4 ?_ ?_ ?_ ?_⟩
  · exact fun p hp => List.mem_append_right _ hp
  · exact fun p hp => List.mem_append_left _ (List.mem_append_right _ hp)
  · exact fun p hp => List.mem_append_left _ (List.mem_append_left _ (List.mem_append_right _ hp))
  · exact fun p hp => List.mem_append_left _ (List.mem_append_left _ (List.mem_append_left _ (List.mem_append_right _ hp)))
end Mine
namespace Mine
theorem calm24 : True := by
  w_top off
  first
    | (walk1; trivial)
    | trivial
end Mine
namespace Mine
theorem seq {M : Model} {A : Around} {E : Value → Shared → Prop} {s : Shared} {env : Env} {st : Stmt} {rest : List Stmt} {Q : Flow → Shared → Prop} (Mid : Shared → Prop)
    (h1 : wpAny M A (exec st env) (fun f s' => Stop (f = .next ∧ Mid s')) E s) (h2 : ∀ s', Mid s' → wpAny M A (execs rest env) Q E s') : wpAny M A (execs (st :: rest) env) Q E s :=
  wpAny_execs_cons (wpAny_mono h1 (fun f s' q => by obtain ⟨⟨rfl, h⟩⟩ := q; exact h2 s' h) fun _ _ e => e)
theorem four {ws : List Value} {ns : List Int} (h : IntsAre ws (List.take 4 (List.take 4 ns ++ [7, 3, 15, 2]))) : ∃ x0 t0 x1 t1 x2 t2 x3 t3, ws = [.int x0 t0, .int x1 t1, .int x2 t2, .int x3 t3] := by
  have e : (List.take 4 (List.take 4 ns ++ [7, 3, 15, 2])).length = 4 := by simp <;> omega
  revert h e
  generalize List.take 4 (List.take 4 ns ++ [7, 3, 15, 2]) = l
  intro h e
  match l, h, e with
  | [_, _, _, _], .cons _ t0 (.cons _ t1 (.cons _ t2 (.cons _ t3 .nil))), _ => exact ⟨_, t0, _, t1, _, t2, _, t3, rfl⟩
theorem rowOf_len (x : Int) : (rowOf x).length ≤ 3 := by simpa [rowOf] using rowN_le x
abbrev rd (n : String) : Str := Str.ofString n
def NoCell (news : List (Addr × Obj)) : Prop := ∀ p ∈ news, ∀ v, p.2.data ≠ .cell v
def IntItems (its : Array Value) : Prop := ∃ x0 t0 x1 t1 x2 t2 x3 t3, its = #[.int x0 t0, .int x1 t1, .int x2 t2, .int x3 t3]
theorem intItems_at {its : Array Value} (h : IntItems its) {i : Nat} {v : Value} (e : its[i]? = some v) : ∃ x t, v = .int x t := by
  obtain ⟨x0, t0, x1, t1, x2, t2, x3, t3, rfl⟩ := h
  match i, e with
  | 0, e => exact ⟨_, _, (Option.some.inj e).symm⟩
  | 1, e => exact ⟨_, _, (Option.some.inj e).symm⟩
  | 2, e => exact ⟨_, _, (Option.some.inj e).symm⟩
  | 3, e => exact ⟨_, _, (Option.some.inj e).symm⟩
  | i + 4, e => simp at e
def RowsAt (news : List (Addr × Obj)) (D : Addr) (a : Nat → Addr) (y : Nat → List Value) (n : Nat → Nat) (r : Nat → Row) : Prop :=
  (D, LCg.lst [.ref (a 0), .ref (a 1), .ref (a 2), .ref (a 3)]) ∈ news ∧ ∀ k, k < 4 → (a k, listOf (List.toArray (y k)) (n k)) ∈ news ∧ StrsAre (y k) ((r k).map lab) ∧ (r k).length ≤ 3
/-- the frame's three parts: its names, the two cells, the rest of the ledger -/
structure St (s₀ : Shared) (L : Addr) (h : Heap) (m : Str → Option Value) (oh oj : Obj) (news : List (Addr × Obj)) : Prop where
  F : Fr s₀.heap L h m
  Nh : News s₀.heap L h [(L + 1, oh)]
  Nj : News s₀.heap L h [(L + 1 + 1, oj)]
  N : News s₀.heap L h news
  nc : NoCell news
theorem St.ne_h {s₀ : Shared} {L : Addr} {h : Heap} {m : Str → Option Value} {oh oj : Obj} {news : List (Addr × Obj)} (S : St s₀ L h m oh oj news) {v : Option Value} (d : oh.data = .cell v) : ∀ p ∈ news, p.1 ≠ L + 1 := fun p hp e => by
  have e1 := (S.N p hp).1
  have e2 := (S.Nh _ List.mem_cons_self).1
  rw [e, e2] at e1
  cases e1
  exact S.nc p hp v d
theorem St.ne_j {s₀ : Shared} {L : Addr} {h : Heap} {m : Str → Option Value} {oh oj : Obj} {news : List (Addr × Obj)} (S : St s₀ L h m oh oj news) {v : Option Value} (d : oj.data = .cell v) : ∀ p ∈ news, p.1 ≠ L + 1 + 1 := fun p hp e => by
  have e1 := (S.N p hp).1
  have e2 := (S.Nj _ List.mem_cons_self).1
  rw [e, e2] at e1
  cases e1
  exact S.nc p hp v d
theorem St.all {s₀ : Shared} {L : Addr} {h : Heap} {m : Str → Option Value} {oh oj : Obj} {news : List (Addr × Obj)} (S : St s₀ L h m oh oj news) : News s₀.heap L h ((L + 1, oh) :: (L + 1 + 1, oj) :: news) := fun p hp => by
  rcases List.mem_cons.mp hp with rfl | hp
  · exact S.Nh _ List.mem_cons_self
  · rcases List.mem_cons.mp hp with rfl | hp
    · exact S.Nj _ List.mem_cons_self
    · exact S.N p hp
theorem St.of {s₀ : Shared} {L : Addr} {h : Heap} {m : Str → Option Value} {oh oj : Obj} {news all : List (Addr × Obj)} (F : Fr s₀.heap L h m) (N : News s₀.heap L h all) (h1 : (L + 1, oh) ∈ all) (h2 : (L + 1 + 1, oj) ∈ all) (h3 : ∀ p ∈ news, p ∈ all) (nc : NoCell news) : St s₀ L h m oh oj news :=
  ⟨F, fun p hp => by rw [List.mem_singleton.mp hp]; exact N _ h1, fun p hp => by rw [List.mem_singleton.mp hp]; exact N _ h2, fun p hp => N p (h3 p hp), nc⟩
def M1 (s : Shared) (L : Addr) (s' : Shared) : Prop := ∃ h tk m oh oj vh vj news D a y n r,
  s' = { s with heap := h, toks := tk } ∧ St s L h m oh oj news ∧ oh.data = .cell vh ∧ oj.data = .cell vj ∧ m (rd "rows") = some (.ref D) ∧ RowsAt news D a y n r
/-- what a turn of the rows' comprehension makes -/
def RelRow (_ : Nat) (y : Value) (tl : List (Addr × Obj)) : Prop := ∃ a n ys, ∃ r : Row, y = .ref a ∧ tl = [(a, listOf (List.toArray ys) n)] ∧ StrsAre ys (r.map lab) ∧ r.length ≤ 3
theorem m1_of {s : Shared} {L : Addr} {h : Heap} {tk : Nat} {m : Str → Option Value} {oh oj : Obj} {vh vj : Option Value} {news : List (Addr × Obj)} {D : Addr} {ys : List Value} {tls : List (Addr × Obj)}
    (F : Fr s.heap L h (fun z => if z = rd "rows" then some (.ref D) else m z)) (N : News s.heap L h ((D, listOf ys.toArray ys.length) :: (tls ++ news))) (hl : ys.length = 4) (hm : Made RelRow 0 ys tls) (h1 : (L + 1, oh) ∈ news) (h2 : (L + 1 + 1, oj) ∈ news) (d1 : oh.data = .cell vh) (d2 : oj.data = .cell vj) : M1 s L { s with heap := h, toks := tk } := by
  obtain ⟨y, t, rfl, hr, ht⟩ := made4 hm hl
  have g0 := hr 0 (by decide)
  have g1 := hr 1 (by decide)
  have g2 := hr 2 (by decide)
  have g3 := hr 3 (by decide)
  have q0 := ht 0 (by decide)
  have q1 := ht 1 (by decide)
  have q2 := ht 2 (by decide)
  have q3 := ht 3 (by decide)
  obtain ⟨a0, n0, y0, r0, e0, f0, s0, l0⟩ := g0
  obtain ⟨a1, n1, y1, r1, e1, f1, s1, l1⟩ := g1
  obtain ⟨a2, n2, y2, r2, e2, f2, s2, l2⟩ := g2
  obtain ⟨a3, n3, y3, r3, e3, f3, s3, l3⟩ := g3
  rw [e0, e1, e2, e3] at N
  rw [f0] at q0
  rw [f1] at q1
  rw [f2] at q2
  rw [f3] at q3
  refine ⟨h, tk, _, oh, oj, vh, vj, [(D, LCg.lst [.ref a0, .ref a1, .ref a2, .ref a3]), (a0, listOf (List.toArray y0) n0), (a1, listOf (List.toArray y1) n1), (a2, listOf (List.toArray y2) n2), (a3, listOf (List.toArray y3) n3)], D, pick4 a0 a1 a2 a3, pick4 y0 y1 y2 y3, pick4 n0 n1 n2 n3, pick4 r0 r1 r2 r3, rfl,
    St.of F N (List.mem_cons_of_mem _ (List.mem_append_right _ h1)) (List.mem_cons_of_mem _ (List.mem_append_right _ h2)) ?_ ?_, d1, d2, rfl, List.mem_cons_self, below4 ⟨?_, s0, l0⟩ ⟨?_, s1, l1⟩ ⟨?_, s2, l2⟩ ⟨?_, s3, l3⟩⟩
  · intro p hp
    simp only [List.mem_cons, List.not_mem_nil, or_false] at hp
    rcases hp with rfl | rfl | rfl | rfl | rfl
    · exact List.mem_cons_self
    · exact List.mem_cons_of_mem _ (List.mem_append_left _ (q0 _ List.mem_cons_self))
    · exact List.mem_cons_of_mem _ (List.mem_append_left _ (q1 _ List.mem_cons_self))
    · exact List.mem_cons_of_mem _ (List.mem_append_left _ (q2 _ List.mem_cons_self))
    · exact List.mem_cons_of_mem _ (List.mem_append_left _ (q3 _ List.mem_cons_self))
  · intro p hp v
    simp only [List.mem_cons, List.not_mem_nil, or_false] at hp
    rcases hp with rfl | rfl | rfl | rfl | rfl <;> exact fun e => Data.noConfusion e
  · simp [pick4]
  · simp [pick4]
  · simp [pick4]
  · simp [pick4]
end Mine
namespace Mine
theorem calm25 : True := by
  w_top off
  first
    | (walk1; trivial)
    | trivial
end Mine
namespace Mine
theorem join_host : ∀ r ∈ rows15, Txt.join (rd ".") (r.map lab ++ [rd "local"]) = host r := by decide +kernel
theorem join_fit : ∀ r ∈ rows15, (((r.map lab ++ [rd "local"]).map (·.length)).sum + (r.map lab ++ [rd "local"]).length * 64 ≤ 16777216) := by decide +kernel
theorem items4 {f : Nat → Value} {i : Nat} {v : Value} (e : (#[f 0, f 1, f 2, f 3] : Array Value)[i]? = some v) : i < 4 ∧ v = f i := by
  match i, e with
  | 0, e => exact ⟨by decide, (Option.some.inj e).symm⟩
  | 1, e => exact ⟨by decide, (Option.some.inj e).symm⟩
  | 2, e => exact ⟨by decide, (Option.some.inj e).symm⟩
  | 3, e => exact ⟨by decide, (Option.some.inj e).symm⟩
  | i + 4, e => simp at e
theorem items4' {f : Nat → Value} : ∀ k, k < 4 → (#[f 0, f 1, f 2, f 3] : Array Value)[k]? = some (f k) := below4 rfl rfl rfl rfl
/-- a cell of the frame is stored -/
theorem St.store_h {s₀ : Shared} {L : Addr} {h h' : Heap} {m : Str → Option Value} {oh oj : Obj} {news : List (Addr × Obj)} {vh : Option Value} {v : Value} (S : St s₀ L h m oh oj news) (dh : oh.data = .cell vh) (hc : h'.IsCell (L + 1) (some v)) (hs : Heap.SameBut (L + 1) h h') :
    ∃ oh', St s₀ L h' m oh' oj news ∧ oh'.data = .cell (some v) := by
  obtain ⟨oh', e1, e2⟩ := hc
  have q := S.Nh _ List.mem_cons_self
  refine ⟨oh', ⟨S.F.change hs q.2.1 q.2.2, ?_, ?_, ?_, S.nc⟩, e2⟩
  · intro p hp; rw [List.mem_singleton.mp hp]; exact ⟨e1, q.2⟩
  · intro p hp; rw [List.mem_singleton.mp hp]
    have z := S.Nj _ List.mem_cons_self
    exact ⟨hs.extBut _ _ (Nat.ne_of_gt (Nat.lt_succ_self _)) z.1, z.2⟩
  · exact fun p hp => ⟨hs.extBut _ _ (S.ne_h dh p hp) (S.N p hp).1, (S.N p hp).2⟩
theorem St.store_j {s₀ : Shared} {L : Addr} {h h' : Heap} {m : Str → Option Value} {oh oj : Obj} {news : List (Addr × Obj)} {vj : Option Value} {v : Value} (S : St s₀ L h m oh oj news) (dj : oj.data = .cell vj) (hc : h'.IsCell (L + 1 + 1) (some v)) (hs : Heap.SameBut (L + 1 + 1) h h') :
    ∃ oj', St s₀ L h' m oh oj' news ∧ oj'.data = .cell (some v) := by
  obtain ⟨oj', e1, e2⟩ := hc
  have q := S.Nj _ List.mem_cons_self
  refine ⟨oj', ⟨S.F.change hs q.2.1 q.2.2, ?_, ?_, ?_, S.nc⟩, e2⟩
  · intro p hp; rw [List.mem_singleton.mp hp]
    have z := S.Nh _ List.mem_cons_self
    exact ⟨hs.extBut _ _ (Nat.ne_of_lt (Nat.lt_succ_self _)) z.1, z.2⟩
  · intro p hp; rw [List.mem_singleton.mp hp]; exact ⟨e1, q.2⟩
  · exact fun p hp => ⟨hs.extBut _ _ (S.ne_j dj p hp) (S.N p hp).1, (S.N p hp).2⟩
def HostsAt (news : List (Addr × Obj)) (H : Addr) (r : Nat → Row) (th : Nat → Tok) : Prop :=
  (H, LCg.lst [.str (host (r 0)) (th 0), .str (host (r 1)) (th 1), .str (host (r 2)) (th 2), .str (host (r 3)) (th 3)]) ∈ news
def RelHost (r : Nat → Row) (i : Nat) (y : Value) (tl : List (Addr × Obj)) : Prop := tl = [] ∧ ∃ t, y = .str (host (r i)) t
def M2 (s : Shared) (L : Addr) (s' : Shared) : Prop := ∃ h tk m oh oj vj news D a y n r H th,
  s' = { s with heap := h, toks := tk } ∧ St s L h m oh oj news ∧ oh.data = .cell (some (.ref H)) ∧ oj.data = .cell vj ∧ m (rd "rows") = some (.ref D) ∧ RowsAt news D a y n r ∧ HostsAt news H r th
theorem NoCell.cons {a : Addr} {o : Obj} {l : List (Addr × Obj)} (h : NoCell l) (ho : ∀ v, o.data ≠ .cell v) : NoCell ((a, o) :: l) := fun p hp => by
  rcases List.mem_cons.mp hp with rfl | hp
  · exact ho
  · exact h p hp
theorem NoCell.append {l l' : List (Addr × Obj)} (h : NoCell l) (h' : NoCell l') : NoCell (l ++ l') := fun p hp => by
  rcases List.mem_append.mp hp with hp | hp
  · exact h p hp
  · exact h' p hp
theorem RowsAt.mono {news news' : List (Addr × Obj)} {D : Addr} {a : Nat → Addr} {y : Nat → List Value} {n : Nat → Nat} {r : Nat → Row} (R : RowsAt news D a y n r) (hs : ∀ p ∈ news, p ∈ news') : RowsAt news' D a y n r :=
  ⟨hs _ R.1, fun k hk => ⟨hs _ (R.2 k hk).1, (R.2 k hk).2⟩⟩
/-- behind the hosts' comprehension, ahead of the store -/
theorem m2_of {s : Shared} {L : Addr} {h h2 : Heap} {tk2 : Nat} {m : Str → Option Value} {oh oj : Obj} {vh vj : Option Value} {news : List (Addr × Obj)} {D H : Addr} {a : Nat → Addr} {y : Nat → List Value} {n : Nat → Nat} {r : Nat → Row} {ys : List Value} {tls : List (Addr × Obj)}
    (F : Fr s.heap L h m) (N : News s.heap L h ((H, listOf ys.toArray ys.length) :: (tls ++ ((L + 1, oh) :: (L + 1 + 1, oj) :: news)))) (hl : ys.length = 4) (hm : Made (RelHost r) 0 ys tls) (nc : NoCell news) (d1 : oh.data = .cell vh) (d2 : oj.data = .cell vj) (mr : m (rd "rows") = some (.ref D)) (R : RowsAt news D a y n r)
    (hc : h2.IsCell (L + 1) (some (.ref H))) (hs : Heap.SameBut (L + 1) h h2) : M2 s L { s with heap := h2, toks := tk2 } := by
  obtain ⟨y', t, rfl, hr, ht⟩ := made4 hm hl
  have S : St s L h m oh oj ((H, LCg.lst [y' 0, y' 1, y' 2, y' 3]) :: news) := by
    refine St.of F N (List.mem_cons_of_mem _ (List.mem_append_right _ List.mem_cons_self)) (List.mem_cons_of_mem _ (List.mem_append_right _ (List.mem_cons_of_mem _ List.mem_cons_self))) ?_ (nc.cons fun v e => Data.noConfusion e)
    intro p hp
    rcases List.mem_cons.mp hp with rfl | hp
    · exact List.mem_cons_self
    · exact List.mem_cons_of_mem _ (List.mem_append_right _ (List.mem_cons_of_mem _ (List.mem_cons_of_mem _ hp)))
  obtain ⟨_, t0, e0⟩ := hr 0 (by decide)
  obtain ⟨_, t1, e1⟩ := hr 1 (by decide)
  obtain ⟨_, t2, e2⟩ := hr 2 (by decide)
  obtain ⟨_, t3, e3⟩ := hr 3 (by decide)
  rw [e0, e1, e2, e3] at S
  obtain ⟨oh', S', d'⟩ := S.store_h d1 hc hs
  exact ⟨h2, tk2, m, oh', oj, vj, _, D, a, y, n, r, H, pick4 t0 t1 t2 t3, rfl, S', d', d2, mr, R.mono fun p hp => List.mem_cons_of_mem _ hp, List.mem_cons_self⟩
def turned (i : Nat) : Bool := ([1, 2] : List Int).any (· == (0 + (i : Int)))
def recUs (r : Nat → Row) (i : Nat) : List Str := if turned i then (rungs (r i)).reverse else rungs (r i)
def RelRec (P : Params) (r : Nat → Row) (i : Nat) (y : Value) (tl : List (Addr × Obj)) : Prop :=
  ∃ x dx u l k vs ws n1 n2 n3, y = .ref x ∧ tl = EntNews P x dx u l k vs ws n1 n2 n3 ∧ StrsAre vs (recUs r i) ∧ StrsAre ws [host (r i)]
/-- a record in the ledger -/
def RecAt (P : Params) (news : List (Addr × Obj)) (x : Addr) (us rs : List Str) : Prop :=
  ∃ dx u l k vs ws n1 n2 n3, (∀ p ∈ EntNews P x dx u l k vs ws n1 n2 n3, p ∈ news) ∧ StrsAre vs us ∧ StrsAre ws rs
theorem RecAt.mono {P : Params} {news news' : List (Addr × Obj)} {x : Addr} {us rs : List Str} (R : RecAt P news x us rs) (hs : ∀ p ∈ news, p ∈ news') : RecAt P news' x us rs := by
  obtain ⟨dx, u, l, k, vs, ws, n1, n2, n3, h1, h2⟩ := R
  exact ⟨dx, u, l, k, vs, ws, n1, n2, n3, fun p hp => hs p (h1 p hp), h2⟩
def RecsAt (P : Params) (news : List (Addr × Obj)) (R : Addr) (rx : Nat → Addr) (r : Nat → Row) : Prop :=
  (R, LCg.lst [.ref (rx 0), .ref (rx 1), .ref (rx 2), .ref (rx 3)]) ∈ news ∧ ∀ k, k < 4 → RecAt P news (rx k) (recUs r k) [host (r k)]
theorem RecsAt.mono {P : Params} {news news' : List (Addr × Obj)} {R : Addr} {rx : Nat → Addr} {r : Nat → Row} (h : RecsAt P news R rx r) (hs : ∀ p ∈ news, p ∈ news') : RecsAt P news' R rx r :=
  ⟨hs _ h.1, fun k hk => (h.2 k hk).mono hs⟩
def M3 (P : Params) (s : Shared) (L : Addr) (s' : Shared) : Prop := ∃ h tk m oh oj vj news D a y n r H th R rx,
  s' = { s with heap := h, toks := tk } ∧ St s L h m oh oj news ∧ oh.data = .cell (some (.ref H)) ∧ oj.data = .cell vj ∧ m (rd "rows") = some (.ref D) ∧ m (rd "records") = some (.ref R) ∧ RowsAt news D a y n r ∧ HostsAt news H r th ∧ RecsAt P news R rx r
theorem ent_nocell {P : Params} {x dx u l : Addr} {k : Tok × Tok × Tok × Tok} {vs ws : List Value} {n1 n2 n3 : Nat} : NoCell (EntNews P x dx u l k vs ws n1 n2 n3) := by
  intro p hp v
  simp only [EntNews, List.mem_cons, List.not_mem_nil, or_false] at hp
  rcases hp with rfl | rfl | rfl | rfl <;> exact fun e => Data.noConfusion e
theorem m3_of {P : Params} {s : Shared} {L : Addr} {h : Heap} {tk : Nat} {m : Str → Option Value} {oh oj : Obj} {vj : Option Value} {news : List (Addr × Obj)} {D H R : Addr} {a : Nat → Addr} {y : Nat → List Value} {n : Nat → Nat} {r : Nat → Row} {th : Nat → Tok} {ys : List Value} {tls : List (Addr × Obj)}
    (F : Fr s.heap L h (fun z => if z = rd "records" then some (.ref R) else m z)) (N : News s.heap L h ((R, listOf ys.toArray ys.length) :: (tls ++ ((L + 1, oh) :: (L + 1 + 1, oj) :: news)))) (hl : ys.length = 4) (hm : Made (RelRec P r) 0 ys tls) (nc : NoCell news) (d1 : oh.data = .cell (some (.ref H))) (d2 : oj.data = .cell vj) (mr : m (rd "rows") = some (.ref D)) (RA : RowsAt news D a y n r) (HA : HostsAt news H r th) : M3 P s L { s with heap := h, toks := tk } := by
  obtain ⟨y', t, rfl, hr, ht⟩ := made4 hm hl
  have g0 := hr 0 (by decide)
  have g1 := hr 1 (by decide)
  have g2 := hr 2 (by decide)
  have g3 := hr 3 (by decide)
  have q0 := ht 0 (by decide)
  have q1 := ht 1 (by decide)
  have q2 := ht 2 (by decide)
  have q3 := ht 3 (by decide)
  obtain ⟨x0, dx0, u0, l0, k0, vs0, ws0, n10, n20, n30, e0, f0, c0, b0⟩ := g0
  obtain ⟨x1, dx1, u1, l1, k1, vs1, ws1, n11, n21, n31, e1, f1, c1, b1⟩ := g1
  obtain ⟨x2, dx2, u2, l2, k2, vs2, ws2, n12, n22, n32, e2, f2, c2, b2⟩ := g2
  obtain ⟨x3, dx3, u3, l3, k3, vs3, ws3, n13, n23, n33, e3, f3, c3, b3⟩ := g3
  rw [e0, e1, e2, e3] at N
  rw [f0] at q0
  rw [f1] at q1
  rw [f2] at q2
  rw [f3] at q3
  refine ⟨h, tk, _, oh, oj, vj, (R, LCg.lst [.ref x0, .ref x1, .ref x2, .ref x3]) :: ((EntNews P x0 dx0 u0 l0 k0 vs0 ws0 n10 n20 n30 ++ (EntNews P x1 dx1 u1 l1 k1 vs1 ws1 n11 n21 n31 ++ (EntNews P x2 dx2 u2 l2 k2 vs2 ws2 n12 n22 n32 ++ EntNews P x3 dx3 u3 l3 k3 vs3 ws3 n13 n23 n33))) ++ news), D, a, y, n, r, H, th, R, pick4 x0 x1 x2 x3, rfl,
    St.of F N (List.mem_cons_of_mem _ (List.mem_append_right _ List.mem_cons_self)) (List.mem_cons_of_mem _ (List.mem_append_right _ (List.mem_cons_of_mem _ List.mem_cons_self))) ?_ ?_, d1, d2, (if_neg (by decide)).trans mr, if_pos rfl, RA.mono ?_, ?_, List.mem_cons_self, below4 ?_ ?_ ?_ ?_⟩
  · intro p hp
    rcases List.mem_cons.mp hp with rfl | hp
    · exact List.mem_cons_self
    · refine List.mem_cons_of_mem _ ?_
      rcases List.mem_append.mp hp with hp | hp
      · refine List.mem_append_left _ ?_
        rcases List.mem_append.mp hp with hp | hp
        · exact q0 p hp
        · rcases List.mem_append.mp hp with hp | hp
          · exact q1 p hp
          · rcases List.mem_append.mp hp with hp | hp
            · exact q2 p hp
            · exact q3 p hp
      · exact List.mem_append_right _ (List.mem_cons_of_mem _ (List.mem_cons_of_mem _ hp))
  · exact (((ent_nocell.append (ent_nocell.append (ent_nocell.append ent_nocell))).append nc).cons fun v e => Data.noConfusion e)
  · exact fun p hp => List.mem_cons_of_mem _ (List.mem_append_right _ hp)
  · exact List.mem_cons_of_mem _ (List.mem_append_right _ HA)
  · exact ⟨dx0, u0, l0, k0, vs0, ws0, n10, n20, n30, fun p hp => List.mem_cons_of_mem _ (List.mem_append_left _ (List.mem_append_left _ hp)), c0, b0⟩
  · exact ⟨dx1, u1, l1, k1, vs1, ws1, n11, n21, n31, fun p hp => List.mem_cons_of_mem _ (List.mem_append_left _ (List.mem_append_right _ (List.mem_append_left _ hp))), c1, b1⟩
  · exact ⟨dx2, u2, l2, k2, vs2, ws2, n12, n22, n32, fun p hp => List.mem_cons_of_mem _ (List.mem_append_left _ (List.mem_append_right _ (List.mem_append_right _ (List.mem_append_left _ hp)))), c2, b2⟩
  · exact ⟨dx3, u3, l3, k3, vs3, ws3, n13, n23, n33, fun p hp => List.mem_cons_of_mem _ (List.mem_append_left _ (List.mem_append_right _ (List.mem_append_right _ (List.mem_append_right _ hp)))), c3, b3⟩
end Mine
namespace Mine
theorem calm26 : True := by
  w_top off
  first
    | (walk1; trivial)
    | trivial
end Mine
namespace Mine
abbrev tupO (p q : Int) (t u : Tok) : Obj := { cls := .type "tuple", data := .seq #[.int p t, .int q u] }
def pI : Nat → Nat
  | 0 => 0
  | 1 => 0
  | 2 => 1
  | 3 => 0
  | 4 => 1
  | _ => 2
def pJ : Nat → Nat
  | 0 => 1
  | 1 => 2
  | 2 => 2
  | _ => 3
def PairsAt (news : List (Addr × Obj)) (PL : Addr) (tp : Nat → Addr) (t1 t2 : Nat → Tok) : Prop :=
  (PL, LCg.lst [.ref (tp 0), .ref (tp 1), .ref (tp 2), .ref (tp 3), .ref (tp 4), .ref (tp 5)]) ∈ news ∧ ∀ k, k < 6 → (tp k, tupO (pI k) (pJ k) (t1 k) (t2 k)) ∈ news
theorem PairsAt.mono {news news' : List (Addr × Obj)} {PL : Addr} {tp : Nat → Addr} {t1 t2 : Nat → Tok} (h : PairsAt news PL tp t1 t2) (hs : ∀ p ∈ news, p ∈ news') : PairsAt news' PL tp t1 t2 := ⟨hs _ h.1, fun k hk => hs _ (h.2 k hk)⟩
def RelPair (i j : Nat) (z : Value) (tl : List (Addr × Obj)) : Prop := ∃ a t u, z = .ref a ∧ tl = [(a, tupO (j : Nat) (i : Nat) t u)]
def cntP (i : Nat) : Nat := min i 10
theorem MadeM.inv {Rel : Nat → Nat → Value → List (Addr × Obj) → Prop} {cnt : Nat → Nat} {i : Nat} {zs : List Value} {tls : List (Addr × Obj)} (h : MadeM Rel cnt (i + 1) zs tls) :
    ∃ zs1 zs2 tl1 tl2, zs = zs1 ++ zs2 ∧ tls = tl2 ++ tl1 ∧ MadeM Rel cnt i zs1 tl1 ∧ Made (Rel i) 0 zs2 tl2 ∧ zs2.length = cnt i := by
  cases h with
  | succ a b c => exact ⟨_, _, _, _, rfl, rfl, a, b, c⟩
theorem MadeM.inv0 {Rel : Nat → Nat → Value → List (Addr × Obj) → Prop} {cnt : Nat → Nat} {zs : List Value} {tls : List (Addr × Obj)} (h : MadeM Rel cnt 0 zs tls) : zs = [] ∧ tls = [] := by
  cases h
  exact ⟨rfl, rfl⟩
theorem Made.inv0 {Rel : Nat → Value → List (Addr × Obj) → Prop} {i : Nat} {tls : List (Addr × Obj)} (h : Made Rel i [] tls) : tls = [] := by
  cases h
  rfl
theorem len1 {ys : List Value} (hl : ys.length = 1) : ∃ a, ys = [a] := by
  cases ys with
  | nil => cases hl
  | cons a ys =>
    cases ys with
    | nil => exact ⟨a, rfl⟩
    | cons _ _ => simp at hl
theorem len2 {ys : List Value} (hl : ys.length = 2) : ∃ a b, ys = [a, b] := by
  cases ys with
  | nil => cases hl
  | cons a ys =>
    obtain ⟨b, rfl⟩ := len1 (ys := ys) (by simpa using hl)
    exact ⟨a, b, rfl⟩
theorem len3 {ys : List Value} (hl : ys.length = 3) : ∃ a b c, ys = [a, b, c] := by
  cases ys with
  | nil => cases hl
  | cons a ys =>
    obtain ⟨b, c, rfl⟩ := len2 (ys := ys) (by simpa using hl)
    exact ⟨a, b, c, rfl⟩
def pick6 {α : Type} (a b c d e f : α) : Nat → α
  | 0 => a
  | 1 => b
  | 2 => c
  | 3 => d
  | 4 => e
  | _ => f
theorem below6 {P : Nat → Prop} (h0 : P 0) (h1 : P 1) (h2 : P 2) (h3 : P 3) (h4 : P 4) (h5 : P 5) : ∀ k, k < 6 → P k
  | 0, _ => h0
  | 1, _ => h1
  | 2, _ => h2
  | 3, _ => h3
  | 4, _ => h4
  | 5, _ => h5
  | _ + 6, h => absurd h (by omega)
theorem pairs_of {zs : List Value} {tls : List (Addr × Obj)} (h : MadeM RelPair cntP 4 zs tls) : ∃ (tp : Nat → Addr) (t1 t2 : Nat → Tok), zs = [.ref (tp 0), .ref (tp 1), .ref (tp 2), .ref (tp 3), .ref (tp 4), .ref (tp 5)] ∧ (∀ k, k < 6 → (tp k, tupO (pI k) (pJ k) (t1 k) (t2 k)) ∈ tls) ∧ NoCell tls := by
  obtain ⟨z3, y3, s3, r3, rfl, rfl, h, g3, l3⟩ := h.inv
  obtain ⟨z2, y2, s2, r2, rfl, rfl, h, g2, l2⟩ := h.inv
  obtain ⟨z1, y1, s1, r1, rfl, rfl, h, g1, l1⟩ := h.inv
  obtain ⟨z0, y0, s0, r0, rfl, rfl, h, g0, l0⟩ := h.inv
  obtain ⟨rfl, rfl⟩ := h.inv0
  obtain rfl : y0 = [] := List.length_eq_zero_iff.mp l0
  obtain rfl := g0.inv0
  obtain ⟨a, rfl⟩ := len1 l1
  obtain ⟨b, c, rfl⟩ := len2 l2
  obtain ⟨d, e, f, rfl⟩ := len3 l3
  obtain ⟨ta, q1, rfl, ha, g1⟩ := g1.inv
  obtain rfl := g1.inv0
  obtain ⟨tb, q2, rfl, hb, g2⟩ := g2.inv
  obtain ⟨tc, q2, rfl, hc, g2⟩ := g2.inv
  obtain rfl := g2.inv0
  obtain ⟨td, q3, rfl, hd, g3⟩ := g3.inv
  obtain ⟨te, q3, rfl, he, g3⟩ := g3.inv
  obtain ⟨tf, q3, rfl, hf, g3⟩ := g3.inv
  obtain rfl := g3.inv0
  obtain ⟨aa, ta1, ta2, rfl, rfl⟩ := ha
  obtain ⟨ab, tb1, tb2, rfl, rfl⟩ := hb
  obtain ⟨ac, tc1, tc2, rfl, rfl⟩ := hc
  obtain ⟨ad, td1, td2, rfl, rfl⟩ := hd
  obtain ⟨ae, te1, te2, rfl, rfl⟩ := he
  obtain ⟨af, tf1, tf2, rfl, rfl⟩ := hf
  refine ⟨pick6 aa ab ac ad ae af, pick6 ta1 tb1 tc1 td1 te1 tf1, pick6 ta2 tb2 tc2 td2 te2 tf2, rfl, below6 ?_ ?_ ?_ ?_ ?_ ?_, ?_⟩
  · simp [pick6, pI, pJ]
  · simp [pick6, pI, pJ]
  · simp [pick6, pI, pJ]
  · simp [pick6, pI, pJ]
  · simp [pick6, pI, pJ]
  · simp [pick6, pI, pJ]
  · intro p hp v
    simp only [List.nil_append, List.append_nil, List.cons_append, List.mem_cons, List.not_mem_nil, or_false] at hp
    rcases hp with rfl | rfl | rfl | rfl | rfl | rfl <;> exact fun e => Data.noConfusion e
def M4 (P : Params) (s : Shared) (L : Addr) (s' : Shared) : Prop := ∃ h tk m oh oj vj news D a y n r H th R rx PL tp t1 t2,
  s' = { s with heap := h, toks := tk } ∧ St s L h m oh oj news ∧ oh.data = .cell (some (.ref H)) ∧ oj.data = .cell vj ∧ m (rd "rows") = some (.ref D) ∧ m (rd "records") = some (.ref R) ∧ m (rd "pairs") = some (.ref PL) ∧ RowsAt news D a y n r ∧ HostsAt news H r th ∧ RecsAt P news R rx r ∧ PairsAt news PL tp t1 t2
theorem m4_of {P : Params} {s : Shared} {L : Addr} {h : Heap} {tk : Nat} {m : Str → Option Value} {oh oj : Obj} {vj : Option Value} {news : List (Addr × Obj)} {D H R PL : Addr} {a : Nat → Addr} {y : Nat → List Value} {n : Nat → Nat} {r : Nat → Row} {th : Nat → Tok} {rx : Nat → Addr} {o : Obj} {zs : List Value} {tls : List (Addr × Obj)}
    (F : Fr s.heap L h (fun z => if z = rd "pairs" then some (.ref PL) else m z)) (N : News s.heap L h ((PL, o) :: (tls ++ ((L + 1, oh) :: (L + 1 + 1, oj) :: news)))) (ho : ListO zs o) (hm : MadeM RelPair cntP 4 zs tls) (nc : NoCell news) (d1 : oh.data = .cell (some (.ref H))) (d2 : oj.data = .cell vj) (mr : m (rd "rows") = some (.ref D)) (mR : m (rd "records") = some (.ref R)) (RA : RowsAt news D a y n r) (HA : HostsAt news H r th) (GA : RecsAt P news R rx r) : M4 P s L { s with heap := h, toks := tk } := by
  obtain ⟨tp, t1, t2, rfl, hp, nt⟩ := pairs_of hm
  rw [show o = _ from ho] at N
  refine ⟨h, tk, _, oh, oj, vj, (PL, LCg.lst _) :: (tls ++ news), D, a, y, n, r, H, th, R, rx, PL, tp, t1, t2, rfl, St.of F N (List.mem_cons_of_mem _ (List.mem_append_right _ List.mem_cons_self)) (List.mem_cons_of_mem _ (List.mem_append_right _ (List.mem_cons_of_mem _ List.mem_cons_self))) ?_ ?_, d1, d2, (if_neg (by decide)).trans mr, (if_neg (by decide)).trans mR, if_pos rfl, RA.mono ?_, ?_, GA.mono ?_, List.mem_cons_self, fun k hk => List.mem_cons_of_mem _ (List.mem_append_left _ (hp k hk))⟩
  · intro p hp
    rcases List.mem_cons.mp hp with rfl | hp
    · exact List.mem_cons_self
    · refine List.mem_cons_of_mem _ ?_
      rcases List.mem_append.mp hp with hp | hp
      · exact List.mem_append_left _ hp
      · exact List.mem_append_right _ (List.mem_cons_of_mem _ (List.mem_cons_of_mem _ hp))
  · exact ((nt.append nc).cons fun v e => Data.noConfusion e)
  · exact fun p hp => List.mem_cons_of_mem _ (List.mem_append_right _ hp)
  · exact List.mem_cons_of_mem _ (List.mem_append_right _ HA)
  · exact fun p hp => List.mem_cons_of_mem _ (List.mem_append_right _ hp)
end Mine
namespace Mine
theorem calm27 : True := by
  w_top off
  first
    | (walk1; trivial)
    | trivial
end Mine
namespace Mine
section
variable {prog : Program} {w : World} {M : Model} {A : Around} {E : Value → Shared → Prop} {s : Shared} {mg mb m : Str → Option Value} {env : Env} {K : Frag} {p : Program} {loose : List Str} {mean : ExcName → Option Value} {x : Str} {pos : Pos} {v : Value} {Q : Value → Shared → Prop}
theorem eG (X : K.In s.heap) (T : Top p loose mean mg mb s.heap) (e : nsIn K mainGlobals x = some (some v)) (h : Q v s) (hg : env.globals = mainGlobals) (hk : env.scope.kind = .function) (hx : env.kindOf x = some .globalImplicit) (hd : (x == ("__debug__" : Str)) = false) : wpAny M A (eval (.Name x pos) env) Q E s :=
  Name_function_global hk hx (loadGlobal_global (env := env) (show s.heap.Ns env.globals mg from hg ▸ T.g) (mg_of X T.g e) h) hd
theorem eB (X : K.In s.heap) (T : Top p loose mean mg mb s.heap) (e : nsIn K mainGlobals x = some none) (hv : bootBuiltins x = some v) (hn : x ≠ "__name__") (h : Q v s) (hg : env.globals = mainGlobals) (hb : env.builtins = builtinsNs) (hk : env.scope.kind = .function) (hx : env.kindOf x = some .globalImplicit) (hd : (x == ("__debug__" : Str)) = false) : wpAny M A (eval (.Name x pos) env) Q E s :=
  Name_function_global hk hx (loadGlobal_builtin (env := env) (show s.heap.Ns env.globals mg from hg ▸ T.g) (mg_none_of X T.g e) (show s.heap.Ns env.builtins mb from hb ▸ T.b) ((T.builtins x hn).trans hv) h) hd
theorem eL {L : Addr} (F : s.heap.Ns L m) (hv : m x = some v) (h : Q v s) (hL : env.locals = L) (hk : env.scope.kind = .function) (hx : env.kindOf x = some .local) (hd : (x == ("__debug__" : Str)) = false) : wpAny M A (eval (.Name x pos) env) Q E s := wpAny_Name (wpAny_loadName_local hk hx (hL ▸ F) hv h) hd
theorem eC {c : Addr} (e : s.heap.IsCell c (some v)) (h : Q v s) (hc : env.cells.lookup x = some c) (hk : env.scope.kind = .function) (hx : env.kindOf x = some .cell) (hd : (x == ("__debug__" : Str)) = false) : wpAny M A (eval (.Name x pos) env) Q E s := wpAny_Name (wpAny_loadName_cell hk hx hc e h) hd
theorem stL {L : Addr} {Q : Unit → Shared → Prop} (F : s.heap.Ns L m) (hL : env.locals = L) (hx : env.kindOf x = some .local) (hp : (env.scope.kind == .class || (env.scope.kind == .module && env.locals != env.globals)) = false)
    (h : ∀ h' k, h'.Ns L (fun z => if z = x then some v else m z) → Heap.SameBut L s.heap h' → Q () { s with heap := h', toks := k }) : wpAny M A (storeName env x v) Q E s := by
  subst hL
  exact wpAny_storeName_local hx F (fun h' a b => h h' _ a b) hp
theorem asg2 {env : Env} {a b : PySem.Expr} {k : Nat} {pos : Pos} {t : Addr} {i j : Int} {u u' : Tok} {n : Nat} {Q : Unit → Shared → Prop} (hh : A.handled = none) (ht : s.heap.get? t = some ⟨.type "tuple", none, .seq #[.int i u, .int j u'] n, #[]⟩)
    (hn : (assignEach [a, b] env).map (·.2) = [assign a env, assign b env]) (hl : (assignEach [a, b] env).length = 2) (hstar : (assignEach [a, b] env).findIdx? (·.1) = none)
    (h : ∀ h', (∀ b o, s.heap.get? b = some o → h'.get? b = some o) → wpAny (model prog w) A (assign a env (.int i u)) (fun _ s' => wpAny (model prog w) A (assign b env (.int j u')) Q E s') E { s with heap := h' }) :
    wpAny (model prog w) A (assign (.Tuple [a, b] k pos) env (.ref t)) Q E s := by
  refine wpAny_assign_Tuple (items := #[.int i u, .int j u']) hh ⟨_, ht, rfl, n, rfl⟩ hl hstar fun h' hx => ?_
  rw [hn]
  have hk : ∀ b o, s.heap.get? b = some o → h'.get? b = some o := fun b o e => hx b o (Nat.ne_of_lt (Heap.lt_size e)) e
  show wpAny _ _ (do holding [Value.int j u'] (assign a env (.int i u)); assignInOrder [assign b env] [.int j u']) _ _ _
  refine wpAny_bind (wpAny_holding (wpAny_mono (h h' hk) (fun _ s' hs => ?_) fun _ _ e => e))
  show wpAny _ _ (do holding [] (assign b env (.int j u')); assignInOrder [] []) _ _ _
  exact wpAny_bind (wpAny_holding (wpAny_mono hs (fun _ s'' hq => wpAny_pure hq) fun _ _ e => e))
end
theorem attrU {w : World} {A : Around} {E : Value → Shared → Prop} {s : Shared} {x dx u l : Addr} {k : Tok × Tok × Tok × Tok} {n : Nat} {e : Bool} {Q : Value → Shared → Prop} (X : (hd.heap_39 w.params).In s.heap) (h1 : s.heap.get? x = some (instObj 76 dx)) (h2 : s.heap.get? dx = some (dictOf (entD w.params (.ref u) (.ref l) .none .none k.1 k.2.1 k.2.2.1 k.2.2.2) n))
    (h : Q (.ref u) { s with toks := s.toks + 1 }) : wpAny (model PR w) A (getAttr (.ref x) (Str.ofString "useragents") e) Q E s := by
  have GG : PySem.Challenge.rw_re0078_01 = PySem.Challenge.rw_re0078_01 ∧ hd.heap_39 = hd.heap_39 := ⟨rfl, rfl⟩
  revert GG
  k_fill
  intro _
  have hl : getL (Str.ofString "useragents") (entD w.params (.ref u) (.ref l) .none .none k.1 k.2.1 k.2.2.1 k.2.2.2) = some (some (.ref u)) := by k_get
  have I : InstAt s.heap x (instObj 76 dx) 76 (some (dictOf (entD w.params (.ref u) (.ref l) .none .none k.1 k.2.1 k.2.2.1 k.2.2.2) n)) := ⟨h1, rfl, rfl, h2⟩
  k_dflt (refine' get_value X I (plainGet_of (name := Str.ofString "useragents") ?hg).1 (findObj_own (attr := none) ?hh ?ha ?hn hl) rfl h)
  case hg => k_is
  case hh => k_is
  case ha => k_is
  case hn => k_is
theorem attrL {w : World} {A : Around} {E : Value → Shared → Prop} {s : Shared} {x dx u l : Addr} {k : Tok × Tok × Tok × Tok} {n : Nat} {e : Bool} {Q : Value → Shared → Prop} (X : (hd.heap_39 w.params).In s.heap) (h1 : s.heap.get? x = some (instObj 76 dx)) (h2 : s.heap.get? dx = some (dictOf (entD w.params (.ref u) (.ref l) .none .none k.1 k.2.1 k.2.2.1 k.2.2.2) n))
    (h : Q (.ref l) { s with toks := s.toks + 1 }) : wpAny (model PR w) A (getAttr (.ref x) (Str.ofString "rulelines") e) Q E s := by
  have GG : PySem.Challenge.rw_re0078_01 = PySem.Challenge.rw_re0078_01 ∧ hd.heap_39 = hd.heap_39 := ⟨rfl, rfl⟩
  revert GG
  k_fill
  intro _
  have hl : getL (Str.ofString "rulelines") (entD w.params (.ref u) (.ref l) .none .none k.1 k.2.1 k.2.2.1 k.2.2.2) = some (some (.ref l)) := by k_get
  have I : InstAt s.heap x (instObj 76 dx) 76 (some (dictOf (entD w.params (.ref u) (.ref l) .none .none k.1 k.2.1 k.2.2.1 k.2.2.2) n)) := ⟨h1, rfl, rfl, h2⟩
  k_dflt (refine' get_value X I (plainGet_of (name := Str.ofString "rulelines") ?hg).1 (findObj_own (attr := none) ?hh ?ha ?hn hl) rfl h)
  case hg => k_is
  case hh => k_is
  case ha => k_is
  case hn => k_is
theorem EntAt.keeps {P : Params} {h h' : Heap} {x u l : Addr} {us rs : List Str} (e : EntAt P h x u l us rs) (hk : ∀ b o, h.get? b = some o → h'.get? b = some o) : EntAt P h' x u l us rs := by
  obtain ⟨dx, k, vs, ws, n1, n2, n3, h1, h2⟩ := e
  exact ⟨dx, k, vs, ws, n1, n2, n3, fun p hp => hk _ _ (h1 p hp), h2⟩
theorem EntAt.list {P : Params} {h : Heap} {x u l : Addr} {us rs : List Str} (e : EntAt P h x u l us rs) : ∃ vs, h.IsList u vs.toArray ∧ StrsAre vs us := by
  obtain ⟨dx, k, vs, ws, n1, n2, n3, h1, h2, h3⟩ := e
  exact ⟨vs, ⟨_, h1 (u, listOf vs.toArray n2) (by simp [EntNews]), rfl, _, rfl⟩, h2⟩
theorem EntAt.rules {P : Params} {h : Heap} {x u l : Addr} {us rs : List Str} (e : EntAt P h x u l us rs) : ∃ ws, h.IsList l ws.toArray ∧ StrsAre ws rs := by
  obtain ⟨dx, k, vs, ws, n1, n2, n3, h1, h2, h3⟩ := e
  exact ⟨ws, ⟨_, h1 (l, listOf ws.toArray n3) (by simp [EntNews]), rfl, _, rfl⟩, h3⟩
theorem RecAt.ent {P : Params} {g h : Heap} {L x : Addr} {news : List (Addr × Obj)} {us rs : List Str} (R : RecAt P news x us rs) (N : News g L h news) : ∃ u l, EntAt P h x u l us rs := by
  obtain ⟨dx, u, l, k, vs, ws, n1, n2, n3, h1, h2⟩ := R
  exact ⟨u, l, dx, k, vs, ws, n1, n2, n3, fun p hp => (N p (h1 p hp)).1, h2⟩
section
variable {w : World} {A : Around} {E : Value → Shared → Prop} {s : Shared} {Q : Value → Shared → Prop}
theorem entU {x u l : Addr} {us rs : List Str} {e : Bool} (X : (hd.heap_39 w.params).In s.heap) (I : EntAt w.params s.heap x u l us rs) (h : Q (.ref u) { s with toks := s.toks + 1 }) : wpAny (model PR w) A (getAttr (.ref x) (Str.ofString "useragents") e) Q E s := by
  obtain ⟨dx, k, vs, ws, n1, n2, n3, h1, h2⟩ := I
  exact attrU X (h1 (x, instObj 76 dx) (by simp [EntNews])) (h1 (dx, _) (List.mem_cons_of_mem _ List.mem_cons_self)) h
theorem entL {x u l : Addr} {us rs : List Str} {e : Bool} (X : (hd.heap_39 w.params).In s.heap) (I : EntAt w.params s.heap x u l us rs) (h : Q (.ref l) { s with toks := s.toks + 1 }) : wpAny (model PR w) A (getAttr (.ref x) (Str.ofString "rulelines") e) Q E s := by
  obtain ⟨dx, k, vs, ws, n1, n2, n3, h1, h2⟩ := I
  exact attrL X (h1 (x, instObj 76 dx) (by simp [EntNews])) (h1 (dx, _) (List.mem_cons_of_mem _ List.mem_cons_self)) h
end
theorem carried_strs : ∀ {vs : List Value} {ys : List Str}, StrsAre vs ys → CarriedAll vs (ys.map PyData.str)
  | _, _, .nil => .nil
  | _, _, .cons y t r => .cons (.str y t) (carried_strs r)
theorem shaped_strs {ys : List Str} (h : ∀ y ∈ ys, PyData.strOk y = true) : SeqAt.shaped (.list (ys.map PyData.str)) = true := by
  have h1 : PyData.canLayAll0 (ys.map PyData.str) = true := by
    induction ys with
    | nil => rfl
    | cons a r ih => simp [PyData.canLayAll0, PyData.canLay0, h a (by simp), ih fun y hy => h y (by simp [hy])]
  have h2 : PyData.depthAll (ys.map PyData.str) = 0 := by
    clear h h1
    induction ys with
    | nil => rfl
    | cons a r ih => simp [PyData.depthAll, PyData.depth, ih]
  simp [SeqAt.shaped, PyData.canLay0, PyData.depth, h1, h2]
theorem same_strs : ∀ ys : List Str, PySem.Spec.sameAll (ys.map PyData.str) (ys.map PyData.str) = true
  | [] => by simp [PySem.Spec.sameAll]
  | a :: r => by simp [PySem.Spec.sameAll, PySem.Spec.same, same_strs r]
section
variable {prog : Program} {w : World} {A : Around} {E : Value → Shared → Prop} {s : Shared} {a b : Addr} {xs ys : List Value} {us : List Str} {Q : Value → Shared → Prop}
theorem eqStrs (ha : s.heap.IsList a xs.toArray) (hb : s.heap.IsList b ys.toArray) (hi : StrsAre xs us) (hj : StrsAre ys us) (ho : ∀ y ∈ us, PyData.strOk y = true) (hu : A.units + 64 < cLine) (h : Q (.bool true) s) :
    wpAny (model prog w) A (compareOp .Eq (.ref a) (.ref b)) Q E s :=
  eq_dataH_same (reads_newData ha (carried_strs hi)) (reads_newData hb (carried_strs hj)) (shaped_strs ho) (shaped_strs ho) hu (SeqAt.noMix_of_shape (.list .str) rfl _ _ (list_map_has fun _ => rfl) (list_map_has fun _ => rfl)) (by
    have e : PySem.Spec.same (.list (us.map PyData.str)) (.list (us.map PyData.str)) = true := by simp only [PySem.Spec.same]; exact same_strs us
    rw [e]; exact h)
theorem neStrs (ha : s.heap.IsList a xs.toArray) (hb : s.heap.IsList b ys.toArray) (hi : StrsAre xs us) (hj : StrsAre ys us) (ho : ∀ y ∈ us, PyData.strOk y = true) (hu : A.units + 64 < cLine) (h : Q (.bool false) s) :
    wpAny (model prog w) A (compareOp .NotEq (.ref a) (.ref b)) Q E s :=
  ne_dataH_same (reads_newData ha (carried_strs hi)) (reads_newData hb (carried_strs hj)) (shaped_strs ho) (shaped_strs ho) hu (SeqAt.noMix_of_shape (.list .str) rfl _ _ (list_map_has fun _ => rfl) (list_map_has fun _ => rfl)) (by
    have e : PySem.Spec.same (.list (us.map PyData.str)) (.list (us.map PyData.str)) = true := by simp only [PySem.Spec.same]; exact same_strs us
    rw [e]; exact h)
end
end Mine
namespace Mine
theorem calm28 : True := by
  w_top off
  first
    | (walk1; trivial)
    | trivial
end Mine
namespace Mine
theorem paired_eq : ∀ {vs ys : List Value}, Paired (fun v y => y = v) vs ys → ys = vs
  | _, _, .nil => rfl
  | _, _, .cons h t => by rw [h, paired_eq t]
section
variable {prog : Program} {w : World} {A : Around} {E : Value → Shared → Prop} {s : Shared} {env : Env}
/-- [x for x in its if test], the items kept by p -/
theorem filt {iter c : PySem.Expr} {x : Str} {px pe : Pos} {scope : Scope} {cl : List (Str × Addr)} {pos : Pos} {its : Array Value} {Q : Value → Shared → Prop} (p : Value → Bool) (hh : A.handled = none)
    (hclos : closureFor scope env = pure cl) (hcell : ∀ z ∈ scope.names, z.2 ≠ .cell) (hkind : scope.kind = .function)
    (hnames : ∀ z ∈ scope.names, z.2 = .local → scope.names.lookup z.1 = some .local) (hx : scope.names.lookup x = some .local) (hd : (x == ("__debug__" : Str)) = false)
    (hs : ∀ x, foldedSetIterable iter env x = pure x) (hz : its.size ≤ 1000)
    (hiter : wpAny (model prog w) A (eval iter env) (fun xv s₁ => Stop (∃ ax, xv = .ref ax ∧ Keeps s s₁ ∧ s₁.heap.IsList ax its)) E s)
    (test : ∀ v s₃ C m₃ E', v ∈ its.toList → s₃.heap.Ns C m₃ → m₃ x = some v → (∀ b o, s.heap.get? b = some o → s₃.heap.get? b = some o) →
      wpAny (model prog w) A (isTrue c (compEnvC scope cl C env) (eval c (compEnvC scope cl C env))) (fun ok s₄ => ok = p v ∧ Keeps s₃ s₄) E' s₃)
    (hQ : ∀ D h' tk, h'.IsList D (its.toList.filter p).toArray → (∀ b o, s.heap.get? b = some o → h'.get? b = some o) → Q (.ref D) { s with heap := h', toks := tk }) :
    wpAny (model prog w) A (eval (.ListComp (.Name x pe) [⟨.Name x px, iter, [c], 0⟩] scope pos) env) Q E s := by
  refine wpAny_ListComp_free p (fun v y => y = v) hclos hcell hkind hnames hx (wpAny_mono hiter (fun xv s₁ q => ?_) fun _ _ e => e) hs
  obtain ⟨ax, rfl, ⟨h1, tk1, rfl, k1⟩, hl⟩ := q.out
  have hlt : ax < h1.objs.size := by obtain ⟨_, e, _⟩ := hl; exact Heap.lt_size e
  refine wpAny_pyIter_list hl ?_
  refine ⟨_, _, _, its.size, _, _, rfl, Walks.list hh h1.objs.size ax (Nat.ne_of_lt hlt) its, Nat.le_trans hz (by decide), ⟨⟨_, Heap.get?_push_size _ rfl, rfl, rfl⟩, hl.push _⟩, ?_, ⟨?_, ?_⟩, ?_⟩
  · intro b hb
    show b < (h1.push _).objs.size
    rw [Heap.size_push]
    rcases List.mem_cons.mp hb with rfl | hb
    · exact Nat.lt_succ_self _
    · rw [List.mem_singleton.mp hb]; exact Nat.lt_succ_of_lt hlt
  · intro C i v s₃ m₃ E' hC hP hn hm hk3 htk
    refine wpAny_tests_one (test v s₃ C m₃ E' (by rw [← Array.getElem?_toList] at hP; exact List.mem_of_getElem? hP) hn hm fun b o e => ?_)
    have e1 := k1 b o e
    exact hk3 b o (fun q => by rw [List.mem_singleton.mp q] at e1; exact Nat.lt_irrefl _ (Heap.lt_size e1)) (Heap.get?_push_of_some _ e1)
  · intro C i v s₃ m₃ E' hC hP _ hn hm hk3 htk
    exact ldVarK hn hm ⟨rfl, _, _, rfl, fun _ _ e => e⟩ hkind (lookup_relabel_local hx) hd
  · intro D h2 tk2 ys vs hD hl2 hpl hlen hP hF hk2
    have e1 : ys.toList = vs.filter p := paired_eq hF
    have e2 : vs = its.toList := by
      apply List.ext_getElem?
      intro j
      cases q : vs[j]? with
      | none =>
        have : its.toList.length ≤ j := by rw [Array.length_toList, ← hlen]; exact List.getElem?_eq_none_iff.mp q
        exact (List.getElem?_eq_none_iff.mpr this).symm
      | some v => rw [Array.getElem?_toList]; exact (hP j v q).symm
    have e3 : ys = (its.toList.filter p).toArray := by rw [← e2, ← e1]
    rw [e3] at hl2
    refine hQ D h2 tk2 hl2 fun b o e => ?_
    have e1 := k1 b o e
    exact hk2 b o (fun q => by rw [List.mem_singleton.mp q] at e1; exact Nat.lt_irrefl _ (Heap.lt_size e1)) (Heap.get?_push_of_some _ e1)
/-- a for over a list by what holds between the turns; `mt`: what a turn may change -/
theorem forL {target iter : PySem.Expr} {body : List Stmt} {pos : Pos} {its : Array Value} {Q : Flow → Shared → Prop} (J : Nat → Nat → Shared → Prop) (mt : List Addr) (hh : A.handled = none) (hE : E = fun _ _ => False)
    (hs : ∀ x, foldedSetIterable iter env x = pure x)
    (hiter : wpAny (model prog w) A (eval iter env) (fun xv s₁ => Stop (∃ ax, xv = .ref ax ∧ s₁.heap.IsList ax its ∧ ax ∉ mt ∧ (∀ b ∈ mt, b < s₁.heap.objs.size) ∧ J s₁.heap.objs.size 0 s₁)) E s)
    (stable : ∀ N i (s' : Shared) h tk, J N i s' → (∀ b o, b ≠ N → s'.heap.get? b = some o → h.get? b = some o) → J N i { s' with heap := h, toks := tk })
    (step : ∀ N i v s₁, i < its.size → its[i]? = some v → J N i s₁ → (∃ o, s₁.heap.get? N = some o) → wpAny (model prog w) A (assign target env v) (fun _ s₂ => wpAny (model prog w) A (execs body env)
      (fun fl s₃ => Stop (fl = .next ∧ J N (i + 1) s₃ ∧ ∀ b o, b ∉ mt → s₁.heap.get? b = some o → s₃.heap.get? b = some o)) E s₂) E s₁)
    (hQ : ∀ N s', J N its.size s' → Q .next s') :
    wpAny (model prog w) A (exec (.For target iter body [] pos) env) Q E s := by
  subst hE
  refine wpAny_For (wpAny_mono hiter (fun xv s₁ q => ?_) fun _ _ e => e) hs
  obtain ⟨ax, rfl, hl, hax, hmt, hJ⟩ := q.out
  have hlt : ax < s₁.heap.objs.size := by obtain ⟨_, e, _⟩ := hl; exact Heap.lt_size e
  refine wpAny_pyIter_list hl ?_
  have hI : s₁.heap.objs.size ∉ mt := fun hm => Nat.lt_irrefl _ (hmt _ hm)
  have W := Walks.list (prog := prog) (w := w) hh s₁.heap.objs.size ax (Nat.ne_of_lt hlt) its
  refine codeAny_forLoop_any (fun k s' => ∃ i, i ≤ its.size ∧ k = its.size + 1 - i ∧ (s'.heap.IsListIter s₁.heap.objs.size ax i ∧ s'.heap.IsList ax its) ∧ J s₁.heap.objs.size i s') ?_ (its.size + 1)
    ⟨0, Nat.zero_le _, rfl, ⟨⟨_, Heap.get?_push_size _ rfl, rfl, rfl⟩, hl.push _⟩, stable _ 0 s₁ _ s₁.toks hJ fun b o _ e => Heap.get?_push_of_some _ e⟩
  rintro k s' ⟨i, hi, rfl, hst, hJ'⟩
  have nI : ∀ b, b ≠ s₁.heap.objs.size → b ∉ [s₁.heap.objs.size] := fun b hb q => hb (List.mem_singleton.mp q)
  by_cases hlt' : i < its.size
  · refine W.item i _ _ _ hlt' hst fun v h₁ tk₁ hP hst₁ hk₁ => ?_
    have hJ1 := stable _ i s' h₁ tk₁ hJ' fun b o hb e => hk₁ b o (nI b hb) e
    refine letGo_listiter hst₁.1 ?_
    refine wpAny_mono (step _ i v _ hlt' hP hJ1 (by obtain ⟨o, e, _⟩ := hst₁.1; exact ⟨o, e⟩)) (fun _ s₂ h₂ => wpAny_mono h₂ (fun fl s₃ h₃ => ?_) fun _ _ f => f.elim) fun _ _ f => f.elim
    obtain ⟨rfl, hJ3, hk3⟩ := h₃.out
    refine ⟨its.size + 1 - (i + 1), by omega, i + 1, hlt', rfl, ⟨hst₁.1.at fun o e => hk3 _ o hI e, hst₁.2.at fun o e => hk3 _ o hax e⟩, hJ3⟩
  · obtain rfl : i = its.size := Nat.le_antisymm hi (Nat.not_lt.mp hlt')
    refine W.done _ _ _ hst fun h₁ tk₁ hk₁ => wpAny_execs_nil ?_
    exact hQ _ _ (stable _ _ s' h₁ tk₁ hJ' fun b o hb e => hk₁ b o (nI b hb) e)
end
theorem St.keeps {s₀ : Shared} {L : Addr} {h h' : Heap} {m : Str → Option Value} {oh oj : Obj} {news : List (Addr × Obj)} (S : St s₀ L h m oh oj news) (hk : ∀ b o, h.get? b = some o → h'.get? b = some o) : St s₀ L h' m oh oj news :=
  ⟨S.F.keeps hk, S.Nh.grown hk, S.Nj.grown hk, S.N.grown hk, S.nc⟩
theorem news_set {s₀ : Shared} {L : Addr} {h h' : Heap} {news : List (Addr × Obj)} (N : News s₀.heap L h news) (hs : Heap.SameBut L h h') : News s₀.heap L h' news := fun p hp => ⟨hs.extBut _ _ (N p hp).2.1 (N p hp).1, (N p hp).2⟩
theorem St.setL {s₀ : Shared} {L : Addr} {h h' : Heap} {m m' : Str → Option Value} {oh oj : Obj} {news : List (Addr × Obj)} (S : St s₀ L h m oh oj news) (hn : h'.Ns L m') (hs : Heap.SameBut L h h') : St s₀ L h' m' oh oj news :=
  ⟨S.F.set hn hs, news_set S.Nh hs, news_set S.Nj hs, news_set S.N hs, S.nc⟩
/-- the frame's addresses below N -/
def Below4 (L : Addr) (news : List (Addr × Obj)) (N : Nat) : Prop := L + 1 + 1 < N ∧ ∀ p ∈ news, p.1 < N
theorem St.stable {s₀ : Shared} {L : Addr} {h h' : Heap} {m : Str → Option Value} {oh oj : Obj} {news : List (Addr × Obj)} {N : Nat} (S : St s₀ L h m oh oj news) (B : Below4 L news N) (hk : ∀ b o, b < N → h.get? b = some o → h'.get? b = some o) : St s₀ L h' m oh oj news := by
  have hL : @LT.lt Nat _ L N := Nat.lt_of_succ_lt (Nat.lt_of_succ_lt B.1)
  have hb : ∀ b o, s₀.heap.get? b = some o → b < N := fun b o e => Nat.lt_of_lt_of_le (Heap.lt_size e) (Nat.le_trans S.F.above (Nat.le_of_lt hL))
  refine ⟨⟨S.F.ns.at' fun o e => hk L o hL e, fun b o e => hk b o (hb b o e) (S.F.keep b o e), S.F.above⟩, ?_, ?_, fun p hp => ⟨hk _ _ (B.2 p hp) (S.N p hp).1, (S.N p hp).2⟩, S.nc⟩
  · intro p hp; rw [List.mem_singleton.mp hp]
    have z := S.Nh _ List.mem_cons_self
    exact ⟨hk _ _ (Nat.lt_of_succ_lt B.1) z.1, z.2⟩
  · intro p hp; rw [List.mem_singleton.mp hp]
    have z := S.Nj _ List.mem_cons_self
    exact ⟨hk _ _ B.1 z.1, z.2⟩
def both (r : Nat → Row) (i j : Nat) : List Str := (recUs r i).filter ((recUs r j).contains ·)
def Wt (r : Nat → Row) (k : Nat) : Nat := (both r (pI k) (pJ k)).length
def J6 (s₀ : Shared) (L : Addr) (oh : Obj) (news : List (Addr × Obj)) (SH D R PL : Addr) (r : Nat → Row) (N i : Nat) (s' : Shared) : Prop := ∃ h tk m oj vj its n,
  s' = { s₀ with heap := h, toks := tk } ∧ St s₀ L h m oh oj ((SH, listOf its n) :: news) ∧ oj.data = .cell vj ∧ (m (rd "rows") = some (.ref D) ∧ m (rd "records") = some (.ref R) ∧ m (rd "pairs") = some (.ref PL) ∧ m (rd "shared") = some (.ref SH)) ∧
  its.size = i ∧ (∀ k, k < i → ∃ t, its[k]? = some (.int (Wt r k) t)) ∧ L + 1 + 1 < N ∧ SH < N ∧ (∀ p ∈ news, p.1 < N)
theorem J6.stable {s₀ : Shared} {L : Addr} {oh : Obj} {news : List (Addr × Obj)} {SH D R PL : Addr} {r : Nat → Row} (N i : Nat) (s' : Shared) (h : Heap) (tk : Nat) (x : J6 s₀ L oh news SH D R PL r N i s') (hk' : ∀ b o, b ≠ N → s'.heap.get? b = some o → h.get? b = some o) : J6 s₀ L oh news SH D R PL r N i { s' with heap := h, toks := tk } := by
  have hk : ∀ b o, b < N → s'.heap.get? b = some o → h.get? b = some o := fun b o hb e => hk' b o (Nat.ne_of_lt hb) e
  obtain ⟨h1, tk1, m, oj, vj, its, n, rfl, S, d, mm, z, hit, B, b2, b3⟩ := x
  refine ⟨h, tk, m, oj, vj, its, n, rfl, S.stable ⟨B, fun p hp => ?_⟩ hk, d, mm, z, hit, B, b2, b3⟩
  rcases List.mem_cons.mp hp with rfl | hp
  · exact b2
  · exact b3 p hp
/-- the head of the ledger is stored into -/
theorem St.upd {s₀ : Shared} {L D : Addr} {h h' : Heap} {m : Str → Option Value} {oh oj o o' : Obj} {vh vj : Option Value} {news : List (Addr × Obj)} (S : St s₀ L h m oh oj ((D, o) :: news)) (dh : oh.data = .cell vh) (dj : oj.data = .cell vj) (ne : ∀ p ∈ news, p.1 ≠ D) (hs : Heap.SameBut D h h') (ho : h'.get? D = some o') (no : ∀ v, o'.data ≠ .cell v) : St s₀ L h' m oh oj ((D, o') :: news) := by
  have q := S.N _ List.mem_cons_self
  refine ⟨S.F.change hs q.2.1 q.2.2, ?_, ?_, ?_, NoCell.cons (fun p hp => S.nc p (List.mem_cons_of_mem _ hp)) no⟩
  · intro p hp; rw [List.mem_singleton.mp hp]
    have z := S.Nh _ List.mem_cons_self
    exact ⟨hs.extBut _ _ (S.ne_h dh _ List.mem_cons_self).symm z.1, z.2⟩
  · intro p hp; rw [List.mem_singleton.mp hp]
    have z := S.Nj _ List.mem_cons_self
    exact ⟨hs.extBut _ _ (S.ne_j dj _ List.mem_cons_self).symm z.1, z.2⟩
  · intro p hp
    rcases List.mem_cons.mp hp with rfl | hp
    · exact ⟨ho, q.2⟩
    · have z := S.N p (List.mem_cons_of_mem _ hp)
      exact ⟨hs.extBut _ _ (ne p hp) z.1, z.2⟩
/-- a record that is newer than g -/
def EntNew (P : Params) (g h : Heap) (x u l : Addr) (us rs : List Str) : Prop :=
  ∃ dx k vs ws n1 n2 n3, (∀ p ∈ EntNews P x dx u l k vs ws n1 n2 n3, h.get? p.1 = some p.2 ∧ g.get? p.1 = none) ∧ StrsAre vs us ∧ StrsAre ws rs
theorem EntNew.ent {P : Params} {g h : Heap} {x u l : Addr} {us rs : List Str} (e : EntNew P g h x u l us rs) : EntAt P h x u l us rs := by
  obtain ⟨dx, k, vs, ws, n1, n2, n3, h1, h2⟩ := e
  exact ⟨dx, k, vs, ws, n1, n2, n3, fun p hp => (h1 p hp).1, h2⟩
theorem EntNew.keeps {P : Params} {g h h' : Heap} {x u l : Addr} {us rs : List Str} (e : EntNew P g h x u l us rs) (hk : ∀ b o, h.get? b = some o → h'.get? b = some o) : EntNew P g h' x u l us rs := by
  obtain ⟨dx, k, vs, ws, n1, n2, n3, h1, h2⟩ := e
  exact ⟨dx, k, vs, ws, n1, n2, n3, fun p hp => ⟨hk _ _ (h1 p hp).1, (h1 p hp).2⟩, h2⟩
theorem EntNew.set {P : Params} {g h h' : Heap} {x u l c : Addr} {us rs : List Str} (e : EntNew P g h x u l us rs) {o : Obj} (hc : g.get? c = some o) (hs : Heap.SameBut c h h') : EntNew P g h' x u l us rs := by
  obtain ⟨dx, k, vs, ws, n1, n2, n3, h1, h2⟩ := e
  refine ⟨dx, k, vs, ws, n1, n2, n3, fun p hp => ⟨hs.extBut _ _ (fun q => ?_) (h1 p hp).1, (h1 p hp).2⟩, h2⟩
  have := (h1 p hp).2
  rw [q, hc] at this; cases this
theorem mergeN {w : World} {A : Around} {E : Value → Shared → Prop} {s : Shared} {Q : Value → Shared → Prop} {mean : ExcName → Option Value} {mg mb : Str → Option Value} {p : Program} {loose : List Str} {x1 u1 l1 x2 u2 l2 : Addr} {us1 rs1 us2 rs2 : List Str}
    (X : (hd.heap_39 w.params).In s.heap) (T : Top p loose mean mg mb s.heap) (hroom : A.depth + 9 < recursionLimit) (hh : A.handled = none) (I1 : EntAt w.params s.heap x1 u1 l1 us1 rs1) (I2 : EntAt w.params s.heap x2 u2 l2 us2 rs2)
    (b1 : us1.length ≤ 100) (b2 : us2.length ≤ 100) (b3 : rs1.length + rs2.length ≤ 1000)
    (h : ∀ h' tk x u l, (∀ b o, s.heap.get? b = some o → h'.get? b = some o) → EntNew w.params s.heap h' x u l (us1.filter (us2.contains ·)) (rs1 ++ rs2) → Q (.ref x) { s with heap := h', toks := tk }) : wpAny (model PR w) A (call (.ref 87) [.ref x1, .ref x2]) Q E s := by
  obtain ⟨dx, k, vs, ws, n1, n2, n3, h1, h2, h3⟩ := I1
  obtain ⟨dx', k', vs', ws', n1', n2', n3', h1', h2', h3'⟩ := I2
  have i1 : InstAt s.heap x1 (instObj 76 dx) 76 (some (dictOf (entD w.params (.ref u1) (.ref l1) .none .none k.1 k.2.1 k.2.2.1 k.2.2.2) n1)) := ⟨h1 (x1, instObj 76 dx) (by simp [EntNews]), rfl, rfl, h1 (dx, _) (List.mem_cons_of_mem _ List.mem_cons_self)⟩
  have i2 : InstAt s.heap x2 (instObj 76 dx') 76 (some (dictOf (entD w.params (.ref u2) (.ref l2) .none .none k'.1 k'.2.1 k'.2.2.1 k'.2.2.2) n1')) := ⟨h1' (x2, instObj 76 dx') (by simp [EntNews]), rfl, rfl, h1' (dx', _) (List.mem_cons_of_mem _ List.mem_cons_self)⟩
  refine merge X T hroom hh i1 (h1 (u1, listOf vs.toArray n2) (by simp [EntNews])) (h1 (l1, listOf ws.toArray n3) (by simp [EntNews])) h2 h3 i2 (h1' (u2, listOf vs'.toArray n2') (by simp [EntNews])) (h1' (l2, listOf ws'.toArray n3') (by simp [EntNews])) h2' h3' b1 b2 b3 ?_
  intro s' x dx2 u l k2 vs2 ws2 m1 m2 m3 hk hno hvs hws
  obtain ⟨h', tk, rfl, kk⟩ := hk
  exact h h' tk x u l kk ⟨dx2, k2, vs2, ws2, m1, m2, m3, hno, hvs, hws⟩
end Mine
namespace Mine
theorem calm29 : True := by
  w_top off
  first
    | (walk1; trivial)
    | trivial
end Mine
namespace Mine
def M5 (P : Params) (c : Nat) (s : Shared) (L : Addr) (s' : Shared) : Prop := ∃ h tk m oh oj vj news D a y n r H th R rx PL tp t1 t2 SH its nn,
  s' = { s with heap := h, toks := tk } ∧ St s L h m oh oj ((SH, listOf its nn) :: news) ∧ oh.data = .cell (some (.ref H)) ∧ oj.data = .cell vj ∧ m (rd "rows") = some (.ref D) ∧ m (rd "records") = some (.ref R) ∧ m (rd "pairs") = some (.ref PL) ∧ m (rd "shared") = some (.ref SH) ∧
  RowsAt news D a y n r ∧ HostsAt news H r th ∧ RecsAt P news R rx r ∧ PairsAt news PL tp t1 t2 ∧ its.size = c ∧ (∀ k, k < c → ∃ t, its[k]? = some (.int (Wt r k) t)) ∧ (∀ p ∈ news, p.1 ≠ SH)
theorem strOk_facts : ∀ r ∈ rows15, (rungs r).length ≤ 3 ∧ ((rungs r).all fun y => PyData.strOk y && rows15.any fun q => y == rungS q) = true ∧ PyData.strOk (host r) = true := by decide +kernel
theorem contains_rung : ∀ r ∈ rows15, ∀ q ∈ rows15, (rungs r).contains (rungS q) = under r q := by decide +kernel
theorem recUs_mem {r : Nat → Row} {i : Nat} {y : Str} : y ∈ recUs r i ↔ y ∈ rungs (r i) := by
  unfold recUs
  split <;> simp
theorem recUs_len {r : Nat → Row} {i : Nat} : (recUs r i).length = (rungs (r i)).length := by
  unfold recUs
  split <;> simp
theorem recUs_contains {r : Nat → Row} {i : Nat} {y : Str} : (recUs r i).contains y = (rungs (r i)).contains y := by
  have h : (recUs r i).contains y = true ↔ (rungs (r i)).contains y = true := by rw [List.contains_iff_mem, List.contains_iff_mem]; exact recUs_mem
  exact Bool.eq_iff_iff.mpr h
theorem recUs_ok {r : Nat → Row} {i : Nat} (h : (r i).length ≤ 3) : (recUs r i).length ≤ 3 ∧ ∀ y ∈ recUs r i, PyData.strOk y = true ∧ ∃ q ∈ rows15, y = rungS q := by
  obtain ⟨a, b, _⟩ := strOk_facts _ (row_mem _ h)
  refine ⟨by rw [recUs_len]; exact a, fun y hy => ?_⟩
  have := List.all_eq_true.mp b y (recUs_mem.mp hy)
  obtain ⟨c, d⟩ := Bool.and_eq_true_iff.mp this
  obtain ⟨q, hq, e⟩ := List.any_eq_true.mp d
  exact ⟨c, q, hq, beq_iff_eq.mp e⟩
theorem items6 {f : Nat → Value} {i : Nat} {v : Value} (e : (#[f 0, f 1, f 2, f 3, f 4, f 5] : Array Value)[i]? = some v) : i < 6 ∧ v = f i := by
  match i, e with
  | 0, e => exact ⟨by decide, (Option.some.inj e).symm⟩
  | 1, e => exact ⟨by decide, (Option.some.inj e).symm⟩
  | 2, e => exact ⟨by decide, (Option.some.inj e).symm⟩
  | 3, e => exact ⟨by decide, (Option.some.inj e).symm⟩
  | 4, e => exact ⟨by decide, (Option.some.inj e).symm⟩
  | 5, e => exact ⟨by decide, (Option.some.inj e).symm⟩
  | i + 6, e => simp at e
theorem pIJ : ∀ k, k < 6 → pI k < 4 ∧ pJ k < 4 := by decide
/-- the items that domain_match lets through -/
def keepStr (l : List Str) : Value → Bool
  | .str x _ => l.contains x
  | _ => false
theorem filter_strs {l : List Str} : ∀ {vs : List Value} {us : List Str}, StrsAre vs us → StrsAre (vs.filter (keepStr l)) (us.filter (l.contains ·))
  | _, _, .nil => .nil
  | _, _, .cons y t h => by
    cases e : l.contains y with
    | true => rw [List.filter_cons_of_pos (by exact e), List.filter_cons_of_pos (by exact e)]; exact .cons y t (filter_strs h)
    | false =>
      have h1 : ¬ (keepStr l (.str y t) = true) := by show ¬ l.contains y = true; rw [e]; exact Bool.false_ne_true
      have h2 : ¬ (l.contains y = true) := by rw [e]; exact Bool.false_ne_true
      rw [List.filter_cons_of_neg (p := keepStr l) h1, List.filter_cons_of_neg (p := fun x => l.contains x) h2]
      exact filter_strs h
theorem strs_mem : ∀ {vs : List Value} {us : List Str}, StrsAre vs us → ∀ v ∈ vs, ∃ y t, v = .str y t ∧ y ∈ us
  | _, _, .nil, _, h => nomatch h
  | _, _, .cons y t h, v, hv => by
    rcases List.mem_cons.mp hv with rfl | hv
    · exact ⟨y, t, rfl, List.mem_cons_self⟩
    · obtain ⟨z, u, e, hz⟩ := strs_mem h v hv
      exact ⟨z, u, e, List.mem_cons_of_mem _ hz⟩
end Mine
namespace Mine
theorem calm30 : True := by
  w_top off
  first
    | (walk1; trivial)
    | trivial
end Mine
namespace Mine
def domS (q : Row) : Str := Txt.join (rd ".") (q.map lab)
def cntD (r : Nat → Row) (i : Nat) : Nat := min (r i).length 10
def RelDom (r : Nat → Row) (i j : Nat) (z : Value) (tl : List (Addr × Obj)) : Prop := tl = [] ∧ ∃ t, z = .str (domS ((r i).drop (1 + j))) t
def domsOf (r : Nat → Row) (i : Nat) : List Str := (List.range' 0 (cntD r i)).map fun j => domS ((r i).drop (1 + j))
def domsTo (r : Nat → Row) : Nat → List Str
  | 0 => []
  | i + 1 => domsTo r i ++ domsOf r i
theorem made_doms {r : Nat → Row} {i : Nat} : ∀ {zs : List Value} {j : Nat} {tls : List (Addr × Obj)}, Made (RelDom r i) j zs tls → StrsAre zs ((List.range' j zs.length).map fun j => domS ((r i).drop (1 + j))) ∧ tls = []
  | [], _, _, h => ⟨.nil, h.inv0⟩
  | z :: zs, j, _, h => by
    obtain ⟨tl, tls', rfl, ⟨rfl, t, rfl⟩, g⟩ := h.inv
    obtain ⟨a, rfl⟩ := made_doms g
    refine ⟨?_, rfl⟩
    rw [List.length_cons, List.range'_succ, List.map_cons]
    exact .cons _ _ a
theorem madeM_doms {r : Nat → Row} : ∀ {i : Nat} {zs : List Value} {tls : List (Addr × Obj)}, MadeM (RelDom r) (cntD r) i zs tls → StrsAre zs (domsTo r i) ∧ tls = []
  | 0, _, _, h => by
    obtain ⟨rfl, rfl⟩ := h.inv0
    exact ⟨.nil, rfl⟩
  | i + 1, _, _, h => by
    obtain ⟨z1, z2, t1, t2, rfl, rfl, a, b, c⟩ := h.inv
    obtain ⟨a1, rfl⟩ := madeM_doms a
    obtain ⟨b1, rfl⟩ := made_doms b
    rw [c] at b1
    exact ⟨strs_app a1 b1, rfl⟩
theorem keys_strs {prog : Program} {w : World} : ∀ {vs : List Value} {us ks : List Str}, StrsAre vs us → KeysAre (strKind prog w) vs ks → ks = us
  | _, _, _, .nil, .nil => rfl
  | _, _, _, .cons y t h, .cons (k := k) a _ g => by
    have a' : Value.isStrOf k (.str y t) = true := a
    obtain ⟨t', e⟩ := Value.isStrOf_shape a'
    injection e with e1 e2
    rw [keys_strs h g, e1]
theorem strs_drop : ∀ {vs : List Value} {us : List Str} (k : Nat), StrsAre vs us → StrsAre (vs.drop k) (us.drop k)
  | _, _, 0, h => h
  | _, _, _ + 1, .nil => .nil
  | _, _, k + 1, .cons _ _ h => strs_drop k h
theorem dom_fit : ∀ r ∈ rows15, ∀ k, k < 5 → (((r.map lab).drop k).map (·.length)).sum + ((r.map lab).drop k).length * 64 ≤ 16777216 := by decide +kernel
theorem map_drop_lab (q : Row) (k : Nat) : (q.map lab).drop k = (q.drop k).map lab := List.map_drop.symm
def M7 (w : World) (s : Shared) (L : Addr) (s' : Shared) : Prop := ∃ h tk m oh oj vj news r H th R rx PL tp t1 t2 SH its nn DM oD,
  s' = { s with heap := h, toks := tk } ∧ St s L h m oh oj news ∧ oh.data = .cell (some (.ref H)) ∧ oj.data = .cell vj ∧ m (rd "records") = some (.ref R) ∧ m (rd "pairs") = some (.ref PL) ∧ m (rd "shared") = some (.ref SH) ∧ m (rd "domains") = some (.ref DM) ∧
  (∀ k, k < 4 → (r k).length ≤ 3) ∧ HostsAt news H r th ∧ RecsAt w.params news R rx r ∧ PairsAt news PL tp t1 t2 ∧ (SH, listOf its nn) ∈ news ∧ its.size = 6 ∧ (∀ k, k < 6 → ∃ t, its[k]? = some (.int (Wt r k) t)) ∧
  (DM, oD) ∈ news ∧ oD.SetObjOf (strKind PR w) (fun k' => (dd (domsTo r 4)).any (· == k')) (dd (domsTo r 4)).length
theorem set_nocell {prog : Program} {w : World} {o : Obj} {S : Str → Bool} {n : Nat} (h : o.SetObjOf (strKind prog w) S n) : ∀ v, o.data ≠ .cell v := by
  obtain ⟨_, es, ep, t, hd, _⟩ := h
  intro v e
  rw [hd] at e
  exact Data.noConfusion e
theorem m7_of {w : World} {s : Shared} {L : Addr} {h : Heap} {tk : Nat} {m : Str → Option Value} {oh oj : Obj} {vj : Option Value} {news : List (Addr × Obj)} {D H R PL SH DM : Addr} {a : Nat → Addr} {y : Nat → List Value} {n : Nat → Nat} {r : Nat → Row} {th : Nat → Tok} {rx tp : Nat → Addr} {t1 t2 : Nat → Tok} {its : Array Value} {nn : Nat} {o : Obj} {zs : List Value} {tls : List (Addr × Obj)}
    (F : Fr s.heap L h (fun z => if z = rd "domains" then some (.ref DM) else m z)) (N : News s.heap L h ((DM, o) :: (tls ++ ((L + 1, oh) :: (L + 1 + 1, oj) :: (SH, listOf its nn) :: news)))) (ho : SetO PR w zs o) (hm : MadeM (RelDom r) (cntD r) 4 zs tls) (nc : NoCell ((SH, listOf its nn) :: news)) (d1 : oh.data = .cell (some (.ref H))) (d2 : oj.data = .cell vj)
    (mR : m (rd "records") = some (.ref R)) (mP : m (rd "pairs") = some (.ref PL)) (mS : m (rd "shared") = some (.ref SH)) (RA : RowsAt news D a y n r) (HA : HostsAt news H r th) (GA : RecsAt w.params news R rx r) (PA : PairsAt news PL tp t1 t2) (iz : its.size = 6) (ik : ∀ k, k < 6 → ∃ t, its[k]? = some (.int (Wt r k) t)) : M7 w s L { s with heap := h, toks := tk } := by
  obtain ⟨hs, rfl⟩ := madeM_doms hm
  obtain ⟨ks, hk, hso⟩ := ho
  obtain rfl := keys_strs hs hk
  have sub : ∀ p ∈ news, p ∈ (DM, o) :: (SH, listOf its nn) :: news := fun p hp => List.mem_cons_of_mem _ (List.mem_cons_of_mem _ hp)
  refine ⟨h, tk, _, oh, oj, vj, (DM, o) :: (SH, listOf its nn) :: news, r, H, th, R, rx, PL, tp, t1, t2, SH, its, nn, DM, o, rfl, St.of F N ?_ ?_ ?_ (nc.cons (set_nocell hso)), d1, d2, (if_neg (by decide)).trans mR, (if_neg (by decide)).trans mP, (if_neg (by decide)).trans mS, if_pos rfl, fun k hk => (RA.2 k hk).2.2, sub _ HA, GA.mono sub, PA.mono sub, List.mem_cons_of_mem _ List.mem_cons_self, iz, ik, List.mem_cons_self, hso⟩
  · simp
  · simp
  · intro p hp
    rcases List.mem_cons.mp hp with rfl | hp
    · exact List.mem_cons_self
    · exact List.mem_cons_of_mem _ (List.mem_append_right _ (List.mem_cons_of_mem _ (List.mem_cons_of_mem _ hp)))
/-- the agents' counts -/
def RelAg (r : Nat → Row) (i : Nat) (y : Value) (tl : List (Addr × Obj)) : Prop := tl = [] ∧ ∃ t, y = .int ((r i).length : Nat) t
def AgAt (news : List (Addr × Obj)) (AG : Addr) (r : Nat → Row) (u : Nat → Tok) : Prop := (AG, LCg.lst [.int ((r 0).length : Nat) (u 0), .int ((r 1).length : Nat) (u 1), .int ((r 2).length : Nat) (u 2), .int ((r 3).length : Nat) (u 3)]) ∈ news
def M8 (w : World) (s : Shared) (L : Addr) (s' : Shared) : Prop := ∃ h tk m oh oj vj news r H th R rx PL tp t1 t2 SH its nn DM oD AG u,
  s' = { s with heap := h, toks := tk } ∧ St s L h m oh oj news ∧ oh.data = .cell (some (.ref H)) ∧ oj.data = .cell vj ∧ m (rd "records") = some (.ref R) ∧ m (rd "pairs") = some (.ref PL) ∧ m (rd "shared") = some (.ref SH) ∧ m (rd "domains") = some (.ref DM) ∧ m (rd "agents") = some (.ref AG) ∧
  (∀ k, k < 4 → (r k).length ≤ 3) ∧ HostsAt news H r th ∧ RecsAt w.params news R rx r ∧ PairsAt news PL tp t1 t2 ∧ (SH, listOf its nn) ∈ news ∧ its.size = 6 ∧ (∀ k, k < 6 → ∃ t, its[k]? = some (.int (Wt r k) t)) ∧
  (DM, oD) ∈ news ∧ oD.SetObjOf (strKind PR w) (fun k' => (dd (domsTo r 4)).any (· == k')) (dd (domsTo r 4)).length ∧ AgAt news AG r u
theorem rungs_len : ∀ r : Row, (rungs r).length = r.length
  | [] => rfl
  | _ :: r => congrArg (· + 1) (rungs_len r)
theorem m8_of {w : World} {s : Shared} {L : Addr} {h : Heap} {tk : Nat} {m : Str → Option Value} {oh oj : Obj} {vj : Option Value} {news : List (Addr × Obj)} {H R PL SH DM AG : Addr} {r : Nat → Row} {th : Nat → Tok} {rx tp : Nat → Addr} {t1 t2 : Nat → Tok} {its : Array Value} {nn : Nat} {oD : Obj} {ys : List Value} {tls : List (Addr × Obj)}
    (F : Fr s.heap L h (fun z => if z = rd "agents" then some (.ref AG) else m z)) (N : News s.heap L h ((AG, listOf ys.toArray ys.length) :: (tls ++ ((L + 1, oh) :: (L + 1 + 1, oj) :: news)))) (hl : ys.length = 4) (hm : Made (RelAg r) 0 ys tls) (nc : NoCell news) (d1 : oh.data = .cell (some (.ref H))) (d2 : oj.data = .cell vj)
    (mR : m (rd "records") = some (.ref R)) (mP : m (rd "pairs") = some (.ref PL)) (mS : m (rd "shared") = some (.ref SH)) (mD : m (rd "domains") = some (.ref DM)) (RA : ∀ k, k < 4 → (r k).length ≤ 3) (HA : HostsAt news H r th) (GA : RecsAt w.params news R rx r) (PA : PairsAt news PL tp t1 t2) (SA : (SH, listOf its nn) ∈ news) (iz : its.size = 6) (ik : ∀ k, k < 6 → ∃ t, its[k]? = some (.int (Wt r k) t))
    (DA : (DM, oD) ∈ news) (hso : oD.SetObjOf (strKind PR w) (fun k' => (dd (domsTo r 4)).any (· == k')) (dd (domsTo r 4)).length) : M8 w s L { s with heap := h, toks := tk } := by
  obtain ⟨y', t, rfl, hr, ht⟩ := made4 hm hl
  obtain ⟨_, u0, e0⟩ := hr 0 (by decide)
  obtain ⟨_, u1, e1⟩ := hr 1 (by decide)
  obtain ⟨_, u2, e2⟩ := hr 2 (by decide)
  obtain ⟨_, u3, e3⟩ := hr 3 (by decide)
  rw [e0, e1, e2, e3] at N
  have sub : ∀ p ∈ news, p ∈ (AG, LCg.lst [Value.int ((r 0).length : Nat) u0, .int ((r 1).length : Nat) u1, .int ((r 2).length : Nat) u2, .int ((r 3).length : Nat) u3]) :: news := fun p hp => List.mem_cons_of_mem _ hp
  refine ⟨h, tk, _, oh, oj, vj, (AG, LCg.lst [.int ((r 0).length : Nat) u0, .int ((r 1).length : Nat) u1, .int ((r 2).length : Nat) u2, .int ((r 3).length : Nat) u3]) :: news, r, H, th, R, rx, PL, tp, t1, t2, SH, its, nn, DM, oD, AG, pick4 u0 u1 u2 u3, rfl,
    St.of F N (List.mem_cons_of_mem _ (List.mem_append_right _ List.mem_cons_self)) (List.mem_cons_of_mem _ (List.mem_append_right _ (List.mem_cons_of_mem _ List.mem_cons_self))) ?_ (nc.cons fun v e => Data.noConfusion e), d1, d2, (if_neg (by decide)).trans mR, (if_neg (by decide)).trans mP, (if_neg (by decide)).trans mS, (if_neg (by decide)).trans mD, if_pos rfl, RA, sub _ HA, GA.mono sub, PA.mono sub, sub _ SA, iz, ik, sub _ DA, hso, List.mem_cons_self⟩
  intro p hp
  rcases List.mem_cons.mp hp with rfl | hp
  · exact List.mem_cons_self
  · exact List.mem_cons_of_mem _ (List.mem_append_right _ (List.mem_cons_of_mem _ (List.mem_cons_of_mem _ hp)))
end Mine
namespace Mine
theorem calm31 : True := by
  w_top off
  first
    | (walk1; trivial)
    | trivial
end Mine
namespace Mine
/-- n places, the last c of them true -/
def seg : Nat → Nat → List Bool
  | 0, _ => []
  | n + 1, c => decide (n + 1 ≤ c) :: seg n c
def sufs : Row → List Row
  | [] => []
  | _ :: r => r :: sufs r
def cR (a b : Row) : Nat := ((sufs a).filter ((sufs b).contains ·)).length
def dl (q : Row) : List Str := (List.range' 0 (min q.length 10)).map fun j => domS (q.drop (1 + j))
theorem seg_zero : ∀ n, seg n 0 = List.replicate n false
  | 0 => rfl
  | n + 1 => by rw [seg, seg_zero n, List.replicate_succ]; rfl
theorem count_new {α : Type} (p q t : α → Bool) (c d e : Nat) : ∀ (S : List α) (n : Nat), S.length = n → S.map p = seg n c → S.map q = seg n d → S.map t = seg n e → (S.filter fun x => !(p x || q x || t x)).length = n - max c (max d e)
  | [], n, hl, _, _, _ => by simp at hl; subst hl; simp
  | x :: S, n, hl, hp, hq, ht => by
    cases n with
    | zero => simp at hl
    | succ n =>
      simp only [List.map_cons, seg, List.cons.injEq] at hp hq ht
      have ih := count_new p q t c d e S n (by simpa using hl) hp.2 hq.2 ht.2
      by_cases h : n + 1 ≤ c ∨ n + 1 ≤ d ∨ n + 1 ≤ e
      · have hx : (!(p x || q x || t x)) = false := by rw [hp.1, hq.1, ht.1]; rcases h with h | h | h <;> simp [h]
        rw [List.filter_cons_of_neg (by simp only [hx]; exact Bool.false_ne_true), ih]
        omega
      · have hx : (!(p x || q x || t x)) = true := by
          rw [hp.1, hq.1, ht.1]
          have h1 : ¬ n + 1 ≤ c := fun g => h (.inl g)
          have h2 : ¬ n + 1 ≤ d := fun g => h (.inr (.inl g))
          have h3 : ¬ n + 1 ≤ e := fun g => h (.inr (.inr g))
          simp [h1, h2, h3]
        rw [List.filter_cons_of_pos (by simp only [hx]), List.length_cons, ih]
        omega
theorem keep_end {α : Type} (p q t : α → Bool) (c d e : Nat) : ∀ (S : List α) (n : Nat), S.length = n → S.map p = seg n c → S.map q = seg n d → S.map t = seg n e → ((S.filter p).filter q).filter t = S.drop (n - min c (min d e))
  | [], n, _, _, _, _ => by simp
  | x :: S, n, hl, hp, hq, ht => by
    cases n with
    | zero => simp at hl
    | succ n =>
      simp only [List.map_cons, seg, List.cons.injEq] at hp hq ht
      have ih := keep_end p q t c d e S n (by simpa using hl) hp.2 hq.2 ht.2
      have hl' : S.length = n := by simpa using hl
      by_cases h1 : n + 1 ≤ c
      · rw [List.filter_cons_of_pos (by rw [hp.1]; exact decide_eq_true h1)]
        by_cases h2 : n + 1 ≤ d
        · rw [List.filter_cons_of_pos (by rw [hq.1]; exact decide_eq_true h2)]
          by_cases h3 : n + 1 ≤ e
          · rw [List.filter_cons_of_pos (by rw [ht.1]; exact decide_eq_true h3), ih]
            rw [show n - min c (min d e) = 0 by omega, show n + 1 - min c (min d e) = 0 by omega]
            rfl
          · rw [List.filter_cons_of_neg (by rw [ht.1]; simpa using h3), ih, show n + 1 - min c (min d e) = (n - min c (min d e)) + 1 by omega]
            rfl
        · rw [List.filter_cons_of_neg (by rw [hq.1]; simpa using h2), ih, show n + 1 - min c (min d e) = (n - min c (min d e)) + 1 by omega]
          rfl
      · rw [List.filter_cons_of_neg (by rw [hp.1]; simpa using h1), ih, show n + 1 - min c (min d e) = (n - min c (min d e)) + 1 by omega]
        rfl
theorem dd_app : ∀ {t l : List Str}, t.Nodup → (dd (l ++ t)).length = (dd l).length + (t.filter fun x => !l.contains x).length
  | [], l, _ => by simp
  | x :: t, l, h => by
    obtain ⟨h1, h2⟩ := List.nodup_cons.mp h
    have e : l ++ x :: t = (l ++ [x]) ++ t := by simp
    rw [e, dd_app h2, dd_snoc, step_lenK, dd_any, any_contains]
    have hf : (t.filter fun z => !(l ++ [x]).contains z) = t.filter fun z => !l.contains z := by
      refine List.filter_congr fun z hz => ?_
      have hne : z ≠ x := fun e => h1 (e ▸ hz)
      have : (l ++ [x]).contains z = l.contains z := by
        apply Bool.eq_iff_iff.mpr
        rw [List.contains_iff_mem, List.contains_iff_mem, List.mem_append, List.mem_singleton]
        exact ⟨fun h => h.elim id fun e => absurd e hne, .inl⟩
      rw [this]
    rw [hf]
    cases hx : l.contains x with
    | true => rw [List.filter_cons_of_neg (by rw [hx]; decide)]; simp
    | false => rw [List.filter_cons_of_pos (by rw [hx]; rfl), List.length_cons]; simp; omega
section
variable {sp : Nat → Nat → Nat → Bool} {W : Nat → Int} {B : Int}
theorem gc_le {g : Int} {a b : Nat} (hg : g ≤ B) : ∀ n, (∀ c, c < n → sp a b c = true → W a + W b + W c ≤ B) → gc sp W g a b n ≤ B
  | 0, _ => hg
  | n + 1, h => by
    have ih := gc_le hg n fun c hc => h c (Nat.lt_succ_of_lt hc)
    show (if sp a b n then max (gc sp W g a b n) (W a + W b + W n) else gc sp W g a b n) ≤ B
    split
    · have := h n (Nat.lt_succ_self _) (by assumption); omega
    · exact ih
theorem gb_le {g : Int} {a : Nat} (hg : g ≤ B) : ∀ n, (∀ b c, b < n → c < b → sp a b c = true → W a + W b + W c ≤ B) → gb sp W g a n ≤ B
  | 0, _ => hg
  | n + 1, h => gc_le (gb_le hg n fun b c hb => h b c (Nat.lt_succ_of_lt hb)) n fun c hc => h n c (Nat.lt_succ_self _) hc
theorem ga_le (hB : 0 ≤ B) : ∀ n, (∀ a b c, a < n → b < a → c < b → sp a b c = true → W a + W b + W c ≤ B) → ga sp W n ≤ B
  | 0, _ => hB
  | n + 1, h => gb_le (ga_le hB n fun a b c ha => h a b c (Nat.lt_succ_of_lt ha)) n fun b c hb hc => h n b c (Nat.lt_succ_self _) hb hc
theorem gc_mono {g : Int} {a b : Nat} : ∀ n, g ≤ gc sp W g a b n
  | 0 => Int.le_refl _
  | n + 1 => by
    have ih : g ≤ gc sp W g a b n := gc_mono n
    show g ≤ (if sp a b n then max (gc sp W g a b n) (W a + W b + W n) else gc sp W g a b n)
    split
    · omega
    · exact ih
theorem gb_mono {g : Int} {a : Nat} : ∀ n, g ≤ gb sp W g a n
  | 0 => Int.le_refl _
  | n + 1 => Int.le_trans (gb_mono n) (gc_mono n)
theorem gc_ge {g : Int} {a b c : Nat} (hs : sp a b c = true) : ∀ n, c < n → W a + W b + W c ≤ gc sp W g a b n
  | n + 1, h => by
    show _ ≤ (if sp a b n then max (gc sp W g a b n) (W a + W b + W n) else gc sp W g a b n)
    by_cases e : c = n
    · subst e; rw [if_pos hs]; omega
    · have ih := gc_ge (g := g) hs n (by omega)
      split
      · omega
      · exact ih
theorem gb_ge {g : Int} {a b c : Nat} (hs : sp a b c = true) (hc : c < b) : ∀ n, b < n → W a + W b + W c ≤ gb sp W g a n
  | n + 1, h => by
    by_cases e : b = n
    · subst e; exact gc_ge hs _ hc
    · exact Int.le_trans (gb_ge hs hc n (by omega)) (gc_mono n)
theorem ga_ge {a b c : Nat} (hs : sp a b c = true) (hb : b < a) (hc : c < b) : ∀ n, a < n → W a + W b + W c ≤ ga sp W n
  | n + 1, h => by
    by_cases e : a = n
    · subst e; exact gb_ge hs hc _ hb
    · exact Int.le_trans (ga_ge hs hb hc n (by omega)) (gb_mono n)
end
def zI (k : Nat) : Int := (pI k : Nat)
def zJ (k : Nat) : Int := (pJ k : Nat)
theorem two_le {x y z M : Int} (h : min x y ≤ z) (h1 : x ≤ M) (h2 : y ≤ M) : x + y ≤ z + M := by omega
theorem three_le {x y z a b c M N : Int} (h1 : min x y ≤ a) (h2 : min x z ≤ b) (h3 : min y z ≤ c) (hx : x ≤ M) (hy : y ≤ M) (hz : z ≤ M) (hb : b ≤ N) (hc : c ≤ N) : x + y + z ≤ a + N + M := by omega
/-- the greatest tree's sum, of an ultrametric -/
theorem ga_tree (w0 w1 w2 w3 w4 w5 : Int) (h0 : 0 ≤ w0) (h1 : 0 ≤ w1) (h3 : 0 ≤ w3)
    (a3 : min w1 w2 ≤ w0) (b3 : min w3 w4 ≤ w0) (c3 : min w3 w5 ≤ w1) (d3 : min w4 w5 ≤ w2) :
    ga (span zI zJ) (pick6 w0 w1 w2 w3 w4 w5) 6 = w0 + max w1 w2 + max w3 (max w4 w5) := by
  obtain ⟨M, eM, m1, m2, m3⟩ : ∃ M, max w1 w2 = M ∧ w1 ≤ M ∧ w2 ≤ M ∧ (M = w1 ∨ M = w2) := ⟨_, rfl, by omega, by omega, by omega⟩
  obtain ⟨N, eN, n1, n2, n3, n4⟩ : ∃ N, max w3 (max w4 w5) = N ∧ w3 ≤ N ∧ w4 ≤ N ∧ w5 ≤ N ∧ (N = w3 ∨ N = w4 ∨ N = w5) := ⟨_, rfl, by omega, by omega, by omega, by omega⟩
  rw [eM, eN]
  have t1 := two_le a3 m1 m2
  have t2 := two_le b3 n1 n2
  have t3 := two_le c3 n1 n3
  have t4 := two_le d3 n2 n3
  have t5 := three_le b3 c3 d3 n1 n2 n3 m1 m2
  clear a3 b3 c3 d3 eM eN
  apply Int.le_antisymm
  · refine ga_le (by omega) 6 fun a b c ha hb hc hs => ?_
    obtain rfl | rfl | rfl | rfl | rfl | rfl : a = 0 ∨ a = 1 ∨ a = 2 ∨ a = 3 ∨ a = 4 ∨ a = 5 := by omega
    all_goals (obtain rfl | rfl | rfl | rfl | rfl : b = 0 ∨ b = 1 ∨ b = 2 ∨ b = 3 ∨ b = 4 := by omega)
    all_goals first
      | (exact absurd hb (by decide))
      | (exact absurd hc (Nat.not_lt_zero _))
      | (obtain rfl | rfl | rfl | rfl : c = 0 ∨ c = 1 ∨ c = 2 ∨ c = 3 := by omega)
    all_goals first
      | (exact absurd hc (by decide))
      | (exact absurd hs (by decide))
      | (simp only [pick6]; omega)
  · have q310 : w3 + w1 + w0 ≤ ga (span zI zJ) (pick6 w0 w1 w2 w3 w4 w5) 6 := ga_ge (a := 3) (b := 1) (c := 0) (W := pick6 w0 w1 w2 w3 w4 w5) (by decide) (by decide) (by decide) 6 (by decide)
    have q320 : w3 + w2 + w0 ≤ ga (span zI zJ) (pick6 w0 w1 w2 w3 w4 w5) 6 := ga_ge (a := 3) (b := 2) (c := 0) (W := pick6 w0 w1 w2 w3 w4 w5) (by decide) (by decide) (by decide) 6 (by decide)
    have q410 : w4 + w1 + w0 ≤ ga (span zI zJ) (pick6 w0 w1 w2 w3 w4 w5) 6 := ga_ge (a := 4) (b := 1) (c := 0) (W := pick6 w0 w1 w2 w3 w4 w5) (by decide) (by decide) (by decide) 6 (by decide)
    have q420 : w4 + w2 + w0 ≤ ga (span zI zJ) (pick6 w0 w1 w2 w3 w4 w5) 6 := ga_ge (a := 4) (b := 2) (c := 0) (W := pick6 w0 w1 w2 w3 w4 w5) (by decide) (by decide) (by decide) 6 (by decide)
    have q510 : w5 + w1 + w0 ≤ ga (span zI zJ) (pick6 w0 w1 w2 w3 w4 w5) 6 := ga_ge (a := 5) (b := 1) (c := 0) (W := pick6 w0 w1 w2 w3 w4 w5) (by decide) (by decide) (by decide) 6 (by decide)
    have q520 : w5 + w2 + w0 ≤ ga (span zI zJ) (pick6 w0 w1 w2 w3 w4 w5) 6 := ga_ge (a := 5) (b := 2) (c := 0) (W := pick6 w0 w1 w2 w3 w4 w5) (by decide) (by decide) (by decide) 6 (by decide)
    generalize ga (span zI zJ) (pick6 w0 w1 w2 w3 w4 w5) 6 = G at *
    rcases m3 with rfl | rfl <;> rcases n4 with rfl | rfl | rfl <;> omega
theorem pair_facts : ∀ a ∈ rows15, ∀ b ∈ rows15, ((rungs a).filter ((rungs b).contains ·)).length = cR a b ∧ (dl a).map ((dl b).contains ·) = seg a.length (cR a b) ∧ (rungs a).map ((rungs b).contains ·) = seg a.length (cR a b) ∧ cR a b = cR b a ∧ cR a b ≤ a.length := by decide +kernel
theorem row_facts : ∀ a ∈ rows15, (dl a).Nodup ∧ (dl a).length = a.length := by decide +kernel
theorem tri_facts : ∀ a ∈ rows15, ∀ b ∈ rows15, ∀ c ∈ rows15, min (cR a b) (cR b c) ≤ cR a c := by decide +kernel

theorem Wt_cR {r : Nat → Row} {k : Nat} (h1 : r (pI k) ∈ rows15) (h2 : r (pJ k) ∈ rows15) : Wt r k = cR (r (pI k)) (r (pJ k)) := by
  have e : (fun x => (recUs r (pJ k)).contains x) = fun x => (rungs (r (pJ k))).contains x := funext fun x => recUs_contains
  have e2 : ∀ p : Str → Bool, ((recUs r (pI k)).filter p).length = ((rungs (r (pI k))).filter p).length := by
    intro p
    unfold recUs
    split
    · rw [List.filter_reverse, List.length_reverse]
    · rfl
  unfold Wt both
  rw [e, e2]
  exact (pair_facts _ h1 _ h2).1
theorem domsOf_dl (r : Nat → Row) (i : Nat) : domsOf r i = dl (r i) := rfl
theorem notin2 {l l' : List Str} {x : Str} : (l ++ l').contains x = (l.contains x || l'.contains x) := by
  apply Bool.eq_iff_iff.mpr
  rw [Bool.or_eq_true, List.contains_iff_mem, List.contains_iff_mem, List.contains_iff_mem, List.mem_append]
theorem false_seg (a : Row) (ha : a ∈ rows15) : (dl a).map (fun _ => false) = seg a.length 0 := by
  rw [seg_zero, List.map_const', (row_facts a ha).2]
theorem new_count (a b c d : Row) (ha : a ∈ rows15) (hb : b ∈ rows15) (hc : c ∈ rows15) (hd : d ∈ rows15) : ((dl a).filter fun x => !((dl b).contains x || (dl c).contains x || (dl d).contains x)).length = a.length - max (cR a b) (max (cR a c) (cR a d)) :=
  count_new _ _ _ _ _ _ (dl a) a.length (row_facts a ha).2 (pair_facts a ha b hb).2.1 (pair_facts a ha c hc).2.1 (pair_facts a ha d hd).2.1
theorem new_count2 (a b c : Row) (ha : a ∈ rows15) (hb : b ∈ rows15) (hc : c ∈ rows15) : ((dl a).filter fun x => !((dl b).contains x || (dl c).contains x)).length = a.length - max (cR a b) (cR a c) := by
  have := count_new _ _ (fun _ => false) _ _ 0 (dl a) a.length (row_facts a ha).2 (pair_facts a ha b hb).2.1 (pair_facts a ha c hc).2.1 (false_seg a ha)
  simpa using this
theorem new_count1 (a b : Row) (ha : a ∈ rows15) (hb : b ∈ rows15) : ((dl a).filter fun x => !((dl b).contains x)).length = a.length - cR a b := by
  have := count_new _ (fun _ => false) (fun _ => false) _ 0 0 (dl a) a.length (row_facts a ha).2 (pair_facts a ha b hb).2.1 (false_seg a ha) (false_seg a ha)
  simpa using this
theorem dom_count (a b c d : Row) (ha : a ∈ rows15) (hb : b ∈ rows15) (hc : c ∈ rows15) (hd : d ∈ rows15) : (dd ((((([] : List Str) ++ dl a) ++ dl b) ++ dl c) ++ dl d)).length = a.length + (b.length - cR b a) + (c.length - max (cR c a) (cR c b)) + (d.length - max (cR d a) (max (cR d b) (cR d c))) := by
  rw [dd_app (row_facts d hd).1, dd_app (row_facts c hc).1, dd_app (row_facts b hb).1, dd_app (row_facts a ha).1]
  have e0 : ((dl a).filter fun x => !([] : List Str).contains x).length = a.length := by rw [List.filter_eq_self.mpr (by intro x _; rfl)]; exact (row_facts a ha).2
  have e1 : ((dl b).filter fun x => !(([] : List Str) ++ dl a).contains x).length = b.length - cR b a := by
    rw [List.nil_append]; exact new_count1 b a hb ha
  have e2 : ((dl c).filter fun x => !((([] : List Str) ++ dl a) ++ dl b).contains x).length = c.length - max (cR c a) (cR c b) := by
    rw [List.nil_append, ← new_count2 c a b hc ha hb]
    congr 1
    exact List.filter_congr fun x _ => by rw [notin2]
  have e3 : ((dl d).filter fun x => !(((([] : List Str) ++ dl a) ++ dl b) ++ dl c).contains x).length = d.length - max (cR d a) (max (cR d b) (cR d c)) := by
    rw [List.nil_append, ← new_count d a b c hd ha hb hc]
    congr 1
    exact List.filter_congr fun x _ => by rw [notin2, notin2]
  rw [e0, e1, e2, e3]
  have : (dd ([] : List Str)).length = 0 := rfl
  omega
theorem six_eq {r : Nat → Row} : (fun k => ((Wt r k : Nat) : Int)) = pick6 ((Wt r 0 : Nat) : Int) (Wt r 1 : Nat) (Wt r 2 : Nat) (Wt r 3 : Nat) (Wt r 4 : Nat) (Wt r 5 : Nat) := by
  funext k
  match k with
  | 0 => rfl
  | 1 => rfl
  | 2 => rfl
  | 3 => rfl
  | 4 => rfl
  | 5 => rfl
  | k + 6 => rfl
/-- the number of domains -/
theorem dom_law {r : Nat → Row} (hr : ∀ k, k < 4 → (r k).length ≤ 3) : ((dd (domsTo r 4)).length : Int) = ([((r 0).length : Int), ((r 1).length : Int), ((r 2).length : Int), ((r 3).length : Int)] : List Int).sum - ga (span zI zJ) (fun k => ((Wt r k : Nat) : Int)) 6 := by
  have m0 := row_mem _ (hr 0 (by decide))
  have m1 := row_mem _ (hr 1 (by decide))
  have m2 := row_mem _ (hr 2 (by decide))
  have m3 := row_mem _ (hr 3 (by decide))
  have c := dom_count _ _ _ _ m0 m1 m2 m3
  rw [show domsTo r 4 = ((((([] : List Str) ++ dl (r 0)) ++ dl (r 1)) ++ dl (r 2)) ++ dl (r 3)) from rfl, c, six_eq]
  have w0 : Wt r 0 = cR (r 0) (r 1) := Wt_cR (k := 0) m0 m1
  have w1 : Wt r 1 = cR (r 0) (r 2) := Wt_cR (k := 1) m0 m2
  have w2 : Wt r 2 = cR (r 1) (r 2) := Wt_cR (k := 2) m1 m2
  have w3 : Wt r 3 = cR (r 0) (r 3) := Wt_cR (k := 3) m0 m3
  have w4 : Wt r 4 = cR (r 1) (r 3) := Wt_cR (k := 4) m1 m3
  have w5 : Wt r 5 = cR (r 2) (r 3) := Wt_cR (k := 5) m2 m3
  obtain ⟨_, _, _, s01, l01⟩ := pair_facts _ m1 _ m0
  obtain ⟨_, _, _, s02, l02⟩ := pair_facts _ m2 _ m0
  obtain ⟨_, _, _, s12, l12⟩ := pair_facts _ m2 _ m1
  obtain ⟨_, _, _, s03, l03⟩ := pair_facts _ m3 _ m0
  obtain ⟨_, _, _, s13, l13⟩ := pair_facts _ m3 _ m1
  obtain ⟨_, _, _, s23, l23⟩ := pair_facts _ m3 _ m2
  rw [s01] at l01 ⊢
  rw [s02] at l02 ⊢
  rw [s12] at l12 ⊢
  rw [s03] at l03 ⊢
  rw [s13] at l13 ⊢
  rw [s23] at l23 ⊢
  have a3 := tri_facts _ m0 _ m2 _ m1
  have b3 := tri_facts _ m0 _ m3 _ m1
  have c3 := tri_facts _ m0 _ m3 _ m2
  have d3 := tri_facts _ m1 _ m3 _ m2
  rw [s12] at a3
  rw [s13] at b3
  rw [s23] at c3 d3
  rw [← w0, ← w1, ← w2, ← w3, ← w4, ← w5] at *
  rw [ga_tree _ _ _ _ _ _ (by omega) (by omega) (by omega) (by omega) (by omega) (by omega) (by omega)]
  simp only [List.sum_cons, List.sum_nil]
  omega
def wu (r : Nat → Row) : Nat → List Str
  | 0 => recUs r 0
  | i + 1 => (wu r i).filter ((recUs r (i + 1)).contains ·)
/-- the agents of all four merged -/
theorem end_law {r : Nat → Row} (hr : ∀ k, k < 4 → (r k).length ≤ 3) {M : Int} (h1 : M ∈ ([((Wt r 0 : Nat) : Int), (Wt r 1 : Nat), (Wt r 2 : Nat), (Wt r 3 : Nat), (Wt r 4 : Nat), (Wt r 5 : Nat)] : List Int)) (h2 : ∀ a ∈ ([((Wt r 0 : Nat) : Int), (Wt r 1 : Nat), (Wt r 2 : Nat), (Wt r 3 : Nat), (Wt r 4 : Nat), (Wt r 5 : Nat)] : List Int), M ≤ a) :
    ∃ j : Nat, ((r 0).length : Int) - M = (j : Nat) ∧ wu r 3 = (recUs r 0).drop j := by
  have m0 := row_mem _ (hr 0 (by decide))
  have m1 := row_mem _ (hr 1 (by decide))
  have m2 := row_mem _ (hr 2 (by decide))
  have m3 := row_mem _ (hr 3 (by decide))
  have w0 : Wt r 0 = cR (r 0) (r 1) := Wt_cR (k := 0) m0 m1
  have w1 : Wt r 1 = cR (r 0) (r 2) := Wt_cR (k := 1) m0 m2
  have w2 : Wt r 2 = cR (r 1) (r 2) := Wt_cR (k := 2) m1 m2
  have w3 : Wt r 3 = cR (r 0) (r 3) := Wt_cR (k := 3) m0 m3
  have w4 : Wt r 4 = cR (r 1) (r 3) := Wt_cR (k := 4) m1 m3
  have w5 : Wt r 5 = cR (r 2) (r 3) := Wt_cR (k := 5) m2 m3
  obtain ⟨_, _, f1, s1, l1⟩ := pair_facts _ m0 _ m1
  obtain ⟨_, _, f2, s2, l2⟩ := pair_facts _ m0 _ m2
  obtain ⟨_, _, f3, s3, l3⟩ := pair_facts _ m0 _ m3
  have a2 := tri_facts _ m1 _ m0 _ m2
  have a4 := tri_facts _ m1 _ m0 _ m3
  have a5 := tri_facts _ m2 _ m0 _ m3
  rw [← s1] at a2 a4
  rw [← s2] at a5
  have k0 := h2 _ (List.mem_cons_self)
  have k1 := h2 _ (List.mem_cons_of_mem _ List.mem_cons_self)
  have k3 := h2 (Wt r 3 : Nat) (by simp)
  simp only [List.mem_cons, List.not_mem_nil, or_false] at h1
  have hM : M = ((min (cR (r 0) (r 1)) (min (cR (r 0) (r 2)) (cR (r 0) (r 3))) : Nat) : Int) := by
    rw [w0] at k0
    rw [w1] at k1
    rw [w3] at k3
    rw [w0, w1, w2, w3, w4, w5] at h1
    omega
  refine ⟨(r 0).length - min (cR (r 0) (r 1)) (min (cR (r 0) (r 2)) (cR (r 0) (r 3))), by omega, ?_⟩
  have g1 : (fun x => (recUs r 1).contains x) = fun x => (rungs (r 1)).contains x := funext fun x => recUs_contains
  have g2 : (fun x => (recUs r 2).contains x) = fun x => (rungs (r 2)).contains x := funext fun x => recUs_contains
  have g3 : (fun x => (recUs r 3).contains x) = fun x => (rungs (r 3)).contains x := funext fun x => recUs_contains
  show (((recUs r 0).filter fun x => (recUs r 1).contains x).filter fun x => (recUs r 2).contains x).filter (fun x => (recUs r 3).contains x) = _
  rw [g1, g2, g3]
  exact keep_end _ _ _ _ _ _ (rungs (r 0)) (r 0).length (rungs_len _) f1 f2 f3
end Mine
namespace Mine
theorem calm32 : True := by
  w_top off
  first
    | (walk1; trivial)
    | trivial
end Mine
namespace Mine
def M9 (w : World) (s : Shared) (L : Addr) (s' : Shared) : Prop := ∃ h tk m oh oj vj news r H th R rx SH its nn AG u,
  s' = { s with heap := h, toks := tk } ∧ St s L h m oh oj news ∧ oh.data = .cell (some (.ref H)) ∧ oj.data = .cell vj ∧ m (rd "records") = some (.ref R) ∧ m (rd "shared") = some (.ref SH) ∧ m (rd "agents") = some (.ref AG) ∧
  (∀ k, k < 4 → (r k).length ≤ 3) ∧ HostsAt news H r th ∧ RecsAt w.params news R rx r ∧ (SH, listOf its nn) ∈ news ∧ its.size = 6 ∧ (∀ k, k < 6 → ∃ t, its[k]? = some (.int (Wt r k) t)) ∧ AgAt news AG r u
def M10 (w : World) (s : Shared) (L : Addr) (s' : Shared) : Prop := ∃ h tk m oh oj vj news r H th R rx SH its nn AG u,
  s' = { s with heap := h, toks := tk } ∧ St s L h m oh oj news ∧ oh.data = .cell (some (.ref H)) ∧ oj.data = .cell vj ∧ m (rd "records") = some (.ref R) ∧ m (rd "shared") = some (.ref SH) ∧ m (rd "agents") = some (.ref AG) ∧ m (rd "whole") = some (.ref (rx 0)) ∧
  (∀ k, k < 4 → (r k).length ≤ 3) ∧ HostsAt news H r th ∧ RecsAt w.params news R rx r ∧ (SH, listOf its nn) ∈ news ∧ its.size = 6 ∧ (∀ k, k < 6 → ∃ t, its[k]? = some (.int (Wt r k) t)) ∧ AgAt news AG r u
def wr (r : Nat → Row) : Nat → List Str
  | 0 => [host (r 0)]
  | i + 1 => wr r i ++ [host (r (i + 1))]
theorem wr_len (r : Nat → Row) : ∀ i, (wr r i).length = i + 1
  | 0 => rfl
  | i + 1 => by rw [wr, List.length_append, wr_len r i]; rfl
theorem wu_len (r : Nat → Row) : ∀ i, (wu r i).length ≤ (recUs r 0).length
  | 0 => Nat.le_refl _
  | i + 1 => Nat.le_trans (List.length_filter_le _ _) (wu_len r i)
theorem wu_sub (r : Nat → Row) : ∀ i, ∀ y ∈ wu r i, y ∈ recUs r 0
  | 0, _, h => h
  | i + 1, y, h => wu_sub r i y (List.mem_filter.mp h).1
/-- an entry beside the ledger -/
def EntB (P : Params) (g h : Heap) (L N x u l : Addr) (us rs : List Str) : Prop :=
  ∃ dx k vs ws n1 n2 n3, News g L h (EntNews P x dx u l k vs ws n1 n2 n3) ∧ (∀ p ∈ EntNews P x dx u l k vs ws n1 n2 n3, p.1 ≠ N) ∧ StrsAre vs us ∧ StrsAre ws rs
theorem EntB.ent {P : Params} {g h : Heap} {L N x u l : Addr} {us rs : List Str} (e : EntB P g h L N x u l us rs) : EntAt P h x u l us rs := by
  obtain ⟨dx, k, vs, ws, n1, n2, n3, h1, _, h2⟩ := e
  exact ⟨dx, k, vs, ws, n1, n2, n3, fun p hp => (h1 p hp).1, h2⟩
theorem EntB.but {P : Params} {g h h' : Heap} {L N x u l : Addr} {us rs : List Str} (e : EntB P g h L N x u l us rs) (hk : ∀ b o, b ≠ N → h.get? b = some o → h'.get? b = some o) : EntB P g h' L N x u l us rs := by
  obtain ⟨dx, k, vs, ws, n1, n2, n3, h1, h2, h3⟩ := e
  exact ⟨dx, k, vs, ws, n1, n2, n3, fun p hp => ⟨hk _ _ (h2 p hp) (h1 p hp).1, (h1 p hp).2⟩, h2, h3⟩
theorem EntB.set {P : Params} {g h h' : Heap} {L N x u l : Addr} {us rs : List Str} (e : EntB P g h L N x u l us rs) (hs : Heap.SameBut L h h') : EntB P g h' L N x u l us rs := by
  obtain ⟨dx, k, vs, ws, n1, n2, n3, h1, h2, h3⟩ := e
  exact ⟨dx, k, vs, ws, n1, n2, n3, fun p hp => ⟨hs.extBut _ _ (h1 p hp).2.1 (h1 p hp).1, (h1 p hp).2⟩, h2, h3⟩
theorem RecAt.entB {P : Params} {g h : Heap} {L N x : Addr} {news : List (Addr × Obj)} {us rs : List Str} (R : RecAt P news x us rs) (N1 : News g L h news) (hb : ∀ p ∈ news, p.1 < N) : ∃ u l, EntB P g h L N x u l us rs := by
  obtain ⟨dx, u, l, k, vs, ws, n1, n2, n3, h1, h2⟩ := R
  exact ⟨u, l, dx, k, vs, ws, n1, n2, n3, fun p hp => N1 p (h1 p hp), fun p hp => Nat.ne_of_lt (hb p (h1 p hp)), h2⟩
theorem EntNew.entB {P : Params} {g g2 h : Heap} {L N x u l : Addr} {us rs : List Str} (e : EntNew P g2 h x u l us rs) (hk : ∀ b o, g.get? b = some o → g2.get? b = some o) (hL : ∃ o, g2.get? L = some o) (hN : ∃ o, g2.get? N = some o) : EntB P g h L N x u l us rs := by
  obtain ⟨dx, k, vs, ws, n1, n2, n3, h1, h2⟩ := e
  obtain ⟨oL, hL⟩ := hL
  obtain ⟨oN, hN⟩ := hN
  refine ⟨dx, k, vs, ws, n1, n2, n3, fun p hp => ⟨(h1 p hp).1, fun q => ?_, ?_⟩, fun p hp q => ?_, h2⟩
  · have := (h1 p hp).2; rw [q, hL] at this; cases this
  · cases q : g.get? p.1 with
    | none => rfl
    | some o => have := (h1 p hp).2; rw [hk _ _ q] at this; cases this
  · have := (h1 p hp).2; rw [q, hN] at this; cases this
def J11 (w : World) (s₀ : Shared) (L : Addr) (oh oj : Obj) (news : List (Addr × Obj)) (R AG SH : Addr) (r : Nat → Row) (N i : Nat) (s' : Shared) : Prop := ∃ h tk m x u l,
  s' = { s₀ with heap := h, toks := tk } ∧ St s₀ L h m oh oj news ∧ m (rd "records") = some (.ref R) ∧ m (rd "shared") = some (.ref SH) ∧ m (rd "agents") = some (.ref AG) ∧ m (rd "whole") = some (.ref x) ∧ EntB w.params s₀.heap h L N x u l (wu r i) (wr r i) ∧ L + 1 + 1 < N ∧ (∀ p ∈ news, p.1 < N)
theorem J11.stable {w : World} {s₀ : Shared} {L : Addr} {oh oj : Obj} {news : List (Addr × Obj)} {R AG SH : Addr} {r : Nat → Row} (N i : Nat) (s' : Shared) (h : Heap) (tk : Nat) (x : J11 w s₀ L oh oj news R AG SH r N i s') (hk : ∀ b o, b ≠ N → s'.heap.get? b = some o → h.get? b = some o) : J11 w s₀ L oh oj news R AG SH r N i { s' with heap := h, toks := tk } := by
  obtain ⟨h1, tk1, m, x, u, l, rfl, S, q1, q2, q3, q4, E, B, b3⟩ := x
  exact ⟨h, tk, m, x, u, l, rfl, S.stable ⟨B, b3⟩ (fun b o hb e => hk b o (Nat.ne_of_lt hb) e), q1, q2, q3, q4, E.but hk, B, b3⟩
def M11 (w : World) (s : Shared) (L : Addr) (s' : Shared) : Prop := ∃ h tk m oh oj vj news r H th R rx SH its nn AG u N x uw lw,
  s' = { s with heap := h, toks := tk } ∧ St s L h m oh oj news ∧ oh.data = .cell (some (.ref H)) ∧ oj.data = .cell vj ∧ m (rd "records") = some (.ref R) ∧ m (rd "shared") = some (.ref SH) ∧ m (rd "agents") = some (.ref AG) ∧ m (rd "whole") = some (.ref x) ∧ EntB w.params s.heap h L N x uw lw (wu r 3) (wr r 3) ∧
  (∀ k, k < 4 → (r k).length ≤ 3) ∧ HostsAt news H r th ∧ RecsAt w.params news R rx r ∧ (SH, listOf its nn) ∈ news ∧ its.size = 6 ∧ (∀ k, k < 6 → ∃ t, its[k]? = some (.int (Wt r k) t)) ∧ AgAt news AG r u
def tokOf : Option Value → Tok
  | some (.int _ t) => t
  | _ => 0
theorem its_at {r : Nat → Row} {its : Array Value} (ik : ∀ k, k < 6 → ∃ t, its[k]? = some (.int (Wt r k) t)) : ∀ k, k < 6 → its[k]? = some (.int ((Wt r k : Nat) : Int) (tokOf its[k]?)) := fun k hk => by
  obtain ⟨t, e⟩ := ik k hk
  rw [e]
  rfl
theorem its_ints {r : Nat → Row} {its : Array Value} (iz : its.size = 6) (ik : ∀ k, k < 6 → ∃ t, its[k]? = some (.int (Wt r k) t)) : ∃ vs, its = vs.toArray ∧ IntsAre vs [((Wt r 0 : Nat) : Int), (Wt r 1 : Nat), (Wt r 2 : Nat), (Wt r 3 : Nat), (Wt r 4 : Nat), (Wt r 5 : Nat)] := by
  refine ⟨[.int (Wt r 0 : Nat) (tokOf its[0]?), .int (Wt r 1 : Nat) (tokOf its[1]?), .int (Wt r 2 : Nat) (tokOf its[2]?), .int (Wt r 3 : Nat) (tokOf its[3]?), .int (Wt r 4 : Nat) (tokOf its[4]?), .int (Wt r 5 : Nat) (tokOf its[5]?)], ?_, .cons _ _ (.cons _ _ (.cons _ _ (.cons _ _ (.cons _ _ (.cons _ _ .nil)))))⟩
  apply Array.ext_getElem?
  intro i
  by_cases hi : i < 6
  · rw [its_at ik i hi]
    revert i
    exact below6 rfl rfl rfl rfl rfl rfl
  · rw [Array.getElem?_eq_none (by omega), Array.getElem?_eq_none (by simp; omega)]
theorem sliceRawT {prog : Program} {w : World} {A : Around} {E : Value → Shared → Prop} {s : Shared} {Q : Value → Shared → Prop} {value slice : PySem.Expr} {l : Addr} {items : Array Value} {vl vu : Value} {lo hi : Option Int} (hl : s.heap.IsList l items) (pl : IsPart vl lo) (pu : IsPart vu hi)
    (h : ∀ h', h'.get? (s.heap.objs.size + 1) = some { cls := .type "list", data := .seq (slicePick items lo hi none) } → (∀ b o, s.heap.get? b = some o → h'.get? b = some o) → Q (.ref (s.heap.objs.size + 1)) { s with heap := h' })
    (hsz : items.size ≤ 1000)
    (hs : subscripted slice false (.ref l) (.ref s.heap.objs.size) = operate [.ref s.heap.objs.size, .ref l] (getItem (.ref l) (.ref s.heap.objs.size)) := by with_unfolding_all rfl) :
    wpAny (model prog w) A (subscriptTail value slice (.ref l) (.ref s.heap.objs.size)) Q E { s with heap := s.heap.push { cls := .type "slice", data := .fields #[vl, vu, .none] } } := by
  refine tail_any (Heap.IsList.typeIs (s := { s with heap := s.heap.push { cls := .type "slice", data := .fields #[vl, vu, .none] } }) (hl.push _)) list_getitem_lookup
    (wpAny_getItem_list_slice (hl.push _) (Heap.IsSliceOf.new ..) pl pu .none (by simp) ?_ (Nat.le_trans hsz (by decide))) hs
  show Q (.ref (s.heap.push _).objs.size) _
  have e := Heap.get?_push_size (s.heap.push { cls := .type "slice", data := .fields #[vl, vu, .none] }) (o := { cls := .type "list", data := .seq (slicePick items lo hi none) }) rfl
  rw [Heap.size_push] at e ⊢
  exact h _ e fun b o e => Heap.get?_push_of_some _ (Heap.get?_push_of_some _ e)
end Mine
namespace Mine
theorem calm33 : True := by
  w_top off
  first
    | (walk1; trivial)
    | trivial
end Mine
namespace Mine
local macro_rules | `(tactic| ktr_rel) => `(tactic| first | exact rfl | assumption | (refine Eq.trans (if_neg (by decide)) ?_; ktr_rel))
local macro_rules | `(tactic| walk_at "eval Name") => `(tactic| (k_here; k_dflt (refine' cname_L ?k1 ?k2 ?_ ?k3 ?k4 ?k5 ?k6; (case k3 => rfl); (case k4 => rfl); (case k5 => rfl); (case k6 => decide); (case k1 => k_asm); (case k2 => assumption); k_whole)))
theorem law_holds : PySem.Challenge.rw_re0078_01.Holds := hd (by
  clear law_holds
  k_go0
  w_top off
  rename_i w s₀ s mg mb G Y fa o pm doc ho hgens X X9 V GL T B TE TW ad1 ob1 M ad2 ad3 hcd ns hs hlay0 hL1 hr1 hl2 as1 as2 sc vs as3 hL ra w1 r0 hI hr hc1 hc2 K0 hD h₁ tk₁ F' oj0 oh0 dj0 dh0 N' X0
  refine wpAny_mono (Q := fun fl s' => Stop ((match fl with | .ret v => v | _ => .none) = Value.bool true ∧ Keeps s s')) (E := fun _ _ => False) ?_ ?_ (fun _ _ f => f.elim)
  rotate_left
  · intro fl s' q
    obtain ⟨e, h2, tk2, rfl, kk⟩ := q.out
    cases fl with
    | ret v =>
      obtain rfl : v = .bool true := e
      refine ⟨.inl ⟨_, .bool true, [], rfl, raisesW_false ?hn, .bool true, ?hp, unshared_nil⟩, kk, rfl, hgens⟩
      case hn => wrow_none_raised
      case hp => wrow_post
    | next => exact absurd (show Value.none = Value.bool true from e) (fun z => Value.noConfusion z)
    | brk => exact absurd (show Value.none = Value.bool true from e) (fun z => Value.noConfusion z)
    | cont => exact absurd (show Value.none = Value.bool true from e) (fun z => Value.noConfusion z)
  have h63 : ns.length ≤ 63 := by omega
  clear X0 hD K0 hc1 hc2 hr r0 w1 ra hl2 hr1 hL1 hlay0 hs hcd M TW TE B GL V X9 Y G ho hgens
  have h : ∀ s', Keeps s s' → Stop ((Value.bool true) = Value.bool true ∧ Keeps s s') := fun s' k => ⟨rfl, k⟩
  dsimp only at F' ⊢
  obtain ⟨p0, loose0, mean0, T0⟩ : ∃ p0 loose0 mean0, Top p0 loose0 mean0 mg mb s.heap := ⟨_, _, _, T⟩
  clear T
  have T := T0
  clear T0
  obtain ⟨vj0, dj1⟩ : ∃ v, oj0.data = .cell v := ⟨_, dj0⟩
  obtain ⟨vh0, dh1⟩ : ∃ v, oh0.data = .cell v := ⟨_, dh0⟩
  clear dj0 dh0
  generalize hL' : s.heap.objs.size = L' at F' N' ⊢
  clear hL'
  obtain ⟨m0, hm0, F0⟩ : ∃ m0 : Str → Option Value, m0 (Str.ofString "script") = some (.ref sc) ∧ Fr s.heap L' h₁ m0 := ⟨_, rfl, F'⟩
  clear F'
  have F' := F0
  clear F0
  generalize hA : callerA = A0
  have hh : A0.handled = none := by rw [← hA]; rfl
  have hroom : A0.depth + 20 < recursionLimit := by rw [← hA]; decide
  have hun : A0.units + 100 < cLine := by rw [← hA]; decide
  clear hA
  obtain ⟨ahd, adp, afr, agd, aun⟩ := A0
  dsimp only at hh hroom hun
  subst hh
  refine seq (M1 s L') ?_ ?_
  ·
    k_dflt (refine' comp_AX (news := [(L' + 1 + 1, oj0), (L' + 1, oh0)]) IntItems RelRow ?k1 ?kh ?k2 ?k3 ?k4 ?k5 ?k6 ?k7 ?k8 ?k9 ?k10 ?k11 ?_ ?_ ?_)
    case k1 => k_asm
    case kh => exact rfl
    case k2 => exact rfl
    case k3 => (with_unfolding_all rfl)
    case k4 => exact rfl
    case k5 => decide
    case k6 => exact rfl
    case k7 => decide
    case k8 => exact rfl
    case k9 => exact rfl
    case k10 => exact rfl
    case k11 => intro _; rfl
    · (repeat (with_reducible show wpAny _ _ _ _ _ _); walk1)
      obtain ⟨x0, t0, x1, t1, x2, t2, x3, t3, hE9⟩ := four (ns := ns) (by with_reducible assumption)
      subst hE9
      exact ⟨⟨_, ⟨_, _, _, _, _, _, _, _, rfl⟩, Nat.le_of_ble_eq_true rfl, _, _, _, _, rfl, rfl, by assumption, by assumption, .inr ⟨_, by k_mem, rfl, _, rfl⟩, by lcg_sub⟩⟩
    · intro its i v C m₂ s9 E9 hPI hv F9 N9 hn hx
      obtain ⟨x, t, rfl⟩ := intItems_at hPI hv
      refine Call_ ?_
      k_dflt (refine nmG (X.keeps F9.keep) (T.keeps F9.keep) (by k_is) ?_)
      k_dflt (refine callWith_K (X.keeps F9.keep) (by k_is) ?_)
      refine spliced_more ?_
      k_dflt (refine ldVarK hn hx ?_)
      refine spliced_none ⟨X.keeps F9.keep, ?_⟩
      refine labels (X.keeps F9.keep) (T.keeps F9.keep) (by dsimp only [Around.deeper]; omega) rfl fun s2 a ys k2 hno ⟨nn, hpl⟩ hys => ?_
      exact ⟨⟨[(a, listOf (List.toArray ys) nn)], k2, fun p hp => by rw [List.mem_singleton.mp hp]; exact ⟨hpl, hno⟩, a, nn, ys, rowOf x, rfl, rfl, hys, rowOf_len x⟩⟩
    · intro its D ys tls h9 tk9 hPI hl hm F9 N9 _
      obtain ⟨x0, t0, x1, t1, x2, t2, x3, t3, rfl⟩ := hPI
      exact ⟨⟨rfl, m1_of F9 N9 hl hm (by k_mem) (by k_mem) (by assumption) (by assumption)⟩⟩
  clear F' N'
  rintro s' ⟨h1, tk1, m1, oh, oj, vh, vj, news, D, a, y, n, r, rfl, S1, dh, dj, mr, R1⟩
  refine seq (M2 s L') ?_ ?_
  ·
    refine wpAny_Assign_Name ?_
    k_dflt (refine' comp_E (its := #[.ref (a 0), .ref (a 1), .ref (a 2), .ref (a 3)]) (RelHost r) S1.F S1.all ?kh ?k3 ?k4 ?k5 ?k6 ?k7 ?k11 ?k12 ?_ ?_ ?_)
    case kh => exact rfl
    case k3 => (with_unfolding_all rfl)
    case k4 => decide
    case k5 => exact rfl
    case k6 => decide
    case k7 => exact rfl
    case k11 => intro _; rfl
    case k12 => exact Nat.le_of_ble_eq_true rfl
    · k_dflt (refine' cname_L S1.F mr ?_ ?k3 ?k4 ?k5 ?k6; (case k3 => rfl); (case k4 => rfl); (case k5 => rfl); (case k6 => decide))
      exact ⟨⟨D, h1, tk1, _, rfl, rfl, S1.F, S1.all, .inr ⟨_, List.mem_cons_of_mem _ (List.mem_cons_of_mem _ R1.1), rfl, _, rfl⟩, fun p hp => hp⟩⟩
    · intro i v C m₂ s9 E9 hv F9 N9 hn hx
      obtain ⟨hi, rfl⟩ := items4 (f := fun k => Value.ref (a k)) hv
      obtain ⟨q1, q2, q3⟩ := R1.2 i hi
      have g1 := (N9 _ (List.mem_cons_of_mem _ (List.mem_cons_of_mem _ q1))).1
      refine MethodCall_ ?_
      refine Calls.Constant_str ?_
      refine GM.join ?_
      k_dflt (refine callWith_method1 ?_)
      refine spliced_more ?_
      refine wpAny_BinOp ?_
      k_dflt (refine ldVarK (s := { s9 with toks := _ }) hn hx ?_)
      refine List_ ?_
      refine spliced_more ?_
      refine Calls.Constant_str ?_
      refine spliced_none ?_
      refine wpAny_newObj_type ?_
      refine addRaw (vs := y i) (ws := [_]) ⟨_, Heap.get?_push_of_some _ g1, rfl, _, rfl⟩ ⟨_, Heap.get?_push_size _ rfl, rfl, _, rfl⟩ ?_ ?_
      · refine spliced_none ?_
        refine join_listC (ys := (r i).map lab ++ [rd "local"]) ⟨_, Heap.get?_push_size _ rfl, rfl, _, rfl⟩ (strs_app q2 (.cons _ _ .nil)) (Nat.le_of_ble_eq_true rfl) (join_fit _ (row_mem _ q3)) ?_
        intro t' k
        rw [join_host _ (row_mem _ q3)]
        exact ⟨⟨[], ⟨_, _, rfl, fun b o e => Heap.get?_push_of_some _ (Heap.get?_push_of_some _ e)⟩, fun p hp => (nomatch hp), rfl, t', rfl⟩⟩
      · have := strs_len q2
        simp only [List.length_map] at this
        simp only [List.length_singleton]
        omega
    · intro H ys tls h9 tk9 hl hm F9 N9 _
      k_dflt (refine' wpAny_storeName_cell (c := L' + 1) ?k1 ?k2 ?k3 ⟨oh, (N9 _ (List.mem_cons_of_mem _ (List.mem_append_right _ List.mem_cons_self))).1, dh⟩ ?_; (case k1 => rfl); (case k2 => rfl); (case k3 => rfl))
      intro h2 hc hs
      exact ⟨⟨rfl, m2_of F9 N9 hl hm S1.nc dh dj mr R1 hc hs⟩⟩
  clear mr R1 S1 dh dj
  clear D a y n r m1 h1 tk1 oh oj vh vj news
  rintro s' ⟨h1, tk1, m1, oh, oj, vj, news, D, a, y, n, r, H, th, rfl, S1, dh, dj, mr, R1, H1⟩
  refine seq (M3 w.params s L') ?_ ?_
  ·
    k_dflt (refine' comp_AR (a := 0) (n := 4) (RelRec w.params r) S1.F S1.all ?kh ?k2 ?k3 ?k4 ?k5 ?k6 ?k7 ?k8 ?k9 ?k10 ?k11 ?k12 ?k13 ?_ ?_ ?_)
    case kh => exact rfl
    case k2 => exact rfl
    case k3 => (with_unfolding_all rfl)
    case k4 => (with_unfolding_all rfl)
    case k5 => decide
    case k6 => exact rfl
    case k7 => decide
    case k8 => exact rfl
    case k9 => exact rfl
    case k10 => exact rfl
    case k11 => intro _; rfl
    case k12 => decide
    case k13 => decide
    · have F' := S1.F
      have N' := S1.all
      k_steps
      all_goals exact ⟨⟨_, _, _, _, _, _, rfl, rfl, by assumption, by assumption, by assumption⟩⟩
    · intro i t C m₂ s9 E9 hi F9 N9 hn hx
      have hcell : s9.heap.IsCell (L' + 1) (some (.ref H)) := ⟨oh, (N9 _ List.mem_cons_self).1, dh⟩
      have hH : s9.heap.IsList H _ := ⟨_, (N9 _ (List.mem_cons_of_mem _ (List.mem_cons_of_mem _ H1))).1, rfl, _, rfl⟩
      refine Call_ ?_
      k_dflt (refine nmG (X.keeps F9.keep) (T.keeps F9.keep) (by k_is) ?_)
      k_dflt (refine callWith_K (X.keeps F9.keep) (by k_is) ?_)
      refine spliced_more ?_
      refine Subscript_ ?_
      k_dflt (refine ldCellK (c := L' + 1) (by with_unfolding_all rfl) hcell ?_)
      k_dflt (refine ldVarK hn hx ?_)
      refine item_list (x := .str (host (r i)) (th i)) hH (by omega) (by omega) (by rw [show (0 + (i : Int)).toNat = i by omega]; exact items4' (f := fun k => Value.str (host (r k)) (th k)) i hi) ?_
      refine spliced_more ?_
      refine wpAny_Compare1 ?_
      k_dflt (refine ldVarK hn hx ?_)
      refine List_ ?_
      refine spliced_more ?_
      refine wpAny_Constant_int ?_
      refine spliced_more ?_
      refine wpAny_Constant_int ?_
      refine spliced_none ?_
      refine wpAny_newObj_type ?_
      refine in_list_ints (vs := [_, _]) (ns := [1, 2]) ⟨_, Heap.get?_push_size _ rfl, rfl, _, rfl⟩ (.cons _ _ (.cons _ _ .nil)) ?_
      refine spliced_none ⟨(X.keeps F9.keep).keeps fun b o e => Heap.get?_push_of_some _ e, ?_⟩
      k_dflt (refine' record (r := r i) (tb := turned i) ?x ?t ?d ?h ?rl ?_)
      case x => exact (X.keeps F9.keep).keeps fun b o e => Heap.get?_push_of_some _ e
      case t => exact (T.keeps F9.keep).keeps fun b o e => Heap.get?_push_of_some _ e
      case d => exact (show adp + 1 + 9 < recursionLimit by omega)
      case h => rfl
      case rl => exact (R1.2 i hi).2.2
      intro s2 x dx u l k vs2 ws2 n1 n2 n3 k2 hno hvs hws
      obtain ⟨h2, tk2, rfl, kk⟩ := k2
      refine ⟨⟨EntNews w.params x dx u l k vs2 ws2 n1 n2 n3, ⟨h2, tk2, rfl, fun b o e => kk b o (Heap.get?_push_of_some _ e)⟩, fun p hp => ⟨(hno p hp).1, ?_⟩, x, dx, u, l, k, vs2, ws2, n1, n2, n3, rfl, rfl, hvs, hws⟩⟩
      cases q : s9.heap.get? p.1 with
      | none => rfl
      | some o => have := (hno p hp).2; rw [Heap.get?_push_of_some _ q] at this; cases this
    · intro R ys tls h9 tk9 hl hm F9 N9 _
      exact ⟨⟨rfl, m3_of F9 N9 hl hm S1.nc dh dj mr R1 H1⟩⟩
  clear mr R1 S1 H1 dh dj
  clear D a y n r m1 h1 tk1 oh oj vj news H th
  rintro s' ⟨h1, tk1, m1, oh, oj, vj, news, D, a, y, n, r, H, th, R, rx, rfl, S1, dh, dj, mr, mR, R1, H1, G1⟩
  refine seq (M4 w.params s L') ?_ ?_
  ·
    k_dflt (refine' nest_A (h₀ := s.heap) (L := L') (m := m1) (st := false) (n0 := 4) (P0 := fun i v => ∃ t, v = .int (0 + (i : Nat)) t) (news := (L' + 1, oh) :: (L' + 1 + 1, oj) :: news) ListO RelPair cntP (fun _ => 0) ?kh ?k2 ?k3 ?k4 ?k5 ?k6 ?k7 ?k8 ?k9 ?k10 ?k11 ?k12 ?k13 ?k14 ?k15 ?k16 ?k17 ?_ ?_ ?_ ?_)
    case kh => exact rfl
    case k2 => exact rfl
    case k3 => (with_unfolding_all rfl)
    case k4 => (with_unfolding_all rfl)
    case k5 => decide
    case k6 => exact rfl
    case k7 => decide
    case k8 => exact rfl
    case k9 => exact rfl
    case k10 => decide
    case k11 => exact rfl
    case k12 => exact rfl
    case k13 => intro _; rfl
    case k14 => intro _ _; rfl
    case k15 => exact fun i => Nat.min_le_right _ _
    case k16 => exact fun i => by decide
    case k17 => exact fun s Q h => new_list s Q h
    · refine wpAny_mono (Q := fun xv s₁ => Stop (∃ h1' tk t u v rr, xv = .ref rr ∧ s₁ = { s with heap := h1', toks := tk } ∧ IsRange h1' rr 0 4 1 t u v ∧ Fr s.heap L' h1' m1 ∧ News s.heap L' h1' ((L' + 1, oh) :: (L' + 1 + 1, oj) :: news))) ?_ ?_ (fun _ _ e => e)
      · have F' := S1.F
        have N' := S1.all
        k_steps
        all_goals exact ⟨⟨_, _, _, _, _, _, rfl, rfl, by assumption, by assumption, by assumption⟩⟩
      · rintro xv s₁ ⟨h2, tk2, t, u, v, rr, rfl, rfl, hr, F2, N2⟩
        exact src_range (a := 0) (n0 := 4) rfl hr (by decide) (by decide) F2 N2
    · intro i v C s9 m₂ E9 hP hi F9 N9 hn hx hs
      obtain ⟨t, rfl⟩ := hP
      refine Call_ ?_
      k_dflt (refine nmB (X.keeps F9.keep) (T.keeps F9.keep) (by k_is) (by boot_by_name) (by decide) ?_)
      k_dflt (refine PyProof.Rows.callWith_type1 ?_)
      refine spliced_more ?_
      k_dflt (refine ldVarK hn hx ?_)
      refine spliced_none ?_
      refine call_range_1 ?_
      have e : (0 : Int) + (cntP i : Nat) = 0 + (i : Nat) := by unfold cntP; omega
      exact ⟨⟨_, _, _, _, rfl, ⟨_, _, rfl, fun b o e => Heap.get?_push_of_some _ e⟩, by rw [e]; exact IsRange.new ..⟩⟩
    · intro i j v t C D s9 m₂ E9 zs o hP hj F9 N9 off hn hx hy hD hacc hl hi hs
      obtain ⟨tv, rfl⟩ := hP
      refine emit_list hD hacc (by unfold cntP at hj; omega) ?_
      refine Tuple_ ?_
      refine spliced_more ?_
      k_dflt (refine ldVarK hn hy ?_)
      refine spliced_more ?_
      k_dflt (refine ldVarK hn hx ?_)
      refine spliced_none ?_
      refine wpAny_newObj_type ?_
      refine ⟨⟨[(_, tupO (j : Nat) (i : Nat) t tv)], ⟨_, _, rfl, fun b o e => Heap.get?_push_of_some _ e⟩, ?_, _, _, _, rfl, rfl⟩⟩
      intro p hp
      rw [List.mem_singleton.mp hp]
      refine ⟨?_, ?_⟩
      · have e1 : (0 : Int) + (j : Nat) = (j : Nat) := by omega
        have e2 : (0 : Int) + (i : Nat) = (i : Nat) := by omega
        rw [e1, e2]
        exact Heap.get?_push_size _ rfl
      · exact Heap.get?_none_of_le (Nat.le_refl _)
    · intro PL o zs tls h9 tk9 ho hm F9 N9 _
      exact ⟨⟨rfl, m4_of F9 N9 ho hm S1.nc dh dj mr mR R1 H1 G1⟩⟩
  clear mr mR R1 S1 H1 G1 dh dj
  clear D a y n r m1 h1 tk1 oh oj vj news H th R rx
  rintro s' ⟨h1, tk1, m1, oh, oj, vj, news, D, a, y, n, r, H, th, R, rx, PL, tp, t1, t2, rfl, S1, dh, dj, mr, mR, mP, R1, H1, G1, P1⟩
  refine seq (M5 w.params 0 s L') ?_ ?_
  ·
    refine wpAny_Assign_Name ?_
    refine List_ ?_
    refine spliced_none ?_
    refine wpAny_newObj_type ?_
    have kk : ∀ b o, h1.get? b = some o → (h1.push { cls := .type "list", data := .seq ([] : List Value).toArray }).get? b = some o := fun b o e => Heap.get?_push_of_some _ e
    refine stL (S1.keeps kk).F.ns rfl rfl rfl fun h2 k2 hn2 hs2 => ?_
    have hno : s.heap.get? h1.objs.size = none := next_is_new S1.F
    have S2 : St s L' (h1.push { cls := .type "list", data := .seq ([] : List Value).toArray }) m1 oh oj ((h1.objs.size, listOf #[] 0) :: news) := by
      refine ⟨(S1.keeps kk).F, (S1.keeps kk).Nh, (S1.keeps kk).Nj, fun p hp => ?_, S1.nc.cons fun v e => Data.noConfusion e⟩
      rcases List.mem_cons.mp hp with rfl | hp
      · exact ⟨Heap.get?_push_size _ rfl, Nat.ne_of_gt S1.F.ns.lt, hno⟩
      · exact (S1.keeps kk).N p hp
    refine ⟨⟨rfl, h2, k2, _, oh, oj, vj, news, D, a, y, n, r, H, th, R, rx, PL, tp, t1, t2, h1.objs.size, #[], 0, rfl, S2.setL hn2 hs2, dh, dj, by ktr_rel, by ktr_rel, by ktr_rel, by ktr_rel, R1, H1, G1, P1, rfl, fun k hk => absurd hk (Nat.not_lt_zero _), fun p hp => Nat.ne_of_lt (Heap.lt_size (S1.N p hp).1)⟩⟩
  clear mr mR mP R1 S1 H1 G1 P1 dh dj
  clear D a y n r m1 h1 tk1 oh oj vj news H th R rx PL tp t1 t2
  rintro s' ⟨h1, tk1, m1, oh, oj, vj, news, D, a, y, n, r, H, th, R, rx, PL, tp, t1, t2, SH, its, nn, rfl, S1, dh, dj, mr, mR, mP, mS, R1, H1, G1, P1, iz, ik, ne⟩
  refine seq (M5 w.params 6 s L') ?_ ?_
  ·
    k_dflt (refine' forL (its := #[.ref (tp 0), .ref (tp 1), .ref (tp 2), .ref (tp 3), .ref (tp 4), .ref (tp 5)]) (J6 s L' oh news SH D R PL r) [L', L' + 1 + 1, SH] ?kh ?kE ?ks ?_ J6.stable ?_ ?_)
    case kh => exact rfl
    case kE => exact rfl
    case ks => intro _; rfl
    · refine eL S1.F.ns mP ?_ rfl rfl rfl (by decide)
      have zS := (S1.N _ List.mem_cons_self)
      refine ⟨⟨PL, rfl, ⟨_, (S1.N _ (List.mem_cons_of_mem _ P1.1)).1, rfl, _, rfl⟩, ?_, ?_, ?_⟩⟩
      · have z := (S1.N _ (List.mem_cons_of_mem _ P1.1))
        intro hm
        simp only [List.mem_cons, List.not_mem_nil, or_false] at hm
        rcases hm with e | e | e
        · exact z.2.1 e
        · exact S1.ne_j dj _ (List.mem_cons_of_mem _ P1.1) e
        · exact ne _ P1.1 e
      · intro b hm
        simp only [List.mem_cons, List.not_mem_nil, or_false] at hm
        rcases hm with rfl | rfl | rfl
        · exact S1.F.ns.lt
        · exact Heap.lt_size (S1.Nj _ List.mem_cons_self).1
        · exact Heap.lt_size zS.1
      · exact ⟨h1, tk1, m1, oj, vj, its, nn, rfl, S1, dj, ⟨mr, mR, mP, mS⟩, iz, fun k hk => absurd hk (Nat.not_lt_zero _), Heap.lt_size (S1.Nj _ List.mem_cons_self).1, Heap.lt_size zS.1, fun p hp => Heap.lt_size (S1.N p (List.mem_cons_of_mem _ hp)).1⟩
    · intro N i v s9 hi hv hJ _
      obtain ⟨h2, tk2, m2, oj2, vj2, it2, n2, rfl, S2, d2, ⟨q1, q2, q3, q4⟩, z2, hit2, B1, B2, B3⟩ := hJ
      obtain ⟨hi6, rfl⟩ := items6 (f := fun k => Value.ref (tp k)) hv
      obtain ⟨pi4, pj4⟩ := pIJ i hi6
      refine asg2 rfl (S2.N _ (List.mem_cons_of_mem _ (P1.2 i hi6))).1 rfl rfl rfl fun h3 k3 => ?_
      refine wpAny_assign_Name (stL (S2.keeps k3).F.ns rfl rfl rfl fun h4 k4 hn4 hs4 => ?_)
      have S4 := (S2.keeps k3).setL hn4 hs4
      refine wpAny_assign_Name (wpAny_storeName_cell (c := L' + 1 + 1) rfl rfl rfl ⟨oj2, (S4.Nj _ List.mem_cons_self).1, d2⟩ fun h5 hc5 hs5 => ?_)
      obtain ⟨oj5, S5, d5⟩ := S4.store_j d2 hc5 hs5
      have X5 := X.keeps S5.F.keep
      have T5 := T.keeps S5.F.keep
      have cR : h5.IsList R _ := ⟨_, (S5.N _ (List.mem_cons_of_mem _ G1.1)).1, rfl, _, rfl⟩
      have cH : h5.IsList H _ := ⟨_, (S5.N _ (List.mem_cons_of_mem _ H1)).1, rfl, _, rfl⟩
      have cj : h5.IsCell (L' + 1 + 1) (some (.int ((pJ i : Nat) : Int) (t2 i))) := ⟨oj5, (S5.Nj _ List.mem_cons_self).1, d5⟩
      have chh : h5.IsCell (L' + 1) (some (.ref H)) := ⟨oh, (S5.Nh _ List.mem_cons_self).1, dh⟩
      obtain ⟨ui, li, Ei⟩ := ((G1.2 _ pi4).mono fun p hp => List.mem_cons_of_mem (SH, listOf it2 n2) hp).ent S5.N
      obtain ⟨uj, lj, Ej⟩ := ((G1.2 _ pj4).mono fun p hp => List.mem_cons_of_mem (SH, listOf it2 n2) hp).ent S5.N
      obtain ⟨bi, oi⟩ := recUs_ok (r := r) (i := pI i) (R1.2 _ pi4).2.2
      obtain ⟨bj, oj'⟩ := recUs_ok (r := r) (i := pJ i) (R1.2 _ pj4).2.2
      refine wpAny_execs_cons ?_
      refine wpAny_Assign_Name ?_
      refine Call_ ?_
      k_dflt (refine eG X5 T5 (by k_is) ?_ rfl rfl rfl (by decide))
      k_dflt (refine callWith_K X5 (by k_is) ?_)
      refine spliced_more ?_
      refine Subscript_ ?_
      refine eL S5.F.ns (v := .ref R) (by ktr_rel) ?_ rfl rfl rfl (by decide)
      refine eL S5.F.ns (v := .int ((pI i : Nat) : Int) (t1 i)) (by ktr_rel) ?_ rfl rfl rfl (by decide)
      refine item_list (x := .ref (rx (pI i))) cR (by omega) (by omega) (items4' (f := fun k => Value.ref (rx k)) _ pi4) ?_
      refine spliced_more ?_
      refine Subscript_ ?_
      refine eL S5.F.ns (v := .ref R) (by ktr_rel) ?_ rfl rfl rfl (by decide)
      refine eC cj ?_ rfl rfl rfl (by decide)
      refine item_list (x := .ref (rx (pJ i))) cR (by omega) (by omega) (items4' (f := fun k => Value.ref (rx k)) _ pj4) ?_
      refine spliced_none ⟨X5, ?_⟩
      k_dflt (refine' mergeN X5 T5 ?d rfl Ei Ej ?b1 ?b2 ?b3 ?_)
      case d => exact (show adp + 1 + 9 < recursionLimit by omega)
      case b1 => omega
      case b2 => omega
      case b3 => exact Nat.le_of_ble_eq_true rfl
      intro h6 tk6 x6 u6 l6 k6 E6
      refine stL (S5.keeps k6).F.ns rfl rfl rfl fun h7 k7 hn7 hs7 => ?_
      have S7 := (S5.keeps k6).setL hn7 hs7
      obtain ⟨oL, _, _, hoL, _⟩ := S5.F.ns
      have E7 := (E6.set hoL hs7).ent
      have X7 := X.keeps S7.F.keep
      have T7 := T.keeps S7.F.keep
      refine wpAny_execs_cons ?_
      refine wpAny_If ?_
      refine wpAny_isTrue_Compare1 ?_
      k_dflt (refine Attribute_Name_ ?_)
      refine eL S7.F.ns (v := .ref x6) (by ktr_rel) ?_ rfl rfl rfl (by decide)
      refine entU X7 E7 ?_
      obtain ⟨ua, la, Ea⟩ := ((G1.2 _ pi4).mono fun p hp => List.mem_cons_of_mem (SH, listOf it2 n2) hp).ent S7.N
      obtain ⟨va, ia, sa⟩ := Ea.list
      have da : h7.IsList R _ := ⟨_, (S7.N _ (List.mem_cons_of_mem _ G1.1)).1, rfl, _, rfl⟩
      k_dflt (refine' filt (its := va.toArray) (keepStr (recUs r (pJ i))) ?kh ?k3 ?k4 ?k5 ?k6 ?k7 ?k8 ?k9 ?k10 ?_ ?_ ?_)
      case kh => exact rfl
      case k3 => (with_unfolding_all rfl)
      case k4 => decide
      case k5 => exact rfl
      case k6 => decide
      case k7 => exact rfl
      case k8 => decide
      case k9 => intro _; rfl
      case k10 => have := strs_len sa; rw [List.size_toArray]; omega
      · k_dflt (refine Attribute_any_ ?_)
        refine Subscript_ ?_
        refine eL S7.F.ns (v := .ref R) (by ktr_rel) ?_ rfl rfl rfl (by decide)
        refine eL S7.F.ns (v := .int ((pI i : Nat) : Int) (t1 i)) (by ktr_rel) ?_ rfl rfl rfl (by decide)
        refine item_list (x := .ref (rx (pI i))) da (by omega) (by omega) (items4' (f := fun k => Value.ref (rx k)) _ pi4) ?_
        refine entU X7 Ea ?_
        exact ⟨⟨ua, rfl, ⟨_, _, rfl, fun _ _ e => e⟩, ia⟩⟩
      · intro v s8 C m8 E8 hv8 hn8 hm8 hk8
        obtain ⟨yy, t8, rfl, hy8⟩ := strs_mem sa v hv8
        obtain ⟨_, q, hq, rfl⟩ := oi yy hy8
        have X8 := X7.keeps hk8
        have T8 := T7.keeps hk8
        have e1 : s8.heap.IsCell (L' + 1) (some (.ref H)) := ⟨oh, hk8 _ _ (S7.Nh _ List.mem_cons_self).1, dh⟩
        have e2 : s8.heap.IsCell (L' + 1 + 1) (some (.int ((pJ i : Nat) : Int) (t2 i))) := ⟨oj5, hk8 _ _ (S7.Nj _ List.mem_cons_self).1, d5⟩
        have e3 : s8.heap.IsList H _ := ⟨_, hk8 _ _ (S7.N _ (List.mem_cons_of_mem _ H1)).1, rfl, _, rfl⟩
        refine isTrue_plain ?_
        refine Call_ ?_
        k_dflt (refine nmG X8 T8 (by k_is) ?_)
        k_dflt (refine callWith_K X8 (by k_is) ?_)
        refine spliced_more ?_
        refine MethodCall_ ?_
        refine Subscript_ ?_
        k_dflt (refine ldCellK (c := L' + 1) (by with_unfolding_all rfl) e1 ?_)
        k_dflt (refine ldCellK (c := L' + 1 + 1) (by with_unfolding_all rfl) e2 ?_)
        refine item_list (x := .str (host (r (pJ i))) (th (pJ i))) e3 (by omega) (by omega) (items4' (f := fun k => Value.str (host (r k)) (th k)) _ pj4) ?_
        refine GM.upper ?_
        refine callWith_method0 ?_
        refine SCL.upper (Nat.le_trans (reach_facts _ (row_mem _ (R1.2 _ pj4).2.2)).1 (by decide)) fun _ => ?_
        refine spliced_more ?_
        k_dflt (refine ldVarK (s := { s8 with toks := _ }) hn8 hm8 ?_)
        refine spliced_none ⟨X8, ?_⟩
        k_dflt (refine' domMatch_K (r := r (pJ i)) (q := q) ?x ?t ?d (row_mem _ (R1.2 _ pj4).2.2) hq ?_)
        case x => exact X8
        case t => exact T8
        case d => exact (show adp + 1 + 5 < recursionLimit by omega)
        intro s8' k8'
        obtain ⟨h8', tk8', rfl, k8''⟩ := k8'
        refine wpAny_truthy_bool ⟨?_, ⟨_, _, rfl, k8''⟩⟩
        show under _ _ = (recUs r (pJ i)).contains _
        rw [recUs_contains, contains_rung _ (row_mem _ (R1.2 _ pj4).2.2) _ hq]
      · intro D8 h8 tk8 l8 k8
        have S8 := S7.keeps k8
        have E8 := E7.keeps k8
        have X8 := X7.keeps k8
        have T8 := T7.keeps k8
        obtain ⟨v8, i8, s8⟩ := E8.list
        refine neStrs (us := both r (pI i) (pJ i)) i8 l8 s8 (filter_strs sa) (fun z hz => (oi z (List.mem_filter.mp hz).1).1) (show aun + 3 + 64 < cLine by omega) ?_
        refine wpAny_truthy_bool ?_
        show wpAny _ _ (execs [] _) _ _ _
        refine wpAny_execs_nil ?_
        show wpAny _ _ (execs _ _) _ _ _
        refine wpAny_execs_cons ?_
        refine wpAny_If ?_
        refine wpAny_isTrue_Compare1 ?_
        k_dflt (refine Attribute_Name_ ?_)
        refine eL S8.F.ns (v := .ref x6) (by ktr_rel) ?_ rfl rfl rfl (by decide)
        refine entL X8 E8 ?_
        have f1 : h8.IsCell (L' + 1) (some (.ref H)) := ⟨oh, (S8.Nh _ List.mem_cons_self).1, dh⟩
        have f2 : h8.IsCell (L' + 1 + 1) (some (.int ((pJ i : Nat) : Int) (t2 i))) := ⟨oj5, (S8.Nj _ List.mem_cons_self).1, d5⟩
        have f3 : h8.IsList H _ := ⟨_, (S8.N _ (List.mem_cons_of_mem _ H1)).1, rfl, _, rfl⟩
        refine List_ ?_
        refine spliced_more ?_
        refine Subscript_ ?_
        refine eC f1 ?_ rfl rfl rfl (by decide)
        refine eL S8.F.ns (v := .int ((pI i : Nat) : Int) (t1 i)) (by ktr_rel) ?_ rfl rfl rfl (by decide)
        refine item_list (x := .str (host (r (pI i))) (th (pI i))) f3 (by omega) (by omega) (items4' (f := fun k => Value.str (host (r k)) (th k)) _ pi4) ?_
        refine spliced_more ?_
        refine Subscript_ ?_
        refine eC f1 ?_ rfl rfl rfl (by decide)
        refine eC f2 ?_ rfl rfl rfl (by decide)
        refine item_list (x := .str (host (r (pJ i))) (th (pJ i))) f3 (by omega) (by omega) (items4' (f := fun k => Value.str (host (r k)) (th k)) _ pj4) ?_
        refine spliced_none ?_
        refine wpAny_newObj_type ?_
        have k9 : ∀ b o, h8.get? b = some o → (h8.push { cls := .type "list", data := .seq [Value.str (host (r (pI i))) (th (pI i)), Value.str (host (r (pJ i))) (th (pJ i))].toArray }).get? b = some o := fun b o e => Heap.get?_push_of_some _ e
        have S9 := S8.keeps k9
        have E9 := E8.keeps k9
        obtain ⟨v9, i9, s9⟩ := E9.rules
        refine neStrs (us := [host (r (pI i)), host (r (pJ i))]) i9 ⟨_, Heap.get?_push_size _ rfl, rfl, _, rfl⟩ s9 (.cons _ _ (.cons _ _ .nil)) ?_ (show aun + 3 + 64 < cLine by omega) ?_
        · intro z hz
          simp only [List.mem_cons, List.not_mem_nil, or_false] at hz
          rcases hz with rfl | rfl
          · exact (strOk_facts _ (row_mem _ (R1.2 _ pi4).2.2)).2.2
          · exact (strOk_facts _ (row_mem _ (R1.2 _ pj4).2.2)).2.2
        refine wpAny_truthy_bool ?_
        show wpAny _ _ (execs [] _) _ _ _
        refine wpAny_execs_nil ?_
        show wpAny _ _ (execs _ _) _ _ _
        have X9 := X8.keeps k9
        have T9 := T8.keeps k9
        refine wpAny_execs_cons ?_
        refine wpAny_Expr ?_
        refine MethodCall_ ?_
        refine eL S9.F.ns (v := .ref SH) (by ktr_rel) ?_ rfl rfl rfl (by decide)
        refine getMethod_builtin ⟨_, (S9.N _ List.mem_cons_self).1, rfl⟩ PySem.F.plainAttrs_list PySem.F.slot_list_append PySem.F.type_list_append (fun a e => by cases e; exact ⟨_, (S9.N _ List.mem_cons_self).1, rfl⟩) ?_
        k_dflt (refine callWith_method1 ?_)
        refine spliced_more ?_
        refine Call_ ?_
        k_dflt (refine eB X9 T9 (by k_is) (by boot_by_name) (by decide) ?_ rfl rfl rfl rfl (by decide))
        k_dflt (refine callWith_method1 ?_)
        refine spliced_more ?_
        k_dflt (refine Attribute_Name_ ?_)
        refine eL S9.F.ns (v := .ref x6) (by ktr_rel) ?_ rfl rfl rfl (by decide)
        refine entU X9 E9 ?_
        refine spliced_none ?_
        obtain ⟨v10, i10, s10⟩ := E9.list
        have z10 : v10.toArray.size = Wt r i := by rw [List.size_toArray]; exact strs_len s10
        refine len_list i10 (by have := strs_len s10; have := List.length_filter_le (fun x => (recUs r (pJ i)).contains x) (recUs r (pI i)); rw [List.size_toArray]; omega) ?_
        refine spliced_none ?_
        rw [z10]
        refine append_at (S9.N _ List.mem_cons_self).1 (fun h11 hs11 hd11 => ?_) (by rw [z2]; exact Nat.le_trans (Nat.le_of_lt hi6) (by decide))
        have S11 := S9.upd dh d5 ne hs11 hd11 (fun v e => Data.noConfusion e)
        show wpAny _ _ (execs [] _) _ _ _
        refine wpAny_execs_nil ?_
        refine ⟨⟨rfl, ⟨h11, _, _, oj5, _, it2.push _, n2 + 1, rfl, S11, d5, ⟨by ktr_rel, by ktr_rel, by ktr_rel, by ktr_rel⟩, by rw [Array.size_push, z2], ?_, B1, B2, B3⟩, ?_⟩⟩
        · intro k hk
          by_cases e : k = i
          · subst e
            exact ⟨_, by rw [← z2]; exact Array.getElem?_push_size⟩
          · obtain ⟨t, ht⟩ := hit2 k (by omega)
            exact ⟨t, by rw [Array.getElem?_push_lt (by omega)]; rw [Array.getElem?_eq_getElem (by omega)] at ht; exact ht⟩
        · intro b o hb e
          simp only [List.mem_cons, List.not_mem_nil, or_false, not_or] at hb
          exact hs11.extBut _ _ hb.2.2 (k9 _ _ (k8 _ _ (hs7.extBut _ _ hb.1 (k6 _ _ (hs5.extBut _ _ hb.2.1 (hs4.extBut _ _ hb.1 (k3 _ _ e)))))))
    · intro N s9 hJ
      obtain ⟨h2, tk2, m2, oj2, vj2, it2, n2, rfl, S2, d2, ⟨q1, q2, q3, q4⟩, z2, hit2, _⟩ := hJ
      exact ⟨⟨rfl, h2, tk2, m2, oh, oj2, vj2, news, D, a, y, n, r, H, th, R, rx, PL, tp, t1, t2, SH, it2, n2, rfl, S2, dh, d2, q1, q2, q3, q4, R1, H1, G1, P1, z2, hit2, ne⟩⟩
  clear mr mR mP mS R1 S1 H1 G1 P1 dh dj iz ik ne
  clear D a y n r m1 h1 tk1 oh oj vj news H th R rx PL tp t1 t2 SH its nn
  rintro s' ⟨h1, tk1, m1, oh, oj, vj, news, D, a, y, n, r, H, th, R, rx, PL, tp, t1, t2, SH, its, nn, rfl, S1, dh, dj, mr, mR, mP, mS, R1, H1, G1, P1, iz, ik, ne⟩
  refine seq (M7 w s L') ?_ ?_
  ·
    k_dflt (refine' nest_A (h₀ := s.heap) (L := L') (m := m1) (st := true) (n0 := 4) (P0 := fun i v => (#[.ref (a 0), .ref (a 1), .ref (a 2), .ref (a 3)] : Array Value)[i]? = some v) (news := (L' + 1, oh) :: (L' + 1 + 1, oj) :: (SH, listOf its nn) :: news) (SetO PR w) (RelDom r) (cntD r) (fun _ => 1) ?kh ?k2 ?k3 ?k4 ?k5 ?k6 ?k7 ?k8 ?k9 ?k10 ?k11 ?k12 ?k13 ?k14 ?k15 ?k16 ?k17 ?_ ?_ ?_ ?_)
    case kh => exact rfl
    case k2 => exact rfl
    case k3 => (with_unfolding_all rfl)
    case k4 => (with_unfolding_all rfl)
    case k5 => decide
    case k6 => exact rfl
    case k7 => decide
    case k8 => exact rfl
    case k9 => exact rfl
    case k10 => decide
    case k11 => exact rfl
    case k12 => exact rfl
    case k13 => intro _; rfl
    case k14 => intro _ _; rfl
    case k15 => exact fun i => Nat.min_le_right _ _
    case k16 => exact fun i => by decide
    case k17 => exact fun s Q h => new_set s Q h
    · refine eL S1.F.ns mr ?_ rfl rfl rfl (by decide)
      exact src_list (its := #[.ref (a 0), .ref (a 1), .ref (a 2), .ref (a 3)]) rfl ⟨_, (S1.N _ (List.mem_cons_of_mem _ R1.1)).1, rfl, _, rfl⟩ S1.F S1.all
    · intro i v C s9 m₂ E9 hP hi F9 N9 hn hx hs
      obtain ⟨_, rfl⟩ := items4 (f := fun k => Value.ref (a k)) hP
      obtain ⟨q1, q2, q3⟩ := R1.2 i hi
      have g1 : s9.heap.IsList (a i) (List.toArray (y i)) := ⟨_, (N9 _ (List.mem_cons_of_mem _ (List.mem_cons_of_mem _ (List.mem_cons_of_mem _ q1)))).1, rfl, _, rfl⟩
      have g2 : (List.toArray (y i)).size = (r i).length := by have := strs_len q2; rw [List.length_map] at this; rw [List.size_toArray]; exact this
      refine Call_ ?_
      k_dflt (refine nmB (X.keeps F9.keep) (T.keeps F9.keep) (by k_is) (by boot_by_name) (by decide) ?_)
      k_dflt (refine PyProof.Rows.callWith_type1 ?_)
      refine spliced_more ?_
      refine wpAny_Constant_int ?_
      refine spliced_more ?_
      refine wpAny_BinOp ?_
      refine Call_ ?_
      k_dflt (refine nmB (s := { s9 with toks := _ }) (X.keeps F9.keep) (T.keeps F9.keep) (by k_is) (by boot_by_name) (by decide) ?_)
      k_dflt (refine callWith_method1 ?_)
      refine spliced_more ?_
      k_dflt (refine ldVarK (s := { s9 with toks := _ }) hn hx ?_)
      refine spliced_none ?_
      refine len_list g1 (by omega) ?_
      refine wpAny_Constant_int ?_
      refine add_int ?_
      refine spliced_none ?_
      refine call_range_2 ?_
      have e : (1 : Int) + (cntD r i : Nat) = ((List.toArray (y i)).size : Int) + 1 := by unfold cntD; omega
      exact ⟨⟨_, _, _, _, rfl, ⟨_, _, rfl, fun b o e => Heap.get?_push_of_some _ e⟩, by rw [e]; exact IsRange.new ..⟩⟩
    · intro i j v t C D9 s9 m₂ E9 zs o hP hj F9 N9 off hn hx hy hD hacc hl hi hs
      obtain ⟨_, rfl⟩ := items4 (f := fun k => Value.ref (a k)) hP
      obtain ⟨q1, q2, q3⟩ := R1.2 i hi
      have g1 : s9.heap.IsList (a i) (List.toArray (y i)) := ⟨_, (N9 _ (List.mem_cons_of_mem _ (List.mem_cons_of_mem _ (List.mem_cons_of_mem _ q1)))).1, rfl, _, rfl⟩
      have j10 : j < 10 := Nat.lt_of_lt_of_le hj (Nat.min_le_right _ _)
      have j3 : j < (r i).length := Nat.lt_of_lt_of_le hj (Nat.min_le_left _ _)
      refine emit_set (y := domS ((r i).drop (1 + j))) hD hacc (by omega) ?_
      refine MethodCall_ ?_
      refine Calls.Constant_str ?_
      refine GM.join ?_
      k_dflt (refine callWith_method1 ?_)
      refine spliced_more ?_
      refine Subscript_ ?_
      k_dflt (refine ldVarK (s := { s9 with toks := _ }) hn hx ?_)
      refine wpAny_Slice ?_
      refine evalPart_some_step ?_
      k_dflt (refine ldVarK (s := { s9 with toks := _ }) hn hy ?_)
      refine evalPart_none_step ?_
      refine evalPart_none_step ?_
      refine sliceRaw (s := { s9 with toks := _ }) g1 (.int _ t) .none (fun h' e1 e2 => ?_) (by have := strs_len q2; rw [List.length_map] at this; rw [List.size_toArray]; omega)
      refine spliced_none ?_
      have ex : (1 : Int) + (j : Nat) = ((1 + j : Nat) : Int) := by omega
      rw [ex, slicePick_from'] at e1
      refine join_listC (ys := ((r i).map lab).drop (1 + j)) ⟨_, e1, rfl, _, rfl⟩ (strs_drop (1 + j) q2) (Nat.le_of_ble_eq_true rfl) (dom_fit _ (row_mem _ q3) _ (by omega)) ?_
      intro t' k
      refine ⟨⟨⟨_, _, rfl, e2⟩, t', ?_⟩⟩
      rw [map_drop_lab]
      rfl
    · intro DM o zs tls h9 tk9 ho hm F9 N9 _
      exact ⟨⟨rfl, m7_of F9 N9 ho hm S1.nc dh dj mR mP mS R1 H1 G1 P1 iz ik⟩⟩
  clear mr mR mP mS R1 S1 H1 G1 P1 dh dj iz ik ne
  clear D a y n r m1 h1 tk1 oh oj vj news H th R rx PL tp t1 t2 SH its nn
  rintro s' ⟨h1, tk1, m1, oh, oj, vj, news, r, H, th, R, rx, PL, tp, t1, t2, SH, its, nn, DM, oD, rfl, S1, dh, dj, mR, mP, mS, mD, R1, H1, G1, P1, V1, iz, ik, D1, hso⟩
  refine seq (M8 w s L') ?_ ?_
  ·
    k_dflt (refine' comp_A (its := #[.ref (rx 0), .ref (rx 1), .ref (rx 2), .ref (rx 3)]) (RelAg r) S1.F S1.all ?kh ?k2 ?k3 ?k4 ?k5 ?k6 ?k7 ?k8 ?k9 ?k10 ?k11 ?k12 ?_ ?_ ?_)
    case kh => exact rfl
    case k2 => exact rfl
    case k3 => (with_unfolding_all rfl)
    case k4 => (with_unfolding_all rfl)
    case k5 => decide
    case k6 => exact rfl
    case k7 => decide
    case k8 => exact rfl
    case k9 => exact rfl
    case k10 => exact rfl
    case k11 => intro _; rfl
    case k12 => exact Nat.le_of_ble_eq_true rfl
    · refine eL S1.F.ns mR ?_ rfl rfl rfl (by decide)
      exact ⟨⟨R, h1, tk1, _, rfl, rfl, S1.F, S1.all, .inr ⟨_, List.mem_cons_of_mem _ (List.mem_cons_of_mem _ G1.1), rfl, _, rfl⟩, fun p hp => hp⟩⟩
    · intro i v C m₂ s9 E9 hv F9 N9 hn hx
      obtain ⟨hi, rfl⟩ := items4 (f := fun k => Value.ref (rx k)) hv
      obtain ⟨u, l, e9⟩ := ((G1.2 i hi).mono fun p hp => List.mem_cons_of_mem (L' + 1, oh) (List.mem_cons_of_mem (L' + 1 + 1, oj) hp)).ent N9
      obtain ⟨v9, i9, s10⟩ := e9.list
      have z9 : v9.toArray.size = (r i).length := by rw [List.size_toArray, strs_len s10, recUs_len, rungs_len]
      have z3 := R1 i hi
      refine Call_ ?_
      k_dflt (refine nmB (X.keeps F9.keep) (T.keeps F9.keep) (by k_is) (by boot_by_name) (by decide) ?_)
      k_dflt (refine callWith_method1 ?_)
      refine spliced_more ?_
      k_dflt (refine Attribute_Name_ ?_)
      k_dflt (refine ldVarK hn hx ?_)
      refine entU (X.keeps F9.keep) e9 ?_
      refine spliced_none ?_
      refine len_list i9 (by omega) ?_
      rw [z9]
      exact ⟨⟨[], ⟨_, _, rfl, fun _ _ e => e⟩, fun p hp => (nomatch hp), rfl, _, rfl⟩⟩
    · intro AG ys tls h9 tk9 hl hm F9 N9 _
      exact ⟨⟨rfl, m8_of F9 N9 hl hm S1.nc dh dj mR mP mS mD R1 H1 G1 P1 V1 iz ik D1 hso⟩⟩
  clear mR mP mS mD R1 S1 H1 G1 P1 V1 dh dj iz ik D1 hso
  clear r m1 h1 tk1 oh oj vj news H th R rx PL tp t1 t2 SH its nn DM oD
  rintro s' ⟨h1, tk1, m1, oh, oj, vj, news, r, H, th, R, rx, PL, tp, t1, t2, SH, its, nn, DM, oD, AG, u, rfl, S1, dh, dj, mR, mP, mS, mD, mA, R1, H1, G1, P1, V1, iz, ik, D1, hso, A1⟩
  refine seq (M9 w s L') ?_ ?_
  ·
    have X1 := X.keeps S1.F.keep
    have T1 := T.keeps S1.F.keep
    refine wpAny_If ?_
    refine wpAny_isTrue_Compare1 ?_
    refine Call_ ?_
    k_dflt (refine eB (s := { s with heap := h1, toks := tk1 }) X1 T1 (by k_is) (by boot_by_name) (by decide) ?_ rfl rfl rfl rfl (by decide))
    k_dflt (refine callWith_method1 ?_)
    refine spliced_more ?_
    refine eL S1.F.ns mD ?_ rfl rfl rfl (by decide)
    refine spliced_none ?_
    have ND : News s.heap L' h1 ([] ++ (DM, oD) :: []) := fun p hp => by
      rw [List.mem_singleton.mp hp]
      exact S1.N _ D1
    have dl0 := dom_law R1
    have dle : (dd (domsTo r 4)).length ≤ 100 := by
      have q0 := R1 0 (by decide)
      have q1 := R1 1 (by decide)
      have q2 := R1 2 (by decide)
      have q3 := R1 3 (by decide)
      have q := dd_len_le (domsTo r 4)
      have z : (domsTo r 4).length = cntD r 0 + cntD r 1 + cntD r 2 + cntD r 3 := by
        simp only [domsTo, domsOf, List.length_append, List.length_map, List.length_range', List.length_nil]
        omega
      unfold cntD at z
      omega
    refine len_sl1 ND hso (by omega) ?_
    refine wpAny_BinOp ?_
    refine Call_ ?_
    k_dflt (refine eB (s := { s with heap := h1, toks := _ }) X1 T1 (by k_is) (by boot_by_name) (by decide) ?_ rfl rfl rfl rfl (by decide))
    k_dflt (refine callWith_method1 ?_)
    refine spliced_more ?_
    refine eL (s := { s with heap := h1, toks := _ }) S1.F.ns mA ?_ rfl rfl rfl (by decide)
    refine spliced_none ?_
    refine sumK (s := { s with heap := h1, toks := _ }) (ns := [((r 0).length : Int), ((r 1).length : Int), ((r 2).length : Int), ((r 3).length : Int)]) rfl S1.F S1.all ⟨_, (S1.N _ A1).1, rfl, _, rfl⟩ (.cons _ _ (.cons _ _ (.cons _ _ (.cons _ _ .nil)))) fun h2 tk2 t2' F2 N2 => ?_
    have S2 : St s L' h2 m1 oh oj news := St.of F2 N2 List.mem_cons_self (List.mem_cons_of_mem _ List.mem_cons_self) (fun p hp => List.mem_cons_of_mem _ (List.mem_cons_of_mem _ hp)) S1.nc
    have X2 := X.keeps S2.F.keep
    have T2 := T.keeps S2.F.keep
    refine Call_ ?_
    k_dflt (refine eG (s := { s with heap := h2, toks := tk2 }) X2 T2 (by k_is) ?_ rfl rfl rfl (by decide))
    k_dflt (refine callWith_K (s := { s with heap := h2, toks := tk2 }) X2 (by k_is) ?_)
    refine spliced_more ?_
    refine eL (s := { s with heap := h2, toks := tk2 }) S2.F.ns mP ?_ rfl rfl rfl (by decide)
    refine spliced_more ?_
    refine eL (s := { s with heap := h2, toks := tk2 }) S2.F.ns mS ?_ rfl rfl rfl (by decide)
    refine spliced_none ⟨X2, ?_⟩
    k_dflt (refine' heaviest (s := { s with heap := h2, toks := tk2 }) (tp := tp) (pi := zI) (pj := zJ) (W := fun k => ((Wt r k : Nat) : Int)) (t1 := t1) (t2 := t2) (tw := fun k => tokOf its[k]?) (nt := fun _ => 0) X2 T2 ?d rfl (S2.N _ P1.1).1 rfl (below6 rfl rfl rfl rfl rfl rfl) ?ht (S2.N _ V1).1 (its_at ik) ?hw ?_)
    case d => exact (show adp + 1 + 9 < recursionLimit by omega)
    case ht => exact fun k hk => (S2.N _ (P1.2 k hk)).1
    case hw =>
      intro k hk
      obtain ⟨k4, _⟩ := pIJ k hk
      have q := recUs_ok (r := r) (i := pI k) (R1 _ k4)
      have q2 : Wt r k ≤ (recUs r (pI k)).length := List.length_filter_le _ _
      show 0 ≤ ((Wt r k : Nat) : Int) ∧ ((Wt r k : Nat) : Int) ≤ 100
      omega
    intro s3 t3 k3
    obtain ⟨h3, tk3, rfl, kk3⟩ := k3
    have S3 := S2.keeps kk3
    refine sub_int ?_
    refine ne_int ?_
    refine wpAny_truthy_bool ?_
    rw [show (((dd (domsTo r 4)).length : Int) != ([((r 0).length : Int), ((r 1).length : Int), ((r 2).length : Int), ((r 3).length : Int)] : List Int).sum - ga (span zI zJ) (fun k => ((Wt r k : Nat) : Int)) 6) = false by rw [← dl0]; simp]
    show wpAny _ _ (execs [] _) _ _ _
    refine wpAny_execs_nil ?_
    exact ⟨⟨rfl, h3, _, m1, oh, oj, vj, news, r, H, th, R, rx, SH, its, nn, AG, u, rfl, S3, dh, dj, mR, mS, mA, R1, H1, G1, V1, iz, ik, A1⟩⟩
  clear mR mP mS mD mA R1 S1 H1 G1 P1 V1 dh dj iz ik D1 hso A1
  clear r m1 h1 tk1 oh oj vj news H th R rx PL tp t1 t2 SH its nn DM oD AG u
  rintro s' ⟨h1, tk1, m1, oh, oj, vj, news, r, H, th, R, rx, SH, its, nn, AG, u, rfl, S1, dh, dj, mR, mS, mA, R1, H1, G1, V1, iz, ik, A1⟩
  refine seq (M10 w s L') ?_ ?_
  ·
    refine wpAny_Assign_Name ?_
    refine Subscript_ ?_
    refine eL S1.F.ns mR ?_ rfl rfl rfl (by decide)
    refine wpAny_Constant_int ?_
    refine item_list (x := .ref (rx 0)) ⟨_, (S1.N _ G1.1).1, rfl, _, rfl⟩ (by decide) (by decide) rfl ?_
    refine stL S1.F.ns rfl rfl rfl fun h2 k2 hn2 hs2 => ?_
    exact ⟨⟨rfl, h2, _, _, oh, oj, vj, news, r, H, th, R, rx, SH, its, nn, AG, u, rfl, S1.setL hn2 hs2, dh, dj, by ktr_rel, by ktr_rel, by ktr_rel, by ktr_rel, R1, H1, G1, V1, iz, ik, A1⟩⟩
  clear mR mS mA R1 S1 H1 G1 V1 dh dj iz ik A1
  clear r m1 h1 tk1 oh oj vj news H th R rx SH its nn AG u
  rintro s' ⟨h1, tk1, m1, oh, oj, vj, news, r, H, th, R, rx, SH, its, nn, AG, u, rfl, S1, dh, dj, mR, mS, mA, mW, R1, H1, G1, V1, iz, ik, A1⟩
  refine seq (M11 w s L') ?_ ?_
  ·
    k_dflt (refine' forL (its := #[.ref (rx 1), .ref (rx 2), .ref (rx 3)]) (J11 w s L' oh oj news R AG SH r) [L'] ?kh ?kE ?ks ?_ J11.stable ?_ ?_)
    case kh => exact rfl
    case kE => exact rfl
    case ks => intro _; rfl
    · refine Subscript_ ?_
      refine eL S1.F.ns mR ?_ rfl rfl rfl (by decide)
      refine wpAny_Slice ?_
      refine evalPart_some_step ?_
      refine wpAny_Constant_int ?_
      refine evalPart_none_step ?_
      refine evalPart_none_step ?_
      refine sliceRaw (s := { s with heap := h1, toks := _ }) (items := #[.ref (rx 0), .ref (rx 1), .ref (rx 2), .ref (rx 3)]) ⟨_, (S1.N _ G1.1).1, rfl, _, rfl⟩ (.int _ _) .none (fun h2 e1 e2 => ?_) (Nat.le_of_ble_eq_true rfl)
      have e3 : slicePick (#[.ref (rx 0), .ref (rx 1), .ref (rx 2), .ref (rx 3)] : Array Value) (some 1) none none = #[.ref (rx 1), .ref (rx 2), .ref (rx 3)] := slicePick_from' _ 1
      rw [e3] at e1
      have S2 := S1.keeps e2
      have hb : ∀ p ∈ news, p.1 < h2.objs.size := fun p hp => Heap.lt_size (S2.N p hp).1
      obtain ⟨u0, l0, E0⟩ := (G1.2 0 (by decide)).entB S2.N hb
      refine ⟨⟨_, rfl, ⟨_, e1, rfl, _, rfl⟩, ?_, ?_, ⟨h2, _, m1, rx 0, u0, l0, rfl, S2, mR, mS, mA, mW, E0, Heap.lt_size (S2.Nj _ List.mem_cons_self).1, hb⟩⟩⟩
      · intro hm
        have z := S1.F.ns.lt
        rw [← List.mem_singleton.mp hm] at z
        exact Nat.lt_irrefl _ (Nat.lt_of_succ_lt z)
      · intro b hb
        rw [List.mem_singleton.mp hb]
        exact S2.F.ns.lt
    · intro N i v s9 hi hv hJ hNo
      obtain ⟨h2, tk2, m2, x, ux, lx, rfl, S2, q1, q2, q3, q4, EB, B1, B3⟩ := hJ
      have hi3 : i < 3 := hi
      obtain rfl : v = .ref (rx (i + 1)) := by
        match i, hi3, hv with
        | 0, _, hv => exact (Option.some.inj hv).symm
        | 1, _, hv => exact (Option.some.inj hv).symm
        | 2, _, hv => exact (Option.some.inj hv).symm
      have i4 : i + 1 < 4 := by omega
      refine wpAny_assign_Name (stL S2.F.ns rfl rfl rfl fun h4 k4 hn4 hs4 => ?_)
      have S4 := S2.setL hn4 hs4
      have E4 := EB.set hs4
      have X4 := X.keeps S4.F.keep
      have T4 := T.keeps S4.F.keep
      obtain ⟨uj, lj, Ej⟩ := (G1.2 _ i4).ent S4.N
      obtain ⟨b0, _⟩ := recUs_ok (r := r) (i := 0) (R1 0 (by decide))
      obtain ⟨bj, _⟩ := recUs_ok (r := r) (i := i + 1) (R1 _ i4)
      have bw := wu_len r i
      have bl := wr_len r i
      refine wpAny_execs_cons ?_
      refine wpAny_Assign_Name ?_
      refine Call_ ?_
      k_dflt (refine eG X4 T4 (by k_is) ?_ rfl rfl rfl (by decide))
      k_dflt (refine callWith_K X4 (by k_is) ?_)
      refine spliced_more ?_
      refine eL S4.F.ns (v := .ref x) (by ktr_rel) ?_ rfl rfl rfl (by decide)
      refine spliced_more ?_
      refine eL S4.F.ns (v := .ref (rx (i + 1))) (by ktr_rel) ?_ rfl rfl rfl (by decide)
      refine spliced_none ⟨X4, ?_⟩
      k_dflt (refine' mergeN X4 T4 ?d rfl E4.ent Ej ?b1 ?b2 ?b3 ?_)
      case d => exact (show adp + 1 + 9 < recursionLimit by omega)
      case b1 => omega
      case b2 => omega
      case b3 => rw [bl]; simp only [List.length_singleton]; omega
      intro h6 tk6 x6 u6 l6 k6 E6
      refine stL (S4.keeps k6).F.ns rfl rfl rfl fun h7 k7 hn7 hs7 => ?_
      have S7 := (S4.keeps k6).setL hn7 hs7
      have hL4 : ∃ o, h4.get? L' = some o := by obtain ⟨o, _, _, e, _⟩ := S4.F.ns; exact ⟨o, e⟩
      have hN4 : ∃ o, h4.get? N = some o := by
        obtain ⟨o, e⟩ := hNo
        exact ⟨o, hs4.extBut _ _ (fun q => by rw [q] at B1; exact Nat.lt_irrefl _ (Nat.lt_of_succ_lt (Nat.lt_of_succ_lt B1))) e⟩
      have E7 := (E6.entB (N := N) S4.F.keep hL4 hN4).set hs7
      show wpAny _ _ (execs [] _) _ _ _
      refine wpAny_execs_nil ?_
      refine ⟨⟨rfl, ⟨h7, _, _, x6, u6, l6, rfl, S7, by ktr_rel, by ktr_rel, by ktr_rel, by ktr_rel, E7, B1, B3⟩, ?_⟩⟩
      intro b o hb e
      have hb' : b ≠ L' := fun q => hb (List.mem_singleton.mpr q)
      exact hs7.extBut _ _ hb' (k6 _ _ (hs4.extBut _ _ hb' e))
    · intro N s9 hJ
      obtain ⟨h2, tk2, m2, x, ux, lx, rfl, S2, q1, q2, q3, q4, EB, B1, B3⟩ := hJ
      exact ⟨⟨rfl, h2, tk2, m2, oh, oj, vj, news, r, H, th, R, rx, SH, its, nn, AG, u, N, x, ux, lx, rfl, S2, dh, dj, q1, q2, q3, q4, EB, R1, H1, G1, V1, iz, ik, A1⟩⟩
  clear mR mS mA mW R1 S1 H1 G1 V1 dh dj iz ik A1
  clear r m1 h1 tk1 oh oj vj news H th R rx SH its nn AG u
  rintro s' ⟨h1, tk1, m1, oh, oj, vj, news, r, H, th, R, rx, SH, its, nn, AG, u, N, x, ux, lx, rfl, S1, dh, dj, mR, mS, mA, mW, EB, R1, H1, G1, V1, iz, ik, A1⟩
  ·
    have X1 := X.keeps S1.F.keep
    have T1 := T.keeps S1.F.keep
    refine wpAny_execs_cons ?_
    refine wpAny_Return_some ?_
    refine BoolOp_and ?_
    refine wpAny_Compare1 ?_
    k_dflt (refine Attribute_Name_ ?_)
    refine eL S1.F.ns mW ?_ rfl rfl rfl (by decide)
    refine entL X1 EB.ent ?_
    refine eC (s := { s with heap := h1, toks := _ }) ⟨oh, (S1.Nh _ List.mem_cons_self).1, dh⟩ ?_ rfl rfl rfl (by decide)
    obtain ⟨wv, iw, sw⟩ := EB.ent.rules
    refine eqStrs (us := wr r 3) iw ⟨_, (S1.N _ H1).1, rfl, _, rfl⟩ sw (.cons _ _ (.cons _ _ (.cons _ _ (.cons _ _ .nil)))) ?_ (show aun + 3 + 64 < cLine by omega) ?_
    · intro z hz
      have hz' : z ∈ [host (r 0), host (r 1), host (r 2), host (r 3)] := hz
      simp only [List.mem_cons, List.not_mem_nil, or_false] at hz'
      rcases hz' with rfl | rfl | rfl | rfl
      · exact (strOk_facts _ (row_mem _ (R1 0 (by decide)))).2.2
      · exact (strOk_facts _ (row_mem _ (R1 1 (by decide)))).2.2
      · exact (strOk_facts _ (row_mem _ (R1 2 (by decide)))).2.2
      · exact (strOk_facts _ (row_mem _ (R1 3 (by decide)))).2.2
    refine wpAny_truthy_bool ?_
    show wpAny _ _ (eval (.BoolOp .And [_] _) _) _ _ _
    refine BoolOp_one ?_
    refine wpAny_Compare1 ?_
    k_dflt (refine Attribute_Name_ ?_)
    refine eL (s := { s with heap := h1, toks := _ }) S1.F.ns mW ?_ rfl rfl rfl (by decide)
    refine entU X1 EB.ent ?_
    obtain ⟨dx, u0, l0, k0, vs0, ws0, n1, n2, n3, hm0, hv0, hw0⟩ := G1.2 0 (by decide)
    obtain ⟨dx', k', vs', ws', e1', e2', e3', NE, _, hvE, hwE⟩ := EB
    have hA0 : h1.IsList AG _ := ⟨_, (S1.N _ A1).1, rfl, _, rfl⟩
    have hR0 : h1.IsList R _ := ⟨_, (S1.N _ G1.1).1, rfl, _, rfl⟩
    have hmu : (u0, listOf vs0.toArray n2) ∈ news := hm0 _ (by simp [EntNews])
    refine Subscript_ ?_
    k_dflt (refine Attribute_any_ ?_)
    refine Subscript_ ?_
    refine eL (s := { s with heap := h1, toks := _ }) S1.F.ns mR ?_ rfl rfl rfl (by decide)
    refine wpAny_Constant_int ?_
    refine item_list (s := { s with heap := h1, toks := _ }) (x := .ref (rx 0)) hR0 (by decide) (by decide) rfl ?_
    refine attrU (s := { s with heap := h1, toks := _ }) (dx := dx) (u := u0) (l := l0) (k := k0) (n := n1) X1 (S1.N _ (hm0 (rx 0, instObj 76 dx) List.mem_cons_self)).1 (S1.N _ (hm0 (dx, _) (List.mem_cons_of_mem _ List.mem_cons_self))).1 ?_
    refine wpAny_Slice ?_
    refine evalPart_some_step ?_
    refine wpAny_BinOp ?_
    refine Subscript_ ?_
    refine eL (s := { s with heap := h1, toks := _ }) S1.F.ns mA ?_ rfl rfl rfl (by decide)
    refine wpAny_Constant_int ?_
    refine item_list (s := { s with heap := h1, toks := _ }) (x := .int ((r 0).length : Nat) (u 0)) hA0 (by decide) (by decide) rfl ?_
    refine Call_ ?_
    k_dflt (refine eB (s := { s with heap := h1, toks := _ }) X1 T1 (by k_is) (by boot_by_name) (by decide) ?_ rfl rfl rfl rfl (by decide))
    k_dflt (refine callWith_method1 ?_)
    refine spliced_more ?_
    refine eL (s := { s with heap := h1, toks := _ }) S1.F.ns mS ?_ rfl rfl rfl (by decide)
    refine spliced_none ?_
    obtain ⟨sv, rfl, si⟩ := its_ints iz ik
    refine min_list_N (s := { s with heap := h1, toks := _ }) rfl S1.F (NE.append S1.all) ⟨_, (S1.N _ V1).1, rfl, _, rfl⟩ si (Nat.zero_lt_succ _) fun h2 M tM tk2 F2 N2 hM hmin => ?_
    obtain ⟨j, ej, ew⟩ := end_law R1 hM hmin
    refine sub_int ?_
    rw [ej]
    refine evalPart_none_step ?_
    refine evalPart_none_step ?_
    have b0 := (recUs_ok (r := r) (i := 0) (R1 0 (by decide))).1
    have b1 := strs_len hv0
    refine sliceRawT (s := { s with heap := h2, toks := _ }) (items := vs0.toArray) ⟨_, (N2 _ (List.mem_append_right _ (List.mem_cons_of_mem _ (List.mem_cons_of_mem _ hmu)))).1, rfl, _, rfl⟩ (.int _ _) .none (fun h3 e1 e2 => ?_) (by rw [List.size_toArray]; omega)
    rw [slicePick_from'] at e1
    refine eqStrs (us := wu r 3) (xs := vs') ⟨_, e2 _ _ (N2 (ux, listOf vs'.toArray e2') (List.mem_append_left _ (by simp [EntNews]))).1, rfl, _, rfl⟩ ⟨_, e1, rfl, _, rfl⟩ hvE (by rw [ew]; exact strs_drop j hv0) (fun z hz => ((recUs_ok (r := r) (i := 0) (R1 0 (by decide))).2 z (wu_sub r 3 z hz)).1) (show aun + 3 + 64 < cLine by omega) ?_
    exact h _ ⟨h3, _, rfl, fun b o e => e2 b o (F2.keep b o e)⟩
  )
end Mine
theorem PySem.Challenge.cw_re0078_01_holds : PySem.Challenge.rw_re0078_01.Holds := by
  exact Mine.law_holds
