import PyProof.Rows.All
import Wide.All
import OpenK.AllK
import Wide.FinOn
import PySem.Challenge.RW_bb0046_01
set_option Elab.async false
set_option rowWalk.seconds 0
set_option maxRecDepth 100000
set_option maxHeartbeats 8000000
set_option linter.unusedVariables false
set_option linter.unusedSimpArgs false
set_option linter.unusedSectionVars false
open PySem PySem.W PySem.Calls PyProof.Rows
namespace Mine

/-! ## HD -/
open_top hd for PySem.Challenge.rw_bb0046_01

/-! ## M0 -/
/-- every object that stood in `h`, but those at `as`, stands in `h'` as it was -/
def Keeps (as : List Addr) (h h' : Heap) : Prop := ∀ b o, h.get? b = some o → b ∉ as → h'.get? b = some o
theorem Keeps.of_sub {h g h' : Heap} {as : List Addr} {L : Addr} {m : Str → Option Value} (G : GSub h g as) (F : Fr g L h' m) : Keeps as h h' := fun b o e n => F.keep b o (G b o e n)
theorem Keeps.trans {as bs : List Addr} {h h' h'' : Heap} (a : Keeps as h h') (b : Keeps bs h' h'') (hs : ∀ x ∈ bs, x ∈ as) : Keeps as h h'' := fun x o e n => b x o (a x o e n) fun q => n (hs x q)

/-- the ledger less the entry at d -/
inductive Del (d : Addr) (o : Obj) : List (Addr × Obj) → List (Addr × Obj) → Prop
  | head {r} : (∀ p ∈ r, p.1 ≠ d) → Del d o ((d, o) :: r) r
  | tail {p r r'} : p.1 ≠ d → Del d o r r' → Del d o (p :: r) (p :: r')
theorem Del.mem {d : Addr} {o : Obj} : ∀ {l r : List (Addr × Obj)}, Del d o l r → (d, o) ∈ l ∧ ∀ p ∈ r, p ∈ l ∧ p.1 ≠ d
  | _, _, .head h => ⟨.head _, fun p hp => ⟨.tail _ hp, h p hp⟩⟩
  | _, _, .tail h D => ⟨.tail _ D.mem.1, fun p hp => by
      rcases List.mem_cons.mp hp with rfl | hp
      · exact ⟨.head _, h⟩
      · exact ⟨.tail _ (D.mem.2 p hp).1, (D.mem.2 p hp).2⟩⟩
theorem nw_sub {h₀ h : Heap} {L : Addr} {a b : List (Addr × Obj)} (N : News h₀ L h a) (hs : ∀ p ∈ b, p ∈ a) : News h₀ L h b := fun p hp => N p (hs p hp)
theorem nw_after {h₀ h h' : Heap} {L : Addr} {news t rest : List (Addr × Obj)} {as : List Addr} (N : News h₀ L h news) (N' : News h₀ L h' t) (K : Keeps as h h') (hr : ∀ p ∈ rest, p ∈ news ∧ p.1 ∉ as) :
    News h₀ L h' (t ++ rest) := fun p hp => by
  rcases List.mem_append.mp hp with hp | hp
  · exact N' p hp
  · exact ⟨K _ _ (N p (hr p hp).1).1 (hr p hp).2, (N p (hr p hp).1).2⟩

theorem nw_one {h₀ h : Heap} {L : Addr} {a : List (Addr × Obj)} {x : Addr} {ox : Obj} (N : News h₀ L h a) (h1 : (x, ox) ∈ a) : News h₀ L h [(x, ox)] := fun p hp => by
  rcases List.mem_cons.mp hp with rfl | hp
  · exact N _ h1
  · exact nomatch hp
theorem nw_cons {h₀ h : Heap} {L : Addr} {a b : List (Addr × Obj)} {x : Addr} {ox : Obj} (N : News h₀ L h a) (h1 : (x, ox) ∈ a) (N2 : News h₀ L h b) : News h₀ L h ((x, ox) :: b) := fun p hp => by
  rcases List.mem_cons.mp hp with rfl | hp
  · exact N _ h1
  · exact N2 p hp
theorem nw_two {h₀ h : Heap} {L : Addr} {a : List (Addr × Obj)} {x y : Addr} {ox oy : Obj} (N : News h₀ L h a) (h1 : (x, ox) ∈ a) (h2 : (y, oy) ∈ a) : News h₀ L h [(x, ox), (y, oy)] := nw_cons N h1 (nw_one N h2)

/-- the law's list of draws: the number at hand, and the list of the numbers to come -/
def DrawsObj (n : Addr) (o1 o2 : Obj) : Prop := ∃ cur t ep vs ep2 ns, o1 = listOf #[.int cur t, .ref n] ep ∧ o2 = listOf vs.toArray ep2 ∧ IntsAre vs ns ∧ vs.length ≤ 8

def AllNe (d : Nat) : List (Addr × Obj) → Prop
  | [] => True
  | p :: r => @Ne Nat p.1 d ∧ AllNe d r
theorem allNe_of {h₀ h : Heap} {L q : Addr} (hq : h.get? q = none) : ∀ {news : List (Addr × Obj)}, News h₀ L h news → AllNe q news
  | [], _ => trivial
  | p :: r, N => ⟨(fun e => by
      have := (N p (.head _)).1
      rw [show p.1 = q from e, hq] at this; cases this), allNe_of hq fun p hp => N p (.tail _ hp)⟩
/-- a frame whose names are known one by one -/
theorem frNamed {h h' : Heap} {L : Addr} {m : Str → Option Value} (F : Fr h L h' m) (P : (Str → Option Value) → Prop) (p : P m) : ∃ m', Fr h L h' m' ∧ P m' := ⟨m, F, p⟩

/-! ## M1 -/
section
local macro_rules | `(tactic| walk_at "eval Name") => `(tactic| (k_here; name_kind "globalImplicit"; (with_reducible refine' PySem.W.name_K ?F ?X ?T ?e ?_ ?a ?b ?c); (case F => with_reducible assumption); (case X => with_reducible assumption); (case T => first | with_reducible assumption | exact PySem.W.topRead_of (by with_reducible assumption)); (case e => k_is); (case a => rfl); (case b => kernel_rfl); (case c => kernel_rfl); k_whole))
local macro_rules | `(tactic| walk_at "eval Name") => `(tactic| (k_here; name_kind "globalImplicit"; name_is_builtin; (with_reducible refine' PySem.W.name_B ?F ?X ?T ?e ?v ?n ?_ ?a ?b ?c); (case F => with_reducible assumption); (case X => with_reducible assumption); (case T => first | with_reducible assumption | exact PySem.W.topRead_of (by with_reducible assumption)); (case e => k_is); (case v => boot_by_name); (case n => decide +kernel); (case a => rfl); (case b => kernel_rfl); (case c => kernel_rfl); k_whole))
local macro_rules | `(tactic| walk_at "eval Name") => `(tactic| (k_here; name_kind "local"; (with_reducible refine' ld ?F ?v ?_ ?a ?b ?c); (case F => with_reducible assumption); (k_dflt (case v => first | with_reducible assumption | rfl | assumption)); (case a => rfl); (case b => kernel_rfl); (case c => kernel_rfl); k_whole))
local macro_rules | `(tactic| walk_at "ite") => `(tactic| (k_closed; first | ((with_reducible refine' PySem.W.ite_pos ?c ?_); (case c => decide)) | ((with_reducible refine' PySem.W.ite_neg ?c ?_); (case c => decide))))
local macro_rules | `(tactic| walk_at "exec If") => `(tactic| (k_here; (with_reducible show wpAny _ _ (exec (Stmt.If (Expr.Compare (Expr.Name _ _) [CmpOp.Eq] [Expr.Constant (Const.int _) _ _] _) _ _ _) _) _ _ _); with_reducible refine wpAny_If ?_))
local macro_rules | `(tactic| walk_at "eval Call") => `(tactic| (k_here; (with_reducible refine' PyProof.Rows.Call_ ?_ ?he); (case he => kernel_rfl)))
local macro_rules | `(tactic| walk_at "callWith") => `(tactic| (k_here; first | ((with_reducible refine' PyProof.Rows.callWith_builtin1 ?_ ?a ?b); (case a => kernel_rfl); (case b => kernel_rfl)) | ((with_reducible refine' PyProof.Rows.callWith_method1 ?_ ?a ?b); (case a => kernel_rfl); (case b => kernel_rfl))))
local macro_rules | `(tactic| walk_at "spliced") => `(tactic| (k_here; (with_reducible refine' PyProof.Rows.args_cons ?_ ?he); (case he => kernel_rfl)))
local macro_rules | `(tactic| walk_at "exec Assign") => `(tactic| (k_here; (with_reducible refine' PySem.wpAny_Assign_Name ?_ ?hs); (case hs => kernel_rfl)))
section
local macro_rules | `(tactic| k_room) => `(tactic| ((try simp only [depth_under_make, depth_under_kw, depth_in1, depth_deeper, depth_caller]); (try dsimp only [ktrTop]); (simp only [recursionLimit] at *); omega))
local macro_rules | `(tactic| k_units) => `(tactic| ((have hcL9 := cLine_is); (try simp only [units_in1, units_deeper, Around.mark_units, units_caller]); (try dsimp only [ktrTop]); (simp only [cLine] at *); omega))
local macro_rules | `(tactic| walk_at "subscriptTail Name Constant ref int") => `(tactic| (k_here; (with_reducible show wpAny _ _ (subscriptTail _ _ (Value.ref _) (Value.int _ _)) _ _ _); kim_at))
theorem reset_M1 : True := by
  w_top off
  trivial
section
theorem idx0 (v : Value) (r : List Value) : seqIndex? 0 (v :: r).toArray.size = some 0 := by
  rw [List.size_toArray, List.length_cons]
  unfold seqIndex?
  simp
  try omega
local macro_rules | `(tactic| walk_at "call builtin:list.pop") => `(tactic| (k_here; k_dflt (refine' kl_popAt (k := 0) (p := []) ?F ?N ?f ?k ?e ?U ?z ?_; (case F => k_asm); (case N => k_asm); (case U => k_upd); (case f => rfl); (case k => exact idx0 _ _); (case e => rfl); (case z => (simp only [List.length_cons, sizeLine_eq] at *; omega)); intro h' F' N'; (try dsimp only [List.nil_append, List.cons_append] at N'))))
section
variable {w : World} {p : Program} {loose : List Str} {mean : ExcName → Option Value} {mg mb : Str → Option Value}
theorem take_spec {dp un : Nat} {gd : Option (List Code)} {cn : Str} {cs : Scope} {a : Addr} {ccd : Value} {cl : List (Str × Addr)} {outer : List Env} {A₀ : Around} {base h₀ : Heap} {L : Addr} {m : Str → Option Value} {s : Shared}
   {Q E : Value → Shared → Prop} {d n : Nat} {many : Int} {tm : Tok} {o1 o2 : Obj}
   (B : Below A₀ base outer h₀) (F : Fr h₀ L s.heap m) (X : (hd.heap_39 w.params).In h₀) (N : News h₀ L s.heap [(d, o1), (n, o2)])
   (T : Top p loose mean mg mb h₀) (hk : cs.kind = .function) (hD : DrawsObj n o1 o2) (hdn : d ≠ n) (hm : 0 < many) (hm2 : many ≤ 13)
   (hdp : dp + 50 < recursionLimit) (hun : un + 100 < cLine)
   (ret : ∀ found t' o1' o2' h' tk', 0 ≤ found → found < many → DrawsObj n o1' o2' → Fr h₀ L h' m → News h₀ L h' [(d, o1'), (n, o2')] → Keeps [d, n] s.heap h' → Q (.int found t') { s with heap := h', toks := tk' }) :
   wpAny (model PySem.Challenge.rw_bb0046_01.row.prog w) (ktrTop dp un gd cn cs L a ccd cl outer) (call (.ref 377) [.ref d, .int many tm]) Q E s := by
  obtain ⟨cur, t, ep, vs, ep2, ns, rfl, rfl, hI, hle⟩ := hD
  have hmz : ¬ many = 0 := by omega
  refine wpAny_call ?_
  refine' code_defG ?k1 ?k2 ?k3 ?k4 ?k5 ?kA ?kF ?kK ?k6 ?k7 ?k8 ?k9 ?kB ?_ ?c2 ?c3 ?c4 ?c5
  case kA => exact rfl
  case kF => exact rfl
  case kK => assumption
  case k1 => k_asm
  case k2 => k_asm
  case k3 => k_asm
  case k4 => k_asm
  case k5 => k_asm
  case k6 => k_is
  case k7 => k_is
  case k8 => k_room
  case k9 => exact BindsTo.of_eq rfl
  case c5 => decide
  case kB => exact locs rfl
  case c2 => exact rfl
  case c3 => exact rfl
  case c4 => exact rfl
  intro g' L' h' FG' F' N' B' X' T' G'
  try dsimp only
  try k_fold
  cases hI with
  | nil =>
    k_steps
    all_goals (rename News h₀ L _ _ => kN)
    all_goals refine ret _ _ _ _ _ _ (fmod_lo _ hm) (fmod_hi _ hm) ?_ (by k_asm) (nw_two kN (by k_mem) (by k_mem)) (Keeps.of_sub G' (by k_asm))
    all_goals exact ⟨_, _, _, _, _, _, rfl, rfl, .nil, hle⟩
  | cons i ti hI =>
    have hle' := Nat.le_of_succ_le hle
    k_steps
    all_goals (rename News h₀ L _ _ => kN)
    all_goals refine ret _ _ _ _ _ _ (fmod_lo _ hm) (fmod_hi _ hm) ?_ (by k_asm) (nw_two kN (by k_mem) (by k_mem)) (Keeps.of_sub G' (by k_asm))
    all_goals first | exact ⟨_, _, _, _, _, _, rfl, rfl, .cons _ _ hI, hle⟩ | exact ⟨_, _, _, _, _, _, rfl, rfl, hI, hle'⟩
end
end

/-! ## M2 -/
/-! ## A dict of attributes, whatever the order of its entries -/
theorem isStr_str (a b : Str) (t : Tok) : (Value.str a t).isStr b = (a == b) := rfl
theorem find_put (name y : Str) (hsh : Int) (tk : Tok) (v : Value) : ∀ es : List DictEntry, (putL name hsh (.str name tk) v es).find? (·.key.isStr y) =
    if y = name then some ((es.find? (·.key.isStr name)).elim ⟨hsh, .str name tk, v⟩ fun e => ⟨e.hash, e.key, v⟩) else es.find? (·.key.isStr y)
  | [] => by
    unfold putL
    by_cases h : y = name
    · subst h; simp [isStr_str]
    · have : (name == y) = false := by simpa using fun e : name = y => h e.symm
      simp [isStr_str, h, this]
  | e :: r => by
    have ih := find_put name y hsh tk v r
    unfold putL
    by_cases he : e.key.isStr name = true
    · rw [if_pos he]
      by_cases h : y = name
      · subst h; simp [he]
      · have hn : e.key.isStr y = false := by
          cases q : e.key.isStr y with
          | false => rfl
          | true => exact absurd (Value.isStr_inj _ _ _ q he) h
        simp [h, hn]
    · rw [if_neg he]
      have he' : e.key.isStr name = false := by simpa using he
      by_cases h : y = name
      · subst h
        rw [if_pos rfl] at ih ⊢
        simp [he', ih]
      · rw [if_neg h] at ih ⊢
        simp only [List.find?_cons]
        rw [ih]
theorem any_put (name : Str) (hsh : Int) (tk : Tok) (v : Value) : ∀ es : List DictEntry, es.any (·.refKey) = false → (putL name hsh (.str name tk) v es).any (·.refKey) = false
  | [], _ => rfl
  | e :: r, h => by
    rw [List.any_cons, Bool.or_eq_false_iff] at h
    unfold putL
    split
    · rw [List.any_cons, Bool.or_eq_false_iff]; exact ⟨h.1, h.2⟩
    · rw [List.any_cons, Bool.or_eq_false_iff]; exact ⟨h.1, any_put name hsh tk v r h.2⟩
/-- what the dict says of a name -/
def at? (es : List DictEntry) (y : Str) : Option Value := (es.find? (·.key.isStr y)).map (·.val)
def KeysStr (es : List DictEntry) : Prop := es.any (·.refKey) = false
theorem getL_at {es : List DictEntry} (h : KeysStr es) (y : Str) : getL y es = some (at? es y) := by
  unfold getL at?
  cases e : es.find? (·.key.isStr y) with
  | some x => rfl
  | none => unfold KeysStr at h; simp [h]
theorem at_put (name y : Str) (hsh : Int) (tk : Tok) (v : Value) (es : List DictEntry) : at? (putL name hsh (.str name tk) v es) y = if y = name then some v else at? es y := by
  unfold at?
  rw [find_put]
  by_cases h : y = name
  · rw [if_pos h, if_pos h]
    cases es.find? (·.key.isStr name) <;> rfl
  · rw [if_neg h, if_neg h]
theorem len_put (name : Str) (hsh : Int) (tk : Tok) (v : Value) : ∀ es : List DictEntry, (putL name hsh (.str name tk) v es).length = es.length + (if (at? es name).isSome then 0 else 1)
  | [] => rfl
  | e :: r => by
    have ih := len_put name hsh tk v r
    unfold putL
    by_cases he : e.key.isStr name = true
    · rw [if_pos he]; simp [at?, he]
    · rw [if_neg he]
      have he' : e.key.isStr name = false := by simpa using he
      have e1 : at? (e :: r) name = at? r name := by simp [at?, he']
      rw [e1, List.length_cons, List.length_cons, ih]; omega

/-- the state of a loop, as its attributes say it -/
structure LS where
  iterable : Value
  itor : Value
  again : Value
  depth : Int
  idx : Int
  len : Option Int
  aft : Value
  cur : Value
  bef : Value
  lcv : Value

def one? (o : Option Value) : Nat := if o.isSome then 1 else 0
def names11 : List Str := ["_iterable", "_iterator", "_undefined", "_recurse", "depth0", "index0", "_length", "_after", "_current", "_before", "_last_changed_value"]
/-- the dict of a LoopContext -/
structure LoopD (es : List DictEntry) (S : LS) : Prop where
  keys : KeysStr es
  size : es.length ≤ 5 + one? (at? es "index0") + one? (at? es "_length") + one? (at? es "_after") + one? (at? es "_current") + one? (at? es "_before") + one? (at? es "_last_changed_value")
  iterable : at? es "_iterable" = some S.iterable
  itor : at? es "_iterator" = some S.itor
  und : at? es "_undefined" = some (.ref 364)
  again : at? es "_recurse" = some S.again
  depth : ∃ t, at? es "depth0" = some (.int S.depth t)
  idx : (at? es "index0" = none ∧ S.idx = -1) ∨ ∃ t, at? es "index0" = some (.int S.idx t)
  len : (at? es "_length" = none ∧ S.len = none) ∨ ∃ n t, at? es "_length" = some (.int n t) ∧ S.len = some n
  aft : (at? es "_after").getD (.ref 92) = S.aft
  cur : (at? es "_current").getD (.ref 92) = S.cur
  bef : (at? es "_before").getD (.ref 92) = S.bef
  lcv : (at? es "_last_changed_value").getD (.ref 92) = S.lcv
  oth : ∀ y, y ∉ names11 → at? es y = none
theorem one_le (o : Option Value) : one? o ≤ 1 := by unfold one?; split <;> omega
theorem LoopD.small {es : List DictEntry} {S : LS} (h : LoopD es S) : es.length ≤ 11 := by
  have := h.size
  have := one_le (at? es "index0"); have := one_le (at? es "_length"); have := one_le (at? es "_after"); have := one_le (at? es "_current"); have := one_le (at? es "_before"); have := one_le (at? es "_last_changed_value")
  omega
theorem put_small {es : List DictEntry} {S : LS} (h : LoopD es S) (name : Str) (hsh : Int) (tk : Tok) (v : Value) : (putL name hsh (.str name tk) v es).length ≤ 1000 := by
  rw [len_put]
  have := h.small
  split <;> omega


theorem LoopD.put_after {es : List DictEntry} {S : LS} (h : LoopD es S) (hsh : Int) (tk : Tok) (v : Value) : LoopD (putL "_after" hsh (.str "_after" tk) v es) { S with aft := v } := by
  obtain ⟨a1, a2, a3, a4, a5, a6, a7, a8, a9, a10, a11, a12, a13, a14⟩ := h
  refine ⟨any_put _ _ _ _ _ a1, ?_, ?_, ?_, ?_, ?_, ?_, ?_, ?_, ?_, ?_, ?_, ?_, fun y hy => ?_⟩
  rotate_right
  · rw [at_put, if_neg (fun e => hy (by rw [e]; decide +kernel)), a14 y hy]
  all_goals simp (decide := true) only [at_put, len_put, if_true, if_false, Option.getD_some]
  all_goals first | assumption | exact .inr ⟨_, rfl⟩ | exact .inr ⟨_, _, rfl, rfl⟩ | (cases q : at? es "_after" <;> simp [q, one?] at a2 a4 ⊢ <;> omega)

theorem LoopD.put_len {es : List DictEntry} {S : LS} (h : LoopD es S) (hsh : Int) (tk : Tok) (n : Int) (tn : Tok) : LoopD (putL "_length" hsh (.str "_length" tk) (.int n tn) es) { S with len := some n } := by
  obtain ⟨a1, a2, a3, a4, a5, a6, a7, a8, a9, a10, a11, a12, a13, a14⟩ := h
  refine ⟨any_put _ _ _ _ _ a1, ?_, ?_, ?_, ?_, ?_, ?_, ?_, ?_, ?_, ?_, ?_, ?_, fun y hy => ?_⟩
  rotate_right
  · rw [at_put, if_neg (fun e => hy (by rw [e]; decide +kernel)), a14 y hy]
  all_goals simp (decide := true) only [at_put, len_put, if_true, if_false, Option.getD_some]
  all_goals first | assumption | exact .inr ⟨_, rfl⟩ | exact .inr ⟨_, _, rfl, rfl⟩ | (cases q : at? es "_length" <;> simp [q, one?] at a2 a4 ⊢ <;> omega)

theorem LoopD.put_idx {es : List DictEntry} {S : LS} (h : LoopD es S) (hsh : Int) (tk : Tok) (n : Int) (tn : Tok) : LoopD (putL "index0" hsh (.str "index0" tk) (.int n tn) es) { S with idx := n } := by
  obtain ⟨a1, a2, a3, a4, a5, a6, a7, a8, a9, a10, a11, a12, a13, a14⟩ := h
  refine ⟨any_put _ _ _ _ _ a1, ?_, ?_, ?_, ?_, ?_, ?_, ?_, ?_, ?_, ?_, ?_, ?_, fun y hy => ?_⟩
  rotate_right
  · rw [at_put, if_neg (fun e => hy (by rw [e]; decide +kernel)), a14 y hy]
  all_goals simp (decide := true) only [at_put, len_put, if_true, if_false, Option.getD_some]
  all_goals first | assumption | exact .inr ⟨_, rfl⟩ | exact .inr ⟨_, _, rfl, rfl⟩ | (cases q : at? es "index0" <;> simp [q, one?] at a2 a4 ⊢ <;> omega)

theorem LoopD.put_bef {es : List DictEntry} {S : LS} (h : LoopD es S) (hsh : Int) (tk : Tok) (v : Value) : LoopD (putL "_before" hsh (.str "_before" tk) v es) { S with bef := v } := by
  obtain ⟨a1, a2, a3, a4, a5, a6, a7, a8, a9, a10, a11, a12, a13, a14⟩ := h
  refine ⟨any_put _ _ _ _ _ a1, ?_, ?_, ?_, ?_, ?_, ?_, ?_, ?_, ?_, ?_, ?_, ?_, fun y hy => ?_⟩
  rotate_right
  · rw [at_put, if_neg (fun e => hy (by rw [e]; decide +kernel)), a14 y hy]
  all_goals simp (decide := true) only [at_put, len_put, if_true, if_false, Option.getD_some]
  all_goals first | assumption | exact .inr ⟨_, rfl⟩ | exact .inr ⟨_, _, rfl, rfl⟩ | (cases q : at? es "_before" <;> simp [q, one?] at a2 a4 ⊢ <;> omega)

theorem LoopD.put_cur {es : List DictEntry} {S : LS} (h : LoopD es S) (hsh : Int) (tk : Tok) (v : Value) : LoopD (putL "_current" hsh (.str "_current" tk) v es) { S with cur := v } := by
  obtain ⟨a1, a2, a3, a4, a5, a6, a7, a8, a9, a10, a11, a12, a13, a14⟩ := h
  refine ⟨any_put _ _ _ _ _ a1, ?_, ?_, ?_, ?_, ?_, ?_, ?_, ?_, ?_, ?_, ?_, ?_, fun y hy => ?_⟩
  rotate_right
  · rw [at_put, if_neg (fun e => hy (by rw [e]; decide +kernel)), a14 y hy]
  all_goals simp (decide := true) only [at_put, len_put, if_true, if_false, Option.getD_some]
  all_goals first | assumption | exact .inr ⟨_, rfl⟩ | exact .inr ⟨_, _, rfl, rfl⟩ | (cases q : at? es "_current" <;> simp [q, one?] at a2 a4 ⊢ <;> omega)

theorem LoopD.put_lcv {es : List DictEntry} {S : LS} (h : LoopD es S) (hsh : Int) (tk : Tok) (v : Value) : LoopD (putL "_last_changed_value" hsh (.str "_last_changed_value" tk) v es) { S with lcv := v } := by
  obtain ⟨a1, a2, a3, a4, a5, a6, a7, a8, a9, a10, a11, a12, a13, a14⟩ := h
  refine ⟨any_put _ _ _ _ _ a1, ?_, ?_, ?_, ?_, ?_, ?_, ?_, ?_, ?_, ?_, ?_, ?_, fun y hy => ?_⟩
  rotate_right
  · rw [at_put, if_neg (fun e => hy (by rw [e]; decide +kernel)), a14 y hy]
  all_goals simp (decide := true) only [at_put, len_put, if_true, if_false, Option.getD_some]
  all_goals first | assumption | exact .inr ⟨_, rfl⟩ | exact .inr ⟨_, _, rfl, rfl⟩ | (cases q : at? es "_last_changed_value" <;> simp [q, one?] at a2 a4 ⊢ <;> omega)

theorem LoopD.put_itor {es : List DictEntry} {S : LS} (h : LoopD es S) (hsh : Int) (tk : Tok) (v : Value) : LoopD (putL "_iterator" hsh (.str "_iterator" tk) v es) { S with itor := v } := by
  obtain ⟨a1, a2, a3, a4, a5, a6, a7, a8, a9, a10, a11, a12, a13, a14⟩ := h
  refine ⟨any_put _ _ _ _ _ a1, ?_, ?_, ?_, ?_, ?_, ?_, ?_, ?_, ?_, ?_, ?_, ?_, fun y hy => ?_⟩
  rotate_right
  · rw [at_put, if_neg (fun e => hy (by rw [e]; decide +kernel)), a14 y hy]
  all_goals simp (decide := true) only [at_put, len_put, if_true, if_false, Option.getD_some]
  all_goals first | assumption | exact .inr ⟨_, rfl⟩ | exact .inr ⟨_, _, rfl, rfl⟩ | (cases q : at? es "_iterator" <;> simp [q, one?] at a2 a4 ⊢ <;> omega)

/-! ## Reading and storing an attribute -/
section
variable {prog : Program} {w : World} {A : Around} {E : Value → Shared → Prop} {s : Shared} {K : Frag} {x C dx L : Addr} {h₀ : Heap} {m : Str → Option Value} {news rest : List (Addr × Obj)} {ox od : Obj} {es : List DictEntry} {n : Nat} {name : Str} {v : Value} {S : LS}
theorem get_set {expr : Bool} {Q : Value → Shared → Prop} {attr : Option Value} (F : Fr h₀ L s.heap m) (X₀ : K.In h₀) (I : InstAt s.heap x ox C (some (dictOf es n))) (hD : LoopD es S) (hl : at? es name = some v) (hg : plainGet K C name = true) (hh : hasDictIn K C = true)
    (ha : findIn K (.ref C) name = some attr) (hn : noGet K attr = true) (hv : handedIn v = true) (h : Q v { s with toks := s.toks + 1 }) :
    wpAny (model prog w) A (getAttr (.ref x) name expr) Q E s := get_own F X₀ I hg hh ha hn (by rw [getL_at hD.keys, hl]) hv h
theorem get_dflt {expr : Bool} {Q : Value → Shared → Prop} {a : Value} (F : Fr h₀ L s.heap m) (X₀ : K.In h₀) (I : InstAt s.heap x ox C (some (dictOf es n))) (hD : LoopD es S) (hl : (at? es name).getD a = v) (hg : plainGet K C name = true) (hh : hasDictIn K C = true)
    (ha : findIn K (.ref C) name = some (some a)) (hn : specialIn K a "__get__" = some none) (hc : copiedNames.contains name = false) (hva : handedIn a = true) (hv : handedIn v = true) (h : Q v { s with toks := s.toks + 1 }) :
    wpAny (model prog w) A (getAttr (.ref x) name expr) Q E s := by
  cases q : at? es name with
  | none =>
    rw [q] at hl
    have hl : a = v := hl
    subst hl
    exact get_cls F X₀ I hg hh ha hn hva hc (by rw [getL_at hD.keys, q]) h
  | some u =>
    rw [q] at hl
    have hl : u = v := hl
    subst hl
    exact get_own F X₀ I hg hh ha (by show (specialIn K a "__get__" == some none) = true; rw [hn]; rfl) (by rw [getL_at hD.keys, q]) hv h
theorem get_idx {expr : Bool} {Q : Value → Shared → Prop} {t0 : Tok} (F : Fr h₀ L s.heap m) (X₀ : K.In h₀) (I : InstAt s.heap x ox C (some (dictOf es n))) (hD : LoopD es S) (hg : plainGet K C "index0" = true) (hh : hasDictIn K C = true)
    (ha : findIn K (.ref C) "index0" = some (some (.int (-1) t0))) (hn : specialIn K (.int (-1) t0) "__get__" = some none) (h : ∀ t, Q (.int S.idx t) { s with toks := s.toks + 1 }) :
    wpAny (model prog w) A (getAttr (.ref x) "index0" expr) Q E s := by
  rcases hD.idx with ⟨q, e⟩ | ⟨t, q⟩
  · have := h t0
    rw [e] at this
    exact get_cls F X₀ I hg hh ha hn rfl (by decide +kernel) (by rw [getL_at hD.keys, q]) this
  · exact get_own F X₀ I hg hh ha (by show (specialIn K _ "__get__" == some none) = true; rw [hn]; rfl) (by rw [getL_at hD.keys, q]) rfl (h t)
end

/-! ## M3 -/
/-! ## The three iterators -/
abbrev seqIt (T : String) (v : Value) (i : Nat) : Obj := { cls := .type T, data := .fields #[v, .int i 0] }
abbrev tupOf (its : Array Value) (n : Nat) : Obj := { cls := .type "tuple", data := .seq its n }
/-- the iterator `io`, over the list or tuple `lo` at `l`, has yet to yield `vs` -/
inductive ItOf (l : Addr) (lo : Obj) : Obj → List Value → Prop
  | list {its : List Value} {ep i : Nat} : lo = listOf its.toArray ep → i ≤ its.length → ItOf l lo (seqIt "list_iterator" (.ref l) i) (its.drop i)
  | listEnd {i : Nat} : ItOf l lo (seqIt "list_iterator" .none i) []
  | tup {its : List Value} {ep i : Nat} : lo = tupOf its.toArray ep → i ≤ its.length → ItOf l lo (seqIt "tuple_iterator" (.ref l) i) (its.drop i)
  | tupEnd {i : Nat} : ItOf l lo (seqIt "tuple_iterator" .none i) []
  | rev {its : List Value} {ep i : Nat} : lo = listOf its.toArray ep → i ≤ its.length → ItOf l lo (revObj l ((i : Int) - 1)) (its.take i).reverse

section
variable {prog : Program} {w : World} {A : Around} {E : Value → Shared → Prop} {s : Shared} {it l : Addr} {io lo : Obj} {v : Value} {vs : List Value}
theorem rising_some {T id : String} {i : Nat} {its : List Value} {ep : Nat} {Q : Option Value → Shared → Prop} {lo : Obj} (S : Slot T "__next__" id) (he : ∃ b, entryFor table id = some b ∧ ∀ a, b ⟨[a], []⟩ = (do
      let seq ← field a 0
      if seq == .none then rule s!"{id}.ended"; Builtin.SmallTypes.stopIteration
      let .int i _ ← field a 1 | unsupported s!"internal:{id}"
      let some xs ← seqItems? seq | unsupported s!"internal:{id}"
      match xs[i.toNat]? with
      | some x => setField a 1 (rawInt (i + 1)); ret x
      | none => rule s!"{id}.end"; setField a 0 .none; Builtin.SmallTypes.stopIteration)) (ha : ∀ a, argsOk id ⟨[a], []⟩)
    (hit : s.heap.get? it = some (seqIt T (.ref l) i)) (hl : s.heap.get? l = some lo) (hlo : lo.data = .seq its.toArray ep) (hx : its[i]? = some v)
    (hQ : Q (some v) { s with heap := s.heap.update it (Obj.mapFields (·.setIfInBounds 1 (rawInt ((i : Int) + 1)))) }) :
    wpAny (model prog w) A (callSpecial? (.ref it) (Str.ofString "__next__")) Q E s := by
  obtain ⟨b, he, hb⟩ := he
  have hT : s.TypeIs (.ref it) T := ⟨_, hit, rfl⟩
  refine wpAny_callSpecial?_slot hT S (wpAny_call_entry S hT he ?_ (ha _))
  rw [hb]
  refine wpAny_bind (wpAny_field hit rfl (x := .ref l) rfl ?_)
  show wpAny _ _ (if (Value.ref l == Value.none) = true then _ else _) _ _ s
  rw [if_neg (show ¬ ((Value.ref l == Value.none) = true) from Bool.false_ne_true)]
  show wpAny _ _ (field (.ref it) 1 >>= _) _ _ s
  refine wpAny_bind (wpAny_field hit rfl (x := .int i 0) rfl ?_)
  show wpAny _ _ (seqItems? (.ref l) >>= _) _ _ s
  refine wpAny_bind (wpAny_seqItems hl hlo ?_)
  simp only [Int.toNat_natCast, List.getElem?_toArray, hx]
  exact wpAny_bind (wpAny_setField hit rfl (by simp) (wpAny_pure ⟨v, rfl, hQ⟩))

theorem stop_raised {α : Type} {Q : α → Shared → Prop} (hh : A.handled = none) (h : ∀ h' e, Heap.MadeExc s.heap h' e "StopIteration" [] → E (.ref e) { s with heap := h' }) :
    wpAny (model prog w) A (Builtin.SmallTypes.stopIteration : Sem α) Q E s := by
  unfold Builtin.SmallTypes.stopIteration
  refine wpAny_bind ?_
  simp only [newExc, newTuple]
  refine wpAny_bind (wpAny_newObj_type ?_ (by size_fits))
  refine wpAny_bind (m := firstArgMember _ _) (wpAny_of_eq (a := Value.none) (by first | rfl | (simp only [firstArgMember]; rfl)) ?_)
  refine wpAny_newObj_type ?_ (by size_fits)
  simp only [raiseNew]
  refine wpAny_bind (wpAny_handled ?_)
  rw [hh]
  refine wpAny_bind (wpAny_pure (wpAny_throw ?_))
  refine h _ _ ⟨fun b o hb => Heap.get?_push_of_some _ (Heap.get?_push_of_some _ hb), ?_, ?_⟩
  · exact Heap.get?_none_of_le (by rw [Heap.size_push]; exact Nat.le_succ _)
  · exact ⟨s.heap.objs.size, Heap.get?_push_size _ rfl, Heap.get?_none_of_le (Nat.le_refl _), Heap.get?_push_of_some _ (Heap.get?_push_size _ rfl)⟩
theorem rising_end {T id : String} {u : Value} {i : Nat} {its : List Value} {ep : Nat} {Q : Option Value → Shared → Prop} {lo : Obj} (S : Slot T "__next__" id) (he : ∃ b, entryFor table id = some b ∧ ∀ a, b ⟨[a], []⟩ = (do
      let seq ← field a 0
      if seq == .none then rule s!"{id}.ended"; Builtin.SmallTypes.stopIteration
      let .int i _ ← field a 1 | unsupported s!"internal:{id}"
      let some xs ← seqItems? seq | unsupported s!"internal:{id}"
      match xs[i.toNat]? with
      | some x => setField a 1 (rawInt (i + 1)); ret x
      | none => rule s!"{id}.end"; setField a 0 .none; Builtin.SmallTypes.stopIteration)) (ha : ∀ a, argsOk id ⟨[a], []⟩) (hh : A.handled = none)
    (hit : s.heap.get? it = some (seqIt T u i)) (hu : u = .none ∨ (u = .ref l ∧ s.heap.get? l = some lo ∧ lo.data = .seq its.toArray ep ∧ its[i]? = none))
    (h : ∀ f h' e, Obj.mapFields f (seqIt T u i) = seqIt T .none i → Heap.MadeExc (s.heap.update it (Obj.mapFields f)) h' e "StopIteration" [] → E (.ref e) { s with heap := h' })
    (h0 : u = .none → ∀ h' e, Heap.MadeExc s.heap h' e "StopIteration" [] → E (.ref e) { s with heap := h' }) :
    wpAny (model prog w) A (callSpecial? (.ref it) (Str.ofString "__next__")) Q E s := by
  obtain ⟨b, he, hb⟩ := he
  have hT : s.TypeIs (.ref it) T := ⟨_, hit, rfl⟩
  refine wpAny_callSpecial?_slot hT S (wpAny_call_entry S hT he ?_ (ha _))
  rw [hb]
  refine wpAny_bind (wpAny_field hit rfl (x := u) rfl ?_)
  rcases hu with rfl | ⟨rfl, hl, hlo, hx⟩
  · show wpAny _ _ (if (Value.none == Value.none) = true then _ else _) _ _ s
    rw [if_pos (by rfl)]
    refine wpAny_bind (wpAny_rule ?_)
    refine wpAny_bind (stop_raised hh (h0 rfl))
  · show wpAny _ _ (if (Value.ref l == Value.none) = true then _ else _) _ _ s
    rw [if_neg (show ¬ ((Value.ref l == Value.none) = true) from Bool.false_ne_true)]
    show wpAny _ _ (field (.ref it) 1 >>= _) _ _ s
    refine wpAny_bind (wpAny_field hit rfl (x := .int i 0) rfl ?_)
    show wpAny _ _ (seqItems? (.ref l) >>= _) _ _ s
    refine wpAny_bind (wpAny_seqItems hl hlo ?_)
    simp only [Int.toNat_natCast, List.getElem?_toArray, hx]
    refine wpAny_bind (wpAny_rule (wpAny_bind (wpAny_setField hit rfl (by simp) ?_)))
    exact stop_raised hh (h _ · · rfl)
theorem rev_some {i : Nat} {its : List Value} {ep : Nat} {Q : Option Value → Shared → Prop} {lo : Obj}
    (hit : s.heap.get? it = some (revObj l ((i : Int) + 1 - 1))) (hl : s.heap.get? l = some lo) (hlo : lo.data = .seq its.toArray ep) (hx : its[i]? = some v)
    (hQ : Q (some v) { s with heap := s.heap.update it (Obj.mapFields (·.setIfInBounds 1 (rawInt ((i : Int) + 1 - 1 - 1)))) }) :
    wpAny (model prog w) A (callSpecial? (.ref it) (Str.ofString "__next__")) Q E s := by
  have hT : s.TypeIs (.ref it) "list_reverseiterator" := ⟨_, hit, rfl⟩
  refine wpAny_callSpecial?_slot hT F.slot_lri_next (wpAny_call_entry F.slot_lri_next hT F.entry_lri_next ?_ (F.args_lri_next_1 _))
  unfold Builtin.«list_reverseiterator.__next__»
  refine wpAny_bind (wpAny_of_eq (a := (Value.ref it, [])) rfl ?_)
  try dsimp only
  refine wpAny_bind (wpAny_field hit rfl (x := rawInt ((i : Int) + 1 - 1)) rfl ?_)
  show wpAny _ _ (if (i : Int) + 1 - 1 < 0 then _ else _) _ _ s
  rw [if_neg (by omega)]
  show wpAny _ _ (field (.ref it) 0 >>= _) _ _ s
  refine wpAny_bind (wpAny_field hit rfl (x := .ref l) rfl ?_)
  show wpAny _ _ (seqItems? (.ref l) >>= _) _ _ s
  refine wpAny_bind (wpAny_seqItems hl hlo ?_)
  have e : ((i : Int) + 1 - 1).toNat = i := by omega
  simp only [e, List.getElem?_toArray, hx]
  refine wpAny_bind (wpAny_setField hit rfl (by simp) ?_)
  first
  | exact wpAny_pure ⟨v, rfl, hQ⟩
  | exact wpAny_bind (wpAny_pure (wpAny_pure ⟨v, rfl, hQ⟩))
theorem rev_end {Q : Option Value → Shared → Prop} (hh : A.handled = none)
    (hit : s.heap.get? it = some (revObj l (-1))) (h : ∀ h' e, Heap.MadeExc s.heap h' e "StopIteration" [] → E (.ref e) { s with heap := h' }) :
    wpAny (model prog w) A (callSpecial? (.ref it) (Str.ofString "__next__")) Q E s := by
  have hT : s.TypeIs (.ref it) "list_reverseiterator" := ⟨_, hit, rfl⟩
  refine wpAny_callSpecial?_slot hT F.slot_lri_next (wpAny_call_entry F.slot_lri_next hT F.entry_lri_next ?_ (F.args_lri_next_1 _))
  unfold Builtin.«list_reverseiterator.__next__»
  refine wpAny_bind (wpAny_of_eq (a := (Value.ref it, [])) rfl ?_)
  try dsimp only
  refine wpAny_bind (wpAny_field hit rfl (x := rawInt (-1)) rfl ?_)
  show wpAny _ _ (if (-1 : Int) < 0 then _ else _) _ _ s
  rw [if_pos (by decide)]
  refine wpAny_bind (wpAny_rule ?_)
  exact wpAny_bind (stop_raised hh h)
end

theorem he_list : ∃ b, entryFor table "list_iterator.__next__" = some b ∧ ∀ a, b ⟨[a], []⟩ = (do
      let seq ← field a 0
      if seq == .none then rule s!"{"list_iterator.__next__"}.ended"; Builtin.SmallTypes.stopIteration
      let .int i _ ← field a 1 | unsupported s!"internal:{"list_iterator.__next__"}"
      let some xs ← seqItems? seq | unsupported s!"internal:{"list_iterator.__next__"}"
      match xs[i.toNat]? with
      | some x => setField a 1 (rawInt (i + 1)); ret x
      | none => rule s!"{"list_iterator.__next__"}.end"; setField a 0 .none; Builtin.SmallTypes.stopIteration) := ⟨_, entry_listiter_next, fun _ => rfl⟩
theorem he_tup : ∃ b, entryFor table "tuple_iterator.__next__" = some b ∧ ∀ a, b ⟨[a], []⟩ = (do
      let seq ← field a 0
      if seq == .none then rule s!"{"tuple_iterator.__next__"}.ended"; Builtin.SmallTypes.stopIteration
      let .int i _ ← field a 1 | unsupported s!"internal:{"tuple_iterator.__next__"}"
      let some xs ← seqItems? seq | unsupported s!"internal:{"tuple_iterator.__next__"}"
      match xs[i.toNat]? with
      | some x => setField a 1 (rawInt (i + 1)); ret x
      | none => rule s!"{"tuple_iterator.__next__"}.end"; setField a 0 .none; Builtin.SmallTypes.stopIteration) := ⟨_, F.entry_tuple_iterator_next, fun _ => rfl⟩

section
variable {prog : Program} {w : World} {A : Around} {E : Value → Shared → Prop} {s : Shared} {it l : Addr} {io lo : Obj} {v : Value} {us vs : List Value}
theorem sp_some {Q : Option Value → Shared → Prop} (hi : ItOf l lo io us) (hu : us = v :: vs) (hit : s.heap.get? it = some io) (hl : s.heap.get? l = some lo)
    (hQ : ∀ f io', Obj.mapFields f io = io' → io'.isFreed = false → ItOf l lo io' vs → Q (some v) { s with heap := s.heap.update it (Obj.mapFields f) }) :
    wpAny (model prog w) A (callSpecial? (.ref it) (Str.ofString "__next__")) Q E s := by
  have step : ∀ {its : List Value} {i : Nat}, its.drop i = v :: vs → its[i]? = some v ∧ its.drop (i + 1) = vs ∧ i + 1 ≤ its.length := fun {its i} e => by
    have h1 : its[i]? = some v := by
      have := congrArg List.head? e
      rwa [List.head?_drop] at this
    have h2 : its.drop (i + 1) = vs := by
      have := congrArg List.tail e
      rwa [List.tail_drop] at this
    have h3 : i < its.length := by
      rcases Nat.lt_or_ge i its.length with h | h
      · exact h
      · rw [List.getElem?_eq_none h] at h1; cases h1
    exact ⟨h1, h2, h3⟩
  cases hi with
  | list hlo hi =>
    obtain ⟨h1, h2, h3⟩ := step hu
    refine rising_some slot_listiter_next he_list args_listiter_next hit hl (by rw [hlo]) h1 (hQ _ _ rfl rfl ?_)
    rw [← h2]
    exact ItOf.list hlo h3
  | tup hlo hi =>
    obtain ⟨h1, h2, h3⟩ := step hu
    refine rising_some F.slot_tuple_iterator_next he_tup F.args_tuple_iterator_next_1 hit hl (by rw [hlo]) h1 (hQ _ _ rfl rfl ?_)
    rw [← h2]
    exact ItOf.tup hlo h3
  | listEnd => cases hu
  | tupEnd => cases hu
  | @rev its ep i hlo hi =>
    cases i with
    | zero => rw [List.take_zero] at hu; cases hu
    | succ i =>
      have hlt : i < its.length := hi
      rw [List.take_succ_eq_append_getElem hlt, List.reverse_append] at hu
      have hv : its[i] = v := (List.cons.inj hu).1
      have hvs : (its.take i).reverse = vs := (List.cons.inj hu).2
      refine rev_some hit hl (by rw [hlo]) (by rw [List.getElem?_eq_getElem hlt, hv]) (hQ _ _ rfl rfl ?_)
      rw [← hvs]
      have e : (((i : Nat) : Int) + 1 - 1 - 1) = (i : Int) - 1 := by omega
      show ItOf l lo (revObj l ((i : Int) + 1 - 1 - 1)) _
      rw [e]
      exact ItOf.rev hlo (Nat.le_of_lt hlt)
theorem sp_end {Q : Option Value → Shared → Prop} (hh : A.handled = none) (hi : ItOf l lo io us) (hu : us = []) (hit : s.heap.get? it = some io) (hl : s.heap.get? l = some lo)
    (hE : ∀ h₁ h' e, (h₁ = s.heap ∨ ∃ f io', h₁ = s.heap.update it (Obj.mapFields f) ∧ Obj.mapFields f io = io' ∧ io'.isFreed = false ∧ ItOf l lo io' []) → Heap.MadeExc h₁ h' e "StopIteration" [] → E (.ref e) { s with heap := h' }) :
    wpAny (model prog w) A (callSpecial? (.ref it) (Str.ofString "__next__")) Q E s := by
  have stop : ∀ {its : List Value} {i : Nat}, its.drop i = [] → its[i]? = none := fun {its i} e => by
    have := congrArg List.head? e
    rwa [List.head?_drop] at this
  cases hi with
  | list hlo hi =>
    refine rising_end slot_listiter_next he_list args_listiter_next hh hit (.inr ⟨rfl, hl, by rw [hlo], stop hu⟩) (fun f h' e hf hx => hE _ h' e (.inr ⟨f, _, rfl, hf, rfl, .listEnd⟩) hx) fun q => by cases q
  | tup hlo hi =>
    refine rising_end F.slot_tuple_iterator_next he_tup F.args_tuple_iterator_next_1 hh hit (.inr ⟨rfl, hl, by rw [hlo], stop hu⟩) (fun f h' e hf hx => hE _ h' e (.inr ⟨f, _, rfl, hf, rfl, .tupEnd⟩) hx) fun q => by cases q
  | listEnd => exact rising_end (l := l) (lo := lo) (its := []) (ep := 0) slot_listiter_next he_list args_listiter_next hh hit (.inl rfl) (fun f h' e hf hx => hE _ h' e (.inr ⟨f, _, rfl, hf, rfl, .listEnd⟩) hx) fun _ h' e hx => hE _ h' e (.inl rfl) hx
  | tupEnd => exact rising_end (l := l) (lo := lo) (its := []) (ep := 0) F.slot_tuple_iterator_next he_tup F.args_tuple_iterator_next_1 hh hit (.inl rfl) (fun f h' e hf hx => hE _ h' e (.inr ⟨f, _, rfl, hf, rfl, .tupEnd⟩) hx) fun _ h' e hx => hE _ h' e (.inl rfl) hx
  | @rev its ep i hlo hi =>
    have : i = 0 := by
      have h := congrArg List.length hu
      rw [List.length_reverse, List.length_take, List.length_nil] at h
      omega
    subst this
    exact rev_end (l := l) hh hit fun h' e hx => hE _ h' e (.inl rfl) hx
end

/-! ## M4 -/
section
variable {prog : Program} {w : World} {A : Around} {E : Value → Shared → Prop} {s : Shared} {h₀ : Heap} {L it l : Addr} {m : Str → Option Value} {news : List (Addr × Obj)} {g : Obj → List (Addr × Obj)} {io lo : Obj} {v dflt : Value} {us vs : List Value}

theorem it_type (hi : ItOf l lo io us) : ∃ T, io.cls = .type T ∧ ∃ r, typeLookup (.type T) "__next__" = pure (some r) := by
  cases hi with
  | list => exact ⟨_, rfl, _, slot_listiter_next.lookup⟩
  | listEnd => exact ⟨_, rfl, _, slot_listiter_next.lookup⟩
  | tup => exact ⟨_, rfl, _, F.slot_tuple_iterator_next.lookup⟩
  | tupEnd => exact ⟨_, rfl, _, F.slot_tuple_iterator_next.lookup⟩
  | rev => exact ⟨_, rfl, _, F.slot_lri_next.lookup⟩

theorem upd_io {f : Array Value → Array Value} {io' : Obj} (F : Fr h₀ L s.heap m) (N : News h₀ L s.heap news) (U : UpdF it io news g) (e : Obj.mapFields f io = io') (hf : io'.isFreed = false) :
    Fr h₀ L (s.heap.update it (Obj.mapFields f)) m ∧ News h₀ L (s.heap.update it (Obj.mapFields f)) (g io') := by
  obtain ⟨pre, post, hl, hg, a, b⟩ := U.split
  rw [hg]
  rw [hl] at N
  exact news_upd F N a b e hf

theorem upd_mem (U : UpdF it io news g) : (it, io) ∈ news := by
  obtain ⟨pre, post, hl, hg, a, b⟩ := U.split
  rw [hl]; exact List.mem_append_right _ (.head _)

theorem news_stays {h h' : Heap} {a : List (Addr × Obj)} (N : News h₀ L h a) (k : ∀ b o, h.get? b = some o → h'.get? b = some o) : News h₀ L h' a := fun p hp => ⟨k _ _ (N p hp).1, (N p hp).2⟩
theorem upd_same (U : UpdF it io news g) : g io = news := by
  obtain ⟨pre, post, hl, hg, a, b⟩ := U.split
  rw [hg, hl]

/-- next(it, dflt) -/
theorem k_next2 {Q : Value → Shared → Prop} (hh : A.handled = none) (F : Fr h₀ L s.heap m) (N : News h₀ L s.heap news) (U : UpdF it io news g) (hi : ItOf l lo io us) (hl : h₀.get? l = some lo)
    (h : ∀ h' io', ItOf l lo io' us.tail → io'.cls = io.cls → Fr h₀ L h' m → News h₀ L h' (g io') → Q (us.headD dflt) { s with heap := h' }) :
    wpAny (model prog w) A (call (.builtin "next") [.ref it, dflt]) Q E s := by
  have hit := (N _ (upd_mem U)).1
  obtain ⟨T, hT, r, hr⟩ := it_type hi
  refine call_function_entry (by decide +kernel) (by decide +kernel) kdk_entry_next (kdk_args_next2 _ _) ?_
  unfold Builtin.«next»
  refine wpAny_bind (m := someArgs "next" 1 2 _) (wpAny_of_eq (a := [Value.ref it, dflt]) (by first | rfl | kernel_rfl!) ?_)
  dsimp only
  refine wpAny_bind (wpAny_specialOf (name := Str.ofString "__next__") (T := T) ⟨_, hit, hT⟩ hr ?_)
  refine wpAny_ite_split (fun hab => absurd hab (by simp)) (fun _ => ?_)
  refine wpAny_bind ?_
  unfold pyNext
  cases us with
  | cons v vs =>
    refine wpAny_bind (wpAny_attempt (sp_some hi rfl hit (F.keep _ _ hl) fun f io' e hf hi' => wpAny_pure ?_))
    obtain ⟨F', N'⟩ := upd_io F N U e hf
    exact wpAny_pure ⟨_, rfl, h _ io' hi' (by rw [← e]; exact Obj.cls_mapFields ..) F' N'⟩
  | nil =>
    refine wpAny_bind (wpAny_attempt (sp_end hh hi rfl hit (F.keep _ _ hl) fun h₁ h' e h1 hx => ?_))
    obtain ⟨t, ht, _⟩ := hx.there
    refine wpAny_bind (wpAny_isInstance (T := "StopIteration") (b := true) ⟨_, ht, rfl⟩ isSubtype_stop ?_)
    refine wpAny_pure (wpAny_pure ⟨_, rfl, ?_⟩)
    rcases h1 with rfl | ⟨f, io', rfl, e', hf, hi'⟩
    · exact h _ io hi rfl (F.keeps hx.keeps) (by rw [upd_same U]; exact news_stays N hx.keeps)
    · obtain ⟨F', N'⟩ := upd_io F N U e' hf
      exact h _ io' hi' (by rw [← e']; exact Obj.cls_mapFields ..) (F'.keeps hx.keeps) (news_stays N' hx.keeps)

/-- next(it), an item being there -/
theorem k_next1 {Q : Value → Shared → Prop} (F : Fr h₀ L s.heap m) (N : News h₀ L s.heap news) (U : UpdF it io news g) (hi : ItOf l lo io us) (hu : us = v :: vs) (hl : h₀.get? l = some lo)
    (h : ∀ h' io', ItOf l lo io' vs → io'.cls = io.cls → Fr h₀ L h' m → News h₀ L h' (g io') → Q v { s with heap := h' }) :
    wpAny (model prog w) A (call (.builtin "next") [.ref it]) Q E s := by
  have hit := (N _ (upd_mem U)).1
  obtain ⟨T, hT, r, hr⟩ := it_type hi
  refine call_function_entry (by decide +kernel) (by decide +kernel) kdk_entry_next (kdk_args_next _) ?_
  unfold Builtin.«next»
  refine wpAny_bind (m := someArgs "next" 1 2 _) (wpAny_of_eq (a := [Value.ref it]) (by first | rfl | kernel_rfl!) ?_)
  dsimp only
  refine wpAny_bind (wpAny_specialOf (name := Str.ofString "__next__") (T := T) ⟨_, hit, hT⟩ hr ?_)
  refine wpAny_ite_split (fun hab => absurd hab (by simp)) (fun _ => ?_)
  refine wpAny_bind (sp_some hi hu hit (F.keep _ _ hl) fun f io' e hf hi' => ?_)
  obtain ⟨F', N'⟩ := upd_io F N U e hf
  exact wpAny_pure ⟨_, rfl, h _ io' hi' (by rw [← e]; exact Obj.cls_mapFields ..) F' N'⟩
/-- next(it), at the end -/
theorem k_next1_end {Q : Value → Shared → Prop} (hh : A.handled = none) (F : Fr h₀ L s.heap m) (N : News h₀ L s.heap news) (U : UpdF it io news g) (hi : ItOf l lo io us) (hu : us = []) (hl : h₀.get? l = some lo)
    (h : ∀ h₁ h' e io', ItOf l lo io' [] → Fr h₀ L h₁ m → News h₀ L h₁ (g io') → Heap.MadeExcOf h₁ h' e (.type "StopIteration") [] → E (.ref e) { s with heap := h' }) :
    wpAny (model prog w) A (call (.builtin "next") [.ref it]) Q E s := by
  have hit := (N _ (upd_mem U)).1
  obtain ⟨T, hT, r, hr⟩ := it_type hi
  refine call_function_entry (by decide +kernel) (by decide +kernel) kdk_entry_next (kdk_args_next _) ?_
  unfold Builtin.«next»
  refine wpAny_bind (m := someArgs "next" 1 2 _) (wpAny_of_eq (a := [Value.ref it]) (by first | rfl | kernel_rfl!) ?_)
  dsimp only
  refine wpAny_bind (wpAny_specialOf (name := Str.ofString "__next__") (T := T) ⟨_, hit, hT⟩ hr ?_)
  refine wpAny_ite_split (fun hab => absurd hab (by simp)) (fun _ => ?_)
  subst hu
  refine wpAny_bind (sp_end hh hi rfl hit (F.keep _ _ hl) fun h₁ h' e h1 hx => ?_)
  rcases h1 with rfl | ⟨f, io', rfl, e', hf, hi'⟩
  · exact h _ h' e io hi F (by rw [upd_same U]; exact N) (Heap.MadeExc.of hx)
  · obtain ⟨F', N'⟩ := upd_io F N U e' hf
    exact h _ h' e io' hi' F' N' (Heap.MadeExc.of hx)

/-- iter(list), iter(tuple): a new iterator -/
theorem k_iter_list {Q : Value → Shared → Prop} {its : List Value} {ep : Nat} (F : Fr h₀ L s.heap m) (N : News h₀ L s.heap news) (hl : s.heap.get? l = some lo) (he : lo = listOf its.toArray ep)
    (h : ∀ I h' io', ItOf l lo io' its → Fr h₀ L h' m → News h₀ L h' ((I, io') :: news) → (∀ p ∈ news, p.1 < I) → Q (.ref I) { s with heap := h' }) :
    wpAny (model prog w) A (call (.builtin "iter") [.ref l]) Q E s := by
  refine call_function_entry (by decide +kernel) (by decide +kernel) kdk_entry_iter (kdk_args_iter _) ?_
  unfold Builtin.«iter»
  refine wpAny_bind (m := someArgs "iter" 1 2 _) (wpAny_of_eq (a := [Value.ref l]) (by first | rfl | kernel_rfl!) ?_)
  show wpAny _ _ (pyIter (.ref l) >>= _) _ _ _
  refine wpAny_bind (wpAny_pyIter_list (items := its.toArray) ⟨lo, hl, by rw [he], ep, by rw [he]⟩ ?_)
  refine wpAny_pure ⟨_, rfl, h _ _ _ ?_ (F.push _) (News.push F N _ rfl) (fun q hq => Heap.lt_size (N q hq).1)⟩
  have := ItOf.list (l := l) (i := 0) he (Nat.zero_le _)
  rwa [List.drop_zero] at this
theorem k_iter_tup {Q : Value → Shared → Prop} {its : List Value} {ep : Nat} (F : Fr h₀ L s.heap m) (N : News h₀ L s.heap news) (hl : s.heap.get? l = some lo) (he : lo = tupOf its.toArray ep)
    (h : ∀ I h' io', ItOf l lo io' its → Fr h₀ L h' m → News h₀ L h' ((I, io') :: news) → (∀ p ∈ news, p.1 < I) → Q (.ref I) { s with heap := h' }) :
    wpAny (model prog w) A (call (.builtin "iter") [.ref l]) Q E s := by
  refine call_function_entry (by decide +kernel) (by decide +kernel) kdk_entry_iter (kdk_args_iter _) ?_
  unfold Builtin.«iter»
  refine wpAny_bind (m := someArgs "iter" 1 2 _) (wpAny_of_eq (a := [Value.ref l]) (by first | rfl | kernel_rfl!) ?_)
  show wpAny _ _ (pyIter (.ref l) >>= _) _ _ _
  refine wpAny_bind (wpAny_pyIter_tuple (items := its.toArray) ⟨lo, hl, by rw [he], ep, by rw [he]⟩ ?_)
  refine wpAny_pure ⟨_, rfl, h _ _ _ ?_ (F.push _) (News.push F N _ rfl) (fun q hq => Heap.lt_size (N q hq).1)⟩
  have := ItOf.tup (l := l) (i := 0) he (Nat.zero_le _)
  rwa [List.drop_zero] at this
theorem k_iter_rev {Q : Value → Shared → Prop} {i : Int} (hit : s.heap.get? it = some (revObj l i)) (h : Q (.ref it) s) :
    wpAny (model prog w) A (call (.builtin "iter") [.ref it]) Q E s := by
  refine call_function_entry (by decide +kernel) (by decide +kernel) kdk_entry_iter (kdk_args_iter _) ?_
  unfold Builtin.«iter»
  refine wpAny_bind (m := someArgs "iter" 1 2 _) (wpAny_of_eq (a := [Value.ref it]) (by first | rfl | kernel_rfl!) ?_)
  show wpAny _ _ (pyIter (.ref it) >>= _) _ _ _
  exact wpAny_bind (wpAny_pyIter_revIter ⟨_, hit, rfl, rfl⟩ (wpAny_pure ⟨_, rfl, h⟩))
end

/-! ## M5 -/
theorem facts255 {w : World} :
    hasDictIn (hd.heap_39 w.params) 255 = true ∧
    plainOver (hd.heap_39 w.params) 255 = true ∧
    findIn (hd.heap_39 w.params) (.ref 255) "__setattr__" = some (some (.builtin "object.__setattr__")) ∧
    plainGet (hd.heap_39 w.params) 255 "_iterable" = true ∧
    findIn (hd.heap_39 w.params) (.ref 255) "_iterable" = some none ∧
    plainGet (hd.heap_39 w.params) 255 "_iterator" = true ∧
    findIn (hd.heap_39 w.params) (.ref 255) "_iterator" = some none ∧
    plainGet (hd.heap_39 w.params) 255 "_undefined" = true ∧
    findIn (hd.heap_39 w.params) (.ref 255) "_undefined" = some none ∧
    plainGet (hd.heap_39 w.params) 255 "_recurse" = true ∧
    findIn (hd.heap_39 w.params) (.ref 255) "_recurse" = some none ∧
    plainGet (hd.heap_39 w.params) 255 "depth0" = true ∧
    findIn (hd.heap_39 w.params) (.ref 255) "depth0" = some none ∧
    plainGet (hd.heap_39 w.params) 255 "_length" = true ∧
    findIn (hd.heap_39 w.params) (.ref 255) "_length" = some (some .none) ∧
    specialIn (hd.heap_39 w.params) .none "__get__" = some none ∧
    plainGet (hd.heap_39 w.params) 255 "_after" = true ∧
    findIn (hd.heap_39 w.params) (.ref 255) "_after" = some (some (.ref 92)) ∧
    specialIn (hd.heap_39 w.params) (.ref 92) "__get__" = some none ∧
    plainGet (hd.heap_39 w.params) 255 "_current" = true ∧
    findIn (hd.heap_39 w.params) (.ref 255) "_current" = some (some (.ref 92)) ∧
    plainGet (hd.heap_39 w.params) 255 "_before" = true ∧
    findIn (hd.heap_39 w.params) (.ref 255) "_before" = some (some (.ref 92)) ∧
    plainGet (hd.heap_39 w.params) 255 "_last_changed_value" = true ∧
    findIn (hd.heap_39 w.params) (.ref 255) "_last_changed_value" = some (some (.ref 92)) ∧
    plainGet (hd.heap_39 w.params) 255 "index0" = true ∧
    findIn (hd.heap_39 w.params) (.ref 255) "index0" = some (some (.int (-1) 311)) ∧
    specialIn (hd.heap_39 w.params) (.int (-1) 311) "__get__" = some none ∧
    takerIn (hd.heap_39 w.params) 255 "_after" = some none ∧
    takerIn (hd.heap_39 w.params) 255 "_length" = some none ∧
    takerIn (hd.heap_39 w.params) 255 "index0" = some none ∧
    takerIn (hd.heap_39 w.params) 255 "_before" = some none ∧
    takerIn (hd.heap_39 w.params) 255 "_current" = some none ∧
    takerIn (hd.heap_39 w.params) 255 "_last_changed_value" = some none ∧
    takerIn (hd.heap_39 w.params) 255 "_iterator" = some none := by
  refine ⟨?_, ?_, ?_, ?_, ?_, ?_, ?_, ?_, ?_, ?_, ?_, ?_, ?_, ?_, ?_, ?_, ?_, ?_, ?_, ?_, ?_, ?_, ?_, ?_, ?_, ?_, ?_, ?_, ?_, ?_, ?_, ?_, ?_, ?_, ?_⟩ <;> k_is

theorem updF_upd {d : Addr} {o o' : Obj} : ∀ {l : List (Addr × Obj)} {g : Obj → List (Addr × Obj)}, UpdF d o l g → Upd d o o' l (g o')
  | _, _, .head h => .head h
  | _, _, .tail h r => .tail h (updF_upd r)

def lenV : Option Int → Tok → Value
  | none, _ => .none
  | some n, t => .int n t

section
variable {prog : Program} {w : World} {A : Around} {E : Value → Shared → Prop} {s : Shared} {x dx L : Addr} {h₀ : Heap} {m : Str → Option Value} {news : List (Addr × Obj)} {g : Obj → List (Addr × Obj)} {ox : Obj} {es : List DictEntry} {n : Nat} {S : LS} {expr : Bool} {Q : Value → Shared → Prop}

theorem get_iterable (F : Fr h₀ L s.heap m) (X₀ : (hd.heap_39 w.params).In h₀) (I : InstAt s.heap x ox 255 (some (dictOf es n))) (hD : LoopD es S) (hv : handedIn S.iterable = true) (h : Q S.iterable { s with toks := s.toks + 1 }) :
    wpAny (model prog w) A (getAttr (.ref x) "_iterable" expr) Q E s := get_set F X₀ I hD hD.iterable facts255.2.2.2.1 facts255.1 facts255.2.2.2.2.1 (by rfl) hv h
theorem get_itor (F : Fr h₀ L s.heap m) (X₀ : (hd.heap_39 w.params).In h₀) (I : InstAt s.heap x ox 255 (some (dictOf es n))) (hD : LoopD es S) (hv : handedIn S.itor = true) (h : Q S.itor { s with toks := s.toks + 1 }) :
    wpAny (model prog w) A (getAttr (.ref x) "_iterator" expr) Q E s := get_set F X₀ I hD hD.itor facts255.2.2.2.2.2.1 facts255.1 facts255.2.2.2.2.2.2.1 (by rfl) hv h
theorem get_und (F : Fr h₀ L s.heap m) (X₀ : (hd.heap_39 w.params).In h₀) (I : InstAt s.heap x ox 255 (some (dictOf es n))) (hD : LoopD es S) (h : Q (.ref 364) { s with toks := s.toks + 1 }) :
    wpAny (model prog w) A (getAttr (.ref x) "_undefined" expr) Q E s := get_set F X₀ I hD hD.und facts255.2.2.2.2.2.2.2.1 facts255.1 facts255.2.2.2.2.2.2.2.2.1 (by rfl) rfl h
theorem get_again (F : Fr h₀ L s.heap m) (X₀ : (hd.heap_39 w.params).In h₀) (I : InstAt s.heap x ox 255 (some (dictOf es n))) (hD : LoopD es S) (hv : handedIn S.again = true) (h : Q S.again { s with toks := s.toks + 1 }) :
    wpAny (model prog w) A (getAttr (.ref x) "_recurse" expr) Q E s := get_set F X₀ I hD hD.again facts255.2.2.2.2.2.2.2.2.2.1 facts255.1 facts255.2.2.2.2.2.2.2.2.2.2.1 (by rfl) hv h
theorem get_depth0 (F : Fr h₀ L s.heap m) (X₀ : (hd.heap_39 w.params).In h₀) (I : InstAt s.heap x ox 255 (some (dictOf es n))) (hD : LoopD es S) (h : ∀ t, Q (.int S.depth t) { s with toks := s.toks + 1 }) :
    wpAny (model prog w) A (getAttr (.ref x) "depth0" expr) Q E s := by
  obtain ⟨t, e⟩ := hD.depth
  exact get_set F X₀ I hD e facts255.2.2.2.2.2.2.2.2.2.2.2.1 facts255.1 facts255.2.2.2.2.2.2.2.2.2.2.2.2.1 (by rfl) rfl (h t)
theorem get_index0 (F : Fr h₀ L s.heap m) (X₀ : (hd.heap_39 w.params).In h₀) (I : InstAt s.heap x ox 255 (some (dictOf es n))) (hD : LoopD es S) (h : ∀ t, Q (.int S.idx t) { s with toks := s.toks + 1 }) :
    wpAny (model prog w) A (getAttr (.ref x) "index0" expr) Q E s := get_idx F X₀ I hD facts255.2.2.2.2.2.2.2.2.2.2.2.2.2.2.2.2.2.2.2.2.2.2.2.2.2.1 facts255.1 (t0 := 311) facts255.2.2.2.2.2.2.2.2.2.2.2.2.2.2.2.2.2.2.2.2.2.2.2.2.2.2.1 facts255.2.2.2.2.2.2.2.2.2.2.2.2.2.2.2.2.2.2.2.2.2.2.2.2.2.2.2.1 h
theorem get_len (F : Fr h₀ L s.heap m) (X₀ : (hd.heap_39 w.params).In h₀) (I : InstAt s.heap x ox 255 (some (dictOf es n))) (hD : LoopD es S) (h : ∀ t, Q (lenV S.len t) { s with toks := s.toks + 1 }) :
    wpAny (model prog w) A (getAttr (.ref x) "_length" expr) Q E s := by
  rcases hD.len with ⟨e, q⟩ | ⟨k, t, e, q⟩
  · have z := h 0
    rw [q] at z
    exact get_dflt (a := .none) (v := .none) F X₀ I hD (by rw [e]; rfl) facts255.2.2.2.2.2.2.2.2.2.2.2.2.2.1 facts255.1 facts255.2.2.2.2.2.2.2.2.2.2.2.2.2.2.1 facts255.2.2.2.2.2.2.2.2.2.2.2.2.2.2.2.1 (by decide +kernel) rfl rfl z
  · have z := h t
    rw [q] at z
    exact get_dflt (a := .none) (v := .int k t) F X₀ I hD (by rw [e]; rfl) facts255.2.2.2.2.2.2.2.2.2.2.2.2.2.1 facts255.1 facts255.2.2.2.2.2.2.2.2.2.2.2.2.2.2.1 facts255.2.2.2.2.2.2.2.2.2.2.2.2.2.2.2.1 (by decide +kernel) rfl rfl z
theorem get_aft (F : Fr h₀ L s.heap m) (X₀ : (hd.heap_39 w.params).In h₀) (I : InstAt s.heap x ox 255 (some (dictOf es n))) (hD : LoopD es S) (hv : handedIn S.aft = true) (h : Q S.aft { s with toks := s.toks + 1 }) :
    wpAny (model prog w) A (getAttr (.ref x) "_after" expr) Q E s := get_dflt F X₀ I hD hD.aft facts255.2.2.2.2.2.2.2.2.2.2.2.2.2.2.2.2.1 facts255.1 facts255.2.2.2.2.2.2.2.2.2.2.2.2.2.2.2.2.2.1 facts255.2.2.2.2.2.2.2.2.2.2.2.2.2.2.2.2.2.2.1 (by decide +kernel) rfl hv h
theorem get_cur (F : Fr h₀ L s.heap m) (X₀ : (hd.heap_39 w.params).In h₀) (I : InstAt s.heap x ox 255 (some (dictOf es n))) (hD : LoopD es S) (hv : handedIn S.cur = true) (h : Q S.cur { s with toks := s.toks + 1 }) :
    wpAny (model prog w) A (getAttr (.ref x) "_current" expr) Q E s := get_dflt F X₀ I hD hD.cur facts255.2.2.2.2.2.2.2.2.2.2.2.2.2.2.2.2.2.2.2.1 facts255.1 facts255.2.2.2.2.2.2.2.2.2.2.2.2.2.2.2.2.2.2.2.2.1 facts255.2.2.2.2.2.2.2.2.2.2.2.2.2.2.2.2.2.2.1 (by decide +kernel) rfl hv h
theorem get_bef (F : Fr h₀ L s.heap m) (X₀ : (hd.heap_39 w.params).In h₀) (I : InstAt s.heap x ox 255 (some (dictOf es n))) (hD : LoopD es S) (hv : handedIn S.bef = true) (h : Q S.bef { s with toks := s.toks + 1 }) :
    wpAny (model prog w) A (getAttr (.ref x) "_before" expr) Q E s := get_dflt F X₀ I hD hD.bef facts255.2.2.2.2.2.2.2.2.2.2.2.2.2.2.2.2.2.2.2.2.2.1 facts255.1 facts255.2.2.2.2.2.2.2.2.2.2.2.2.2.2.2.2.2.2.2.2.2.2.1 facts255.2.2.2.2.2.2.2.2.2.2.2.2.2.2.2.2.2.2.1 (by decide +kernel) rfl hv h
theorem get_lcv (F : Fr h₀ L s.heap m) (X₀ : (hd.heap_39 w.params).In h₀) (I : InstAt s.heap x ox 255 (some (dictOf es n))) (hD : LoopD es S) (hv : handedIn S.lcv = true) (h : Q S.lcv { s with toks := s.toks + 1 }) :
    wpAny (model prog w) A (getAttr (.ref x) "_last_changed_value" expr) Q E s := get_dflt F X₀ I hD hD.lcv facts255.2.2.2.2.2.2.2.2.2.2.2.2.2.2.2.2.2.2.2.2.2.2.2.1 facts255.1 facts255.2.2.2.2.2.2.2.2.2.2.2.2.2.2.2.2.2.2.2.2.2.2.2.2.1 facts255.2.2.2.2.2.2.2.2.2.2.2.2.2.2.2.2.2.2.1 (by decide +kernel) rfl hv h

theorem meth_fn {name : Str} {f : Addr} {pl : Sem Bool} {Q : Value × List Value → Shared → Prop} (F : Fr h₀ L s.heap m) (X₀ : (hd.heap_39 w.params).In h₀) (I : InstAt s.heap x ox 255 (some (dictOf es n))) (hD : LoopD es S) (hg : plainGet (hd.heap_39 w.params) 255 name = true)
    (hf : findIn (hd.heap_39 w.params) (.ref 255) name = some (some (.ref f))) (ht : isFn (hd.heap_39 w.params) (.ref f) = true) (hy : name ∉ names11) (h : Q (.ref f, [.ref x]) s) : wpAny (model prog w) A (getMethod (.ref x) name pl) Q E s :=
  method_inst F X₀ I hg hf ht (by rw [getL_at hD.keys, hD.oth _ hy]) h
theorem set_any {name : Str} {v : Value} {Q : Unit → Shared → Prop} {S' : LS} (F : Fr h₀ L s.heap m) (X₀ : (hd.heap_39 w.params).In h₀) (N : News h₀ L s.heap news) (I : InstAt s.heap x ox 255 (some (dictOf es n))) (hx : ox.dict = some dx) (hD : LoopD es S)
    (U : UpdF dx (dictOf es n) news g) (hs : findIn (hd.heap_39 w.params) (.ref 255) "__setattr__" = some (some (.builtin "object.__setattr__"))) (hp : plainOver (hd.heap_39 w.params) 255 = true) (ht : takerIn (hd.heap_39 w.params) 255 name = some none) (hh : hasDictIn (hd.heap_39 w.params) 255 = true)
    (hS : ∀ hsh tk, LoopD (putL name hsh (.str name tk) v es) S')
    (h : ∀ es' n' h', LoopD es' S' → Fr h₀ L h' m → News h₀ L h' (g (dictOf es' n')) → Q () { s with heap := h', toks := s.toks + 2 }) :
    wpAny (model prog w) A (setAttr (.ref x) name v) Q E s :=
  set_dict F X₀ N I hx hs hp ht hh (by rw [getL_at hD.keys]; rfl) rfl (updF_upd U) (put_small hD _ _ _ _) fun h' F' N' => h _ _ h' (hS _ _) F' N'
theorem set_after {v : Value} {Q : Unit → Shared → Prop} (F : Fr h₀ L s.heap m) (X₀ : (hd.heap_39 w.params).In h₀) (N : News h₀ L s.heap news) (I : InstAt s.heap x ox 255 (some (dictOf es n))) (hx : ox.dict = some dx) (hD : LoopD es S) (U : UpdF dx (dictOf es n) news g)
    (h : ∀ es' n' h', LoopD es' { S with aft := v } → Fr h₀ L h' m → News h₀ L h' (g (dictOf es' n')) → Q () { s with heap := h', toks := s.toks + 2 }) :
    wpAny (model prog w) A (setAttr (.ref x) "_after" v) Q E s := set_any F X₀ N I hx hD U facts255.2.2.1 facts255.2.1 facts255.2.2.2.2.2.2.2.2.2.2.2.2.2.2.2.2.2.2.2.2.2.2.2.2.2.2.2.2.1 facts255.1 (fun _ _ => hD.put_after _ _ _) h
theorem set_len {k : Int} {t : Tok} {Q : Unit → Shared → Prop} (F : Fr h₀ L s.heap m) (X₀ : (hd.heap_39 w.params).In h₀) (N : News h₀ L s.heap news) (I : InstAt s.heap x ox 255 (some (dictOf es n))) (hx : ox.dict = some dx) (hD : LoopD es S) (U : UpdF dx (dictOf es n) news g)
    (h : ∀ es' n' h', LoopD es' { S with len := some k } → Fr h₀ L h' m → News h₀ L h' (g (dictOf es' n')) → Q () { s with heap := h', toks := s.toks + 2 }) :
    wpAny (model prog w) A (setAttr (.ref x) "_length" (.int k t)) Q E s := set_any F X₀ N I hx hD U facts255.2.2.1 facts255.2.1 facts255.2.2.2.2.2.2.2.2.2.2.2.2.2.2.2.2.2.2.2.2.2.2.2.2.2.2.2.2.2.1 facts255.1 (fun _ _ => hD.put_len _ _ _ _) h
theorem set_idx {k : Int} {t : Tok} {Q : Unit → Shared → Prop} (F : Fr h₀ L s.heap m) (X₀ : (hd.heap_39 w.params).In h₀) (N : News h₀ L s.heap news) (I : InstAt s.heap x ox 255 (some (dictOf es n))) (hx : ox.dict = some dx) (hD : LoopD es S) (U : UpdF dx (dictOf es n) news g)
    (h : ∀ es' n' h', LoopD es' { S with idx := k } → Fr h₀ L h' m → News h₀ L h' (g (dictOf es' n')) → Q () { s with heap := h', toks := s.toks + 2 }) :
    wpAny (model prog w) A (setAttr (.ref x) "index0" (.int k t)) Q E s := set_any F X₀ N I hx hD U facts255.2.2.1 facts255.2.1 facts255.2.2.2.2.2.2.2.2.2.2.2.2.2.2.2.2.2.2.2.2.2.2.2.2.2.2.2.2.2.2.1 facts255.1 (fun _ _ => hD.put_idx _ _ _ _) h
theorem set_bef {v : Value} {Q : Unit → Shared → Prop} (F : Fr h₀ L s.heap m) (X₀ : (hd.heap_39 w.params).In h₀) (N : News h₀ L s.heap news) (I : InstAt s.heap x ox 255 (some (dictOf es n))) (hx : ox.dict = some dx) (hD : LoopD es S) (U : UpdF dx (dictOf es n) news g)
    (h : ∀ es' n' h', LoopD es' { S with bef := v } → Fr h₀ L h' m → News h₀ L h' (g (dictOf es' n')) → Q () { s with heap := h', toks := s.toks + 2 }) :
    wpAny (model prog w) A (setAttr (.ref x) "_before" v) Q E s := set_any F X₀ N I hx hD U facts255.2.2.1 facts255.2.1 facts255.2.2.2.2.2.2.2.2.2.2.2.2.2.2.2.2.2.2.2.2.2.2.2.2.2.2.2.2.2.2.2.1 facts255.1 (fun _ _ => hD.put_bef _ _ _) h
theorem set_cur {v : Value} {Q : Unit → Shared → Prop} (F : Fr h₀ L s.heap m) (X₀ : (hd.heap_39 w.params).In h₀) (N : News h₀ L s.heap news) (I : InstAt s.heap x ox 255 (some (dictOf es n))) (hx : ox.dict = some dx) (hD : LoopD es S) (U : UpdF dx (dictOf es n) news g)
    (h : ∀ es' n' h', LoopD es' { S with cur := v } → Fr h₀ L h' m → News h₀ L h' (g (dictOf es' n')) → Q () { s with heap := h', toks := s.toks + 2 }) :
    wpAny (model prog w) A (setAttr (.ref x) "_current" v) Q E s := set_any F X₀ N I hx hD U facts255.2.2.1 facts255.2.1 facts255.2.2.2.2.2.2.2.2.2.2.2.2.2.2.2.2.2.2.2.2.2.2.2.2.2.2.2.2.2.2.2.2.1 facts255.1 (fun _ _ => hD.put_cur _ _ _) h
theorem set_lcv {v : Value} {Q : Unit → Shared → Prop} (F : Fr h₀ L s.heap m) (X₀ : (hd.heap_39 w.params).In h₀) (N : News h₀ L s.heap news) (I : InstAt s.heap x ox 255 (some (dictOf es n))) (hx : ox.dict = some dx) (hD : LoopD es S) (U : UpdF dx (dictOf es n) news g)
    (h : ∀ es' n' h', LoopD es' { S with lcv := v } → Fr h₀ L h' m → News h₀ L h' (g (dictOf es' n')) → Q () { s with heap := h', toks := s.toks + 2 }) :
    wpAny (model prog w) A (setAttr (.ref x) "_last_changed_value" v) Q E s := set_any F X₀ N I hx hD U facts255.2.2.1 facts255.2.1 facts255.2.2.2.2.2.2.2.2.2.2.2.2.2.2.2.2.2.2.2.2.2.2.2.2.2.2.2.2.2.2.2.2.2.1 facts255.1 (fun _ _ => hD.put_lcv _ _ _) h
theorem set_itor {v : Value} {Q : Unit → Shared → Prop} (F : Fr h₀ L s.heap m) (X₀ : (hd.heap_39 w.params).In h₀) (N : News h₀ L s.heap news) (I : InstAt s.heap x ox 255 (some (dictOf es n))) (hx : ox.dict = some dx) (hD : LoopD es S) (U : UpdF dx (dictOf es n) news g)
    (h : ∀ es' n' h', LoopD es' { S with itor := v } → Fr h₀ L h' m → News h₀ L h' (g (dictOf es' n')) → Q () { s with heap := h', toks := s.toks + 2 }) :
    wpAny (model prog w) A (setAttr (.ref x) "_iterator" v) Q E s := set_any F X₀ N I hx hD U facts255.2.2.1 facts255.2.1 facts255.2.2.2.2.2.2.2.2.2.2.2.2.2.2.2.2.2.2.2.2.2.2.2.2.2.2.2.2.2.2.2.2.2.2 facts255.1 (fun _ _ => hD.put_itor _ _ _) h
end

section
variable {M : Model} {A : Around} {E : Value → Shared → Prop} {s : Shared} {Q : Value → Shared → Prop} {w : World} {h₀ : Heap} {L t : Addr} {ot : Obj} {m : Str → Option Value}
theorem isSame_right {x y : Addr} {ox oy : Obj} {R : Bool → Shared → Prop} (hxy : x ≠ y) (hx : s.heap.get? x = some ox) (hy : s.heap.get? y = some oy) (hnt : oy.cls ≠ .type "tuple")
    (h : R false s) : wpAny M A (isSame (.ref x) (.ref y)) R E s := by
  show wpAny M A (if (x == y) = true then pure true else _) R E s
  rw [if_neg (by simpa using hxy)]
  refine wpAny_bind (wpAny_load hx (wpAny_bind (wpAny_load hy ?_)))
  split
  · rename_i h1 _ _; exact absurd h1 hnt
  · exact wpAny_pure h
theorem missing_is : ∃ oc od dt sl, (hd.heap_39 w.params).lookup 92 = some ⟨.ref oc, od, dt, sl⟩ := ⟨_, _, _, _, by k_is⟩
theorem missing_at {h : Heap} (X : (hd.heap_39 w.params).In h) : ∃ o, h.get? 92 = some o ∧ o.cls ≠ .type "tuple" := by
  obtain ⟨oc, od, dt, sl, e⟩ := missing_is (w := w)
  exact ⟨_, X _ _ e, by intro q; cases q⟩
theorem is_missing (F : Fr h₀ L s.heap m) (X : (hd.heap_39 w.params).In h₀) (hn : t ≠ 92) (ht : h₀.get? t = some ot) (h : Q (.bool false) s) : wpAny M A (compareOp .Is (.ref t) (.ref 92)) Q E s := by
  obtain ⟨o, ho, hc⟩ := missing_at X
  show wpAny M A (do return .bool (← isSame (.ref t) (.ref 92))) Q E s
  exact wpAny_bind (isSame_right hn (F.keep _ _ ht) (F.keep _ _ ho) hc (wpAny_pure h))
theorem isnot_missing (F : Fr h₀ L s.heap m) (X : (hd.heap_39 w.params).In h₀) (hn : t ≠ 92) (ht : h₀.get? t = some ot) (h : Q (.bool true) s) : wpAny M A (compareOp .IsNot (.ref t) (.ref 92)) Q E s := by
  obtain ⟨o, ho, hc⟩ := missing_at X
  show wpAny M A (do return .bool (!(← isSame (.ref t) (.ref 92)))) Q E s
  exact wpAny_bind (isSame_right hn (F.keep _ _ ht) (F.keep _ _ ho) hc (wpAny_pure h))
end
end

/-! ## M6 -/
/-- what is known of the length -/
def LenOk (it l : Nat) (io lo : Obj) (S : LS) (n : Nat) : Prop := S.len = some (n : Int) ∨ (S.len = none ∧ ((∃ (its : List Value) (ep : Nat), S.iterable = .ref l ∧ (lo = listOf its.toArray ep ∨ lo = tupOf its.toArray ep) ∧ its.length = n) ∨ (S.iterable = .ref it ∧ io.cls = .type "list_reverseiterator")))
theorem LenOk.turn {it l : Nat} {io io' lo : Obj} {S S' : LS} {n : Nat} (h : LenOk it l io lo S n) (hc : io'.cls = io.cls) (h1 : S'.len = S.len) (h2 : S'.iterable = S.iterable) : LenOk it l io' lo S' n := by
  unfold LenOk at h ⊢
  rw [hc, h1, h2]; exact h
/-- a LoopContext's parts: its dict `od`, its iterator `io` at `it`, over `lo` at `l`; `P` the items it has yet to give -/
structure LoopSt (it l : Nat) (od io lo : Obj) (S : LS) (P : List Value) (n : Nat) : Prop where
  dict : ∃ es n, od = dictOf es n ∧ LoopD es S
  itor : S.itor = .ref it
  pend : ∃ us, ItOf l lo io us ∧ ((S.aft = .ref 92 ∧ P = us) ∨ (∃ t : Nat, S.aft = .ref t ∧ t ≠ 92 ∧ P = S.aft :: us))
  len : LenOk it l io lo S n
  cnt : (P.length : Int) + S.idx + 1 = n
/-- the items stand in the heap `hb` -/
def ItemsIn (hb : Heap) (P : List Value) : Prop := ∀ v ∈ P, ∃ (t : Nat) (ot : Obj), v = .ref t ∧ t ≠ 92 ∧ hb.get? t = some ot ∧ ∀ es n, ot.data ≠ .dict es n
theorem ItemsIn.mono {h h' : Heap} {P : List Value} (x : ItemsIn h P) (k : ∀ b o, h.get? b = some o → h'.get? b = some o) : ItemsIn h' P := fun v hv => let ⟨t, ot, e, n, q, z⟩ := x v hv; ⟨t, ot, e, n, k _ _ q, z⟩
section
local macro_rules | `(tactic| k_room) => `(tactic| ((try simp only [depth_under_make, depth_under_kw, depth_in1, depth_deeper, depth_caller, depth_mark]); (try dsimp only [ktrTop, Around.mark, Around.deeper, Around.in1]); (simp only [recursionLimit] at *); omega))
local macro_rules | `(tactic| k_units) => `(tactic| ((have hcL9 := cLine_is); (try simp only [units_in1, units_deeper, Around.mark_units, units_caller]); (try dsimp only [ktrTop]); (simp only [cLine] at *); omega))
local macro_rules | `(tactic| k_all) => `(tactic| assumption)
local macro_rules | `(tactic| walk_at "getAttr ref") => `(tactic| (k_here; k_dflt (first
  | ((with_reducible show wpAny _ _ (getAttr (Value.ref _) (PySem.Str.ofString "index0") _) _ _ _); (first | with_reducible refine' get_index0 ?F ?X ?I ?D ?_ | refine' get_index0 ?F ?X ?I ?D ?_); (case F => k_asm); (case X => k_asm); (case I => k_inst); (case D => k_asm); k_whole; intro t'; (try dsimp only))
  | ((with_reducible show wpAny _ _ (getAttr (Value.ref _) (PySem.Str.ofString "_length") _) _ _ _); (first | with_reducible refine' get_len ?F ?X ?I ?D ?_ | refine' get_len ?F ?X ?I ?D ?_); (case F => k_asm); (case X => k_asm); (case I => k_inst); (case D => k_asm); k_whole; intro t'; (try dsimp only [lenV]))
  | ((with_reducible show wpAny _ _ (getAttr (Value.ref _) (PySem.Str.ofString "_after") _) _ _ _); (first | with_reducible refine' get_aft ?F ?X ?I ?D ?v ?_ | refine' get_aft ?F ?X ?I ?D ?v ?_); (case F => k_asm); (case X => k_asm); (case I => k_inst); (case D => k_asm); (case v => rfl); k_whole; (try dsimp only))
  | ((with_reducible show wpAny _ _ (getAttr (Value.ref _) (PySem.Str.ofString "_iterator") _) _ _ _); (first | with_reducible refine' get_itor ?F ?X ?I ?D ?v ?_ | refine' get_itor ?F ?X ?I ?D ?v ?_); (case F => k_asm); (case X => k_asm); (case I => k_inst); (case D => k_asm); (case v => rfl); k_whole; (try dsimp only))
  | ((with_reducible show wpAny _ _ (getAttr (Value.ref _) (PySem.Str.ofString "_iterable") _) _ _ _); (first | with_reducible refine' get_iterable ?F ?X ?I ?D ?v ?_ | refine' get_iterable ?F ?X ?I ?D ?v ?_); (case F => k_asm); (case X => k_asm); (case I => k_inst); (case D => k_asm); (case v => rfl); k_whole; (try dsimp only))
  | ((with_reducible show wpAny _ _ (getAttr (Value.ref _) (PySem.Str.ofString "_undefined") _) _ _ _); (first | with_reducible refine' get_und ?F ?X ?I ?D ?_ | refine' get_und ?F ?X ?I ?D ?_); (case F => k_asm); (case X => k_asm); (case I => k_inst); (case D => k_asm); k_whole)
  | ((with_reducible show wpAny _ _ (getAttr (Value.ref _) (PySem.Str.ofString "_recurse") _) _ _ _); (first | with_reducible refine' get_again ?F ?X ?I ?D ?v ?_ | refine' get_again ?F ?X ?I ?D ?v ?_); (case F => k_asm); (case X => k_asm); (case I => k_inst); (case D => k_asm); (case v => rfl); k_whole; (try dsimp only))
  | ((with_reducible show wpAny _ _ (getAttr (Value.ref _) (PySem.Str.ofString "depth0") _) _ _ _); (first | with_reducible refine' get_depth0 ?F ?X ?I ?D ?_ | refine' get_depth0 ?F ?X ?I ?D ?_); (case F => k_asm); (case X => k_asm); (case I => k_inst); (case D => k_asm); k_whole; intro t'; (try dsimp only))
  | ((with_reducible show wpAny _ _ (getAttr (Value.ref _) (PySem.Str.ofString "_current") _) _ _ _); (first | with_reducible refine' get_cur ?F ?X ?I ?D ?v ?_ | refine' get_cur ?F ?X ?I ?D ?v ?_); (case F => k_asm); (case X => k_asm); (case I => k_inst); (case D => k_asm); (case v => rfl); k_whole; (try dsimp only))
  | ((with_reducible show wpAny _ _ (getAttr (Value.ref _) (PySem.Str.ofString "_before") _) _ _ _); (first | with_reducible refine' get_bef ?F ?X ?I ?D ?v ?_ | refine' get_bef ?F ?X ?I ?D ?v ?_); (case F => k_asm); (case X => k_asm); (case I => k_inst); (case D => k_asm); (case v => rfl); k_whole; (try dsimp only))
  | ((with_reducible show wpAny _ _ (getAttr (Value.ref _) (PySem.Str.ofString "_last_changed_value") _) _ _ _); (first | with_reducible refine' get_lcv ?F ?X ?I ?D ?v ?_ | refine' get_lcv ?F ?X ?I ?D ?v ?_); (case F => k_asm); (case X => k_asm); (case I => k_inst); (case D => k_asm); (case v => rfl); k_whole; (try dsimp only)))))
local macro_rules | `(tactic| walk_at "setAttr ref") => `(tactic| (k_here; k_dflt (first
  | ((with_reducible show wpAny _ _ (setAttr (Value.ref _) (PySem.Str.ofString "_after") _) _ _ _); (first | with_reducible refine' set_after ?F ?X ?N ?I ?x ?D ?U ?_ | refine' set_after ?F ?X ?N ?I ?x ?D ?U ?_); (case F => k_asm); (case X => k_asm); (case N => k_asm); (case I => k_inst); (case x => rfl); (case D => k_asm); (case U => k_updF); k_whole; intro es' n' h' hD' F' N'; (try dsimp only at N' hD'); (try k_sweep))
  | ((with_reducible show wpAny _ _ (setAttr (Value.ref _) (PySem.Str.ofString "_length") _) _ _ _); (first | with_reducible refine' set_len ?F ?X ?N ?I ?x ?D ?U ?_ | refine' set_len ?F ?X ?N ?I ?x ?D ?U ?_); (case F => k_asm); (case X => k_asm); (case N => k_asm); (case I => k_inst); (case x => rfl); (case D => k_asm); (case U => k_updF); k_whole; intro es' n' h' hD' F' N'; (try dsimp only at N' hD'); (try k_sweep))
  | ((with_reducible show wpAny _ _ (setAttr (Value.ref _) (PySem.Str.ofString "index0") _) _ _ _); (first | with_reducible refine' set_idx ?F ?X ?N ?I ?x ?D ?U ?_ | refine' set_idx ?F ?X ?N ?I ?x ?D ?U ?_); (case F => k_asm); (case X => k_asm); (case N => k_asm); (case I => k_inst); (case x => rfl); (case D => k_asm); (case U => k_updF); k_whole; intro es' n' h' hD' F' N'; (try dsimp only at N' hD'); (try k_sweep))
  | ((with_reducible show wpAny _ _ (setAttr (Value.ref _) (PySem.Str.ofString "_before") _) _ _ _); (first | with_reducible refine' set_bef ?F ?X ?N ?I ?x ?D ?U ?_ | refine' set_bef ?F ?X ?N ?I ?x ?D ?U ?_); (case F => k_asm); (case X => k_asm); (case N => k_asm); (case I => k_inst); (case x => rfl); (case D => k_asm); (case U => k_updF); k_whole; intro es' n' h' hD' F' N'; (try dsimp only at N' hD'); (try k_sweep))
  | ((with_reducible show wpAny _ _ (setAttr (Value.ref _) (PySem.Str.ofString "_current") _) _ _ _); (first | with_reducible refine' set_cur ?F ?X ?N ?I ?x ?D ?U ?_ | refine' set_cur ?F ?X ?N ?I ?x ?D ?U ?_); (case F => k_asm); (case X => k_asm); (case N => k_asm); (case I => k_inst); (case x => rfl); (case D => k_asm); (case U => k_updF); k_whole; intro es' n' h' hD' F' N'; (try dsimp only at N' hD'); (try k_sweep))
  | ((with_reducible show wpAny _ _ (setAttr (Value.ref _) (PySem.Str.ofString "_last_changed_value") _) _ _ _); (first | with_reducible refine' set_lcv ?F ?X ?N ?I ?x ?D ?U ?_ | refine' set_lcv ?F ?X ?N ?I ?x ?D ?U ?_); (case F => k_asm); (case X => k_asm); (case N => k_asm); (case I => k_inst); (case x => rfl); (case D => k_asm); (case U => k_updF); k_whole; intro es' n' h' hD' F' N'; (try dsimp only at N' hD'); (try k_sweep))
  | ((with_reducible show wpAny _ _ (setAttr (Value.ref _) (PySem.Str.ofString "_iterator") _) _ _ _); (first | with_reducible refine' set_itor ?F ?X ?N ?I ?x ?D ?U ?_ | refine' set_itor ?F ?X ?N ?I ?x ?D ?U ?_); (case F => k_asm); (case X => k_asm); (case N => k_asm); (case I => k_inst); (case x => rfl); (case D => k_asm); (case U => k_updF); k_whole; intro es' n' h' hD' F' N'; (try dsimp only at N' hD'); (try k_sweep)))))
local macro_rules | `(tactic| walk_at "compareOp Is ref ref") => `(tactic| (k_here; (with_reducible show wpAny _ _ (compareOp CmpOp.Is (Value.ref _) (Value.ref 92)) _ _ _); k_dflt ((first | with_reducible refine' is_missing ?F ?X ?n ?t ?_ | refine' is_missing ?F ?X ?n ?t ?_); (case F => k_asm); (case X => k_asm); (case n => k_asm); (case t => (first | k_asm | exact KtsTurn.other (by assumption) _ _ (by assumption) (by assumption) | exact Fr.keep (by k_asm) _ _ (by k_asm) | exact Fr.keep (by k_asm) _ _ (KtsTurn.other (by assumption) _ _ (by assumption) (by assumption)) | exact Fr.keep (by k_asm) _ _ (Fr.keep (by k_asm) _ _ (by k_asm)))); k_whole)))
local macro_rules | `(tactic| walk_at "compareOp IsNot ref ref") => `(tactic| (k_here; (with_reducible show wpAny _ _ (compareOp CmpOp.IsNot (Value.ref _) (Value.ref 92)) _ _ _); k_dflt ((first | with_reducible refine' isnot_missing ?F ?X ?n ?t ?_ | refine' isnot_missing ?F ?X ?n ?t ?_); (case F => k_asm); (case X => k_asm); (case n => k_asm); (case t => (first | k_asm | exact KtsTurn.other (by assumption) _ _ (by assumption) (by assumption) | exact Fr.keep (by k_asm) _ _ (by k_asm) | exact Fr.keep (by k_asm) _ _ (KtsTurn.other (by assumption) _ _ (by assumption) (by assumption)) | exact Fr.keep (by k_asm) _ _ (Fr.keep (by k_asm) _ _ (by k_asm)))); k_whole)))
local macro_rules | `(tactic| walk_at "call builtin:next") => `(tactic| (k_here; (with_reducible show wpAny _ _ (call (Value.builtin "next") [Value.ref _, _]) _ _ _); k_dflt ((first | with_reducible refine' k_next2 ?hh ?F ?N ?U ?i ?l ?_ | refine' k_next2 ?hh ?F ?N ?U ?i ?l ?_); (case hh => rfl); (case F => k_asm); (case N => k_asm); (case U => k_updF); (case i => k_asm); (case l => (first | k_asm | exact Fr.keep (by k_asm) _ _ (by k_asm) | exact Fr.keep (by k_asm) _ _ (Fr.keep (by k_asm) _ _ (by k_asm)))); k_whole; intro h' io' hi' hc' F' N'; (try dsimp only [List.tail_cons, List.tail_nil, List.headD_cons, List.headD_nil] at N' hi' ⊢); (try k_sweep))))
local macro_rules | `(tactic| walk_at "getMethod ref") => `(tactic| (k_here; k_dflt ((first | with_reducible refine' meth_fn ?F ?X ?I ?D ?g ?f ?t ?y ?_ | refine' meth_fn ?F ?X ?I ?D ?g ?f ?t ?y ?_); (case F => k_asm); (case X => k_asm); (case I => k_inst); (case D => k_asm); (case g => k_is); (case f => k_is); (case t => k_is); (case y => decide +kernel); k_whole)))
local macro_rules | `(tactic| walk_at "call builtin:next") => `(tactic| (k_here; (with_reducible show wpAny _ _ (call (Value.builtin "next") [Value.ref _]) _ _ _); k_dflt (first
  | ((first | with_reducible refine' k_next1 ?F ?N ?U ?i ?u ?l ?_ | refine' k_next1 ?F ?N ?U ?i ?u ?l ?_); (case F => k_asm); (case N => k_asm); (case U => k_updF); (case i => k_asm); (case u => exact rfl); (case l => (first | k_asm | exact Fr.keep (by k_asm) _ _ (by k_asm) | exact Fr.keep (by k_asm) _ _ (Fr.keep (by k_asm) _ _ (by k_asm)))); k_whole; intro h' io' hi' hc' F' N'; (try dsimp only at N'); (try k_sweep))
  | ((first | with_reducible refine' k_next1_end ?hh ?F ?N ?U ?i ?u ?l ?_ | refine' k_next1_end ?hh ?F ?N ?U ?i ?u ?l ?_); (case hh => rfl); (case F => k_asm); (case N => k_asm); (case U => k_updF); (case i => k_asm); (case u => exact rfl); (case l => (first | k_asm | exact Fr.keep (by k_asm) _ _ (by k_asm) | exact Fr.keep (by k_asm) _ _ (Fr.keep (by k_asm) _ _ (by k_asm)))); k_whole; intro h₁ h' e' io' hi' F' N' M'; (try dsimp only at N')))))
local macro_rules | `(tactic| walk_at "call builtin:iter") => `(tactic| (k_here; (with_reducible show wpAny _ _ (call (Value.builtin "iter") [Value.ref _]) _ _ _); k_dflt ((first | with_reducible refine' k_iter_list ?F ?N ?l ?e ?_ | refine' k_iter_list ?F ?N ?l ?e ?_); (case F => k_asm); (case N => k_asm); (case l => (first | exact Fr.keep (by k_asm) _ _ (by k_asm) | exact Fr.keep (by k_asm) _ _ (Fr.keep (by k_asm) _ _ (by k_asm)) | exact Fr.keep (by k_asm) _ _ (KtsTurn.other (by assumption) _ _ (by assumption) (by assumption)) | ((first | with_reducible refine' News.get ?N ?m | refine' News.get ?N ?m); (case N => k_asm); (case m => k_mem)))); (case e => exact rfl)); k_whole; intro I' h' io' hi' F' N' l1; (try k_lt l1); (try k_sweep)))
theorem reset_M6 : True := by
  w_top off
  trivial
section
variable {w : World} {p : Program} {loose : List Str} {mean : ExcName → Option Value} {mg mb : Str → Option Value}
theorem peek_spec {dp un : Nat} {gd : Option (List Code)} {cn : Str} {cs : Scope} {a : Addr} {ccd : Value} {cl : List (Str × Addr)} {outer : List Env} {A₀ : Around} {base h₀ : Heap} {L : Addr} {m : Str → Option Value} {s : Shared} {Q E : Value → Shared → Prop}
   {x dx it l : Nat} {od io lo : Obj} {S : LS} {P : List Value} {k : Nat}
   (B : Below A₀ base outer h₀) (F : Fr h₀ L s.heap m) (X : (hd.heap_39 w.params).In h₀) (T : Top p loose mean mg mb h₀) (hk : cs.kind = .function) (hdp : dp + 50 < recursionLimit) (hun : un + 100 < cLine)
   (N : News h₀ L s.heap [(x, instObj 255 dx), (dx, od), (it, io)]) (hS : LoopSt it l od io lo S P k) (hits : ItemsIn h₀ P) (hl : s.heap.get? l = some lo) (h1 : x ≠ dx) (h2 : x ≠ it) (h3 : dx ≠ it) (hlx : l ≠ x) (hld : l ≠ dx) (hli : l ≠ it)
   (ret : ∀ od' io' h' tk', LoopSt it l od' io' lo { S with aft := P.headD (.ref 92) } P k → Fr h₀ L h' m → News h₀ L h' [(x, instObj 255 dx), (dx, od'), (it, io')] → Keeps [x, dx, it] s.heap h' → Q (P.headD (.ref 92)) { s with heap := h', toks := tk' }) :
   wpAny (model PySem.Challenge.rw_bb0046_01.row.prog w) (ktrTop dp un gd cn cs L a ccd cl outer) (call (.ref 186) [.ref x]) Q E s := by
  obtain ⟨⟨es, n, rfl, hD⟩, hit, ⟨us, hi, hp⟩, hlen, hcnt⟩ := hS
  obtain ⟨iterable, itor, again, depth, idx, len, aft, cur, bef, lcv⟩ := S
  dsimp only at hit hp hD ret hcnt
  subst hit
  refine wpAny_call ?_
  refine' code_defG ?k1 ?k2 ?k3 ?k4 ?k5 ?kA ?kF ?kK ?k6 ?k7 ?k8 ?k9 ?kB ?_ ?c2 ?c3 ?c4 ?c5
  case kA => exact rfl
  case kF => exact rfl
  case kK => assumption
  case k1 => k_asm
  case k2 => k_asm
  case k3 => k_asm
  case k4 => exact N
  case k5 => k_asm
  case k6 => k_is
  case k7 => k_is
  case k8 => k_room
  case k9 => first | exact BindsTo.of_eq rfl | exact binds_K (by k_in) rfl (by k_is) rfl rfl rfl
  case c5 => decide
  case kB => exact locs rfl
  case c2 => exact rfl
  case c3 => exact rfl
  case c4 => exact rfl
  intro g' L' h' FG' F' N' B' X' T' G'
  try dsimp only
  try k_fold
  have hl' : g'.get? l = some lo := G' _ _ hl (by simp only [List.map_cons, List.map_nil, List.mem_cons, List.not_mem_nil, or_false, not_or]; exact ⟨hlx, hld, hli⟩)
  have hits' := hits.mono FG'.keep
  rcases hp with ⟨rfl, rfl⟩ | ⟨t, rfl, ht, rfl⟩
  · cases P with
    | nil =>
      k_steps
      (rename News h₀ L _ _ => kN)
      (rename LoopD _ _ => kD)
      (rename ItOf _ _ _ _ => kI)
      (rename Obj.cls _ = Obj.cls _ => kC)
      exact ret _ _ _ _ ⟨⟨_, _, rfl, kD⟩, rfl, ⟨_, kI, .inl ⟨rfl, rfl⟩⟩, hlen.turn kC rfl rfl, hcnt⟩ (by k_asm) kN (Keeps.of_sub G' (by k_asm))
    | cons v vs =>
      obtain ⟨t, ot, rfl, ht, hot, hod⟩ := hits' v (.head _)
      k_steps
      (rename News h₀ L _ _ => kN)
      (rename LoopD _ _ => kD)
      (rename ItOf _ _ _ _ => kI)
      (rename Obj.cls _ = Obj.cls _ => kC)
      exact ret _ _ _ _ ⟨⟨_, _, rfl, kD⟩, rfl, ⟨_, kI, .inr ⟨t, rfl, ht, rfl⟩⟩, hlen.turn kC rfl rfl, hcnt⟩ (by k_asm) kN (Keeps.of_sub G' (by k_asm))
  · obtain ⟨_, ot, q, _, hot, hod⟩ := hits' _ (.head _)
    cases q
    k_steps
    (rename News h₀ L _ _ => kN)
    exact ret _ _ _ _ ⟨⟨_, _, rfl, hD⟩, rfl, ⟨_, hi, .inr ⟨t, rfl, ht, rfl⟩⟩, hlen.turn rfl rfl rfl, hcnt⟩ (by k_asm) kN (Keeps.of_sub G' (by k_asm))
end

/-! ## M7 -/
theorem reset_M7 : True := by
  w_top off
  trivial
theorem fresh_of {h g h' : Heap} {L q : Addr} {o : Obj} {as : List Addr} {news : List (Addr × Obj)} (G : GSub h g as) (N : News g L h' news) (hm : (q, o) ∈ news) (hq : q ∉ as) : h.get? q = none := by
  cases e : h.get? q with
  | none => rfl
  | some o' =>
    have := (N _ hm).2.2
    rw [G _ _ e hq] at this; cases this
section
variable {w : World} {p : Program} {loose : List Str} {mean : ExcName → Option Value} {mg mb : Str → Option Value}
theorem step_spec {dp un : Nat} {gd : Option (List Code)} {cn : Str} {cs : Scope} {a : Addr} {ccd : Value} {cl : List (Str × Addr)} {outer : List Env} {A₀ : Around} {base h₀ : Heap} {L : Addr} {m : Str → Option Value} {s : Shared} {Q E : Value → Shared → Prop}
   {x dx it l : Nat} {od io lo : Obj} {S : LS} {v : Value} {vs : List Value} {k : Nat}
   (B : Below A₀ base outer h₀) (F : Fr h₀ L s.heap m) (X : (hd.heap_39 w.params).In h₀) (T : Top p loose mean mg mb h₀) (hk : cs.kind = .function) (hdp : dp + 50 < recursionLimit) (hun : un + 100 < cLine)
   (N : News h₀ L s.heap [(x, instObj 255 dx), (dx, od), (it, io)]) (hS : LoopSt it l od io lo S (v :: vs) k) (hits : ItemsIn h₀ (v :: vs)) (hc : ∃ c, S.cur = .ref c) (hl : s.heap.get? l = some lo) (h1 : x ≠ dx) (h2 : x ≠ it) (h3 : dx ≠ it) (hlx : l ≠ x) (hld : l ≠ dx) (hli : l ≠ it)
   (ret : ∀ (q : Nat) od' io' h' tk', LoopSt it l od' io' lo { S with aft := .ref 92, idx := S.idx + 1, bef := S.cur, cur := v } vs k → s.heap.get? q = none → Fr h₀ L h' m → News h₀ L h' [(q, tupOf #[v, .ref x] 0), (x, instObj 255 dx), (dx, od'), (it, io')] → Keeps [x, dx, it] s.heap h' → Q (.ref q) { s with heap := h', toks := tk' }) :
   wpAny (model PySem.Challenge.rw_bb0046_01.row.prog w) (ktrTop dp un gd cn cs L a ccd cl outer) (call (.ref 266) [.ref x]) Q E s := by
  obtain ⟨⟨es, n, rfl, hD⟩, hit, ⟨us, hi, hp⟩, hlen, hcnt⟩ := hS
  obtain ⟨iterable, itor, again, depth, idx, len, aft, cur, bef, lcv⟩ := S
  dsimp only at hit hp hD ret hc hcnt
  subst hit
  obtain ⟨c, rfl⟩ := hc
  refine wpAny_call ?_
  refine' code_defG ?k1 ?k2 ?k3 ?k4 ?k5 ?kA ?kF ?kK ?k6 ?k7 ?k8 ?k9 ?kB ?_ ?c2 ?c3 ?c4 ?c5
  case kA => exact rfl
  case kF => exact rfl
  case kK => assumption
  case k1 => k_asm
  case k2 => k_asm
  case k3 => k_asm
  case k4 => exact N
  case k5 => k_asm
  case k6 => k_is
  case k7 => k_is
  case k8 => k_room
  case k9 => first | exact BindsTo.of_eq rfl | exact binds_K (by k_in) rfl (by k_is) rfl rfl rfl
  case c5 => decide
  case kB => exact locs rfl
  case c2 => exact rfl
  case c3 => exact rfl
  case c4 => exact rfl
  intro g' L' h' FG' F' N' B' X' T' G'
  try dsimp only
  try k_fold
  have hl' : g'.get? l = some lo := G' _ _ hl (by simp only [List.map_cons, List.map_nil, List.mem_cons, List.not_mem_nil, or_false, not_or]; exact ⟨hlx, hld, hli⟩)
  obtain ⟨t, ot, rfl, ht, hot, hod⟩ := (hits.mono FG'.keep) _ (.head _)
  rcases hp with ⟨rfl, hp⟩ | ⟨t', rfl, ht', hp⟩
  · subst hp
    k_steps
    (rename ItOf _ _ _ _ => kI)
    (rename Obj.cls _ = Obj.cls _ => kC)
    (rename News g' _ _ _ => kG)
    (rename News h₀ L _ _ => kN)
    (rename LoopD _ _ => kD)
    (rename _ ∧ _ => kL)
    refine ret _ _ _ _ _ ⟨⟨_, _, rfl, kD⟩, rfl, ⟨_, kI, .inl ⟨rfl, rfl⟩⟩, hlen.turn kC rfl rfl, (by rw [List.length_cons] at hcnt; dsimp only; omega)⟩ (fresh_of G' kG (.head _) ?_) (by k_asm) kN (Keeps.of_sub G' (by k_asm))
    simp only [List.map_cons, List.map_nil, List.mem_cons, List.not_mem_nil, or_false, not_or]
    exact ⟨Nat.ne_of_gt kL.1, Nat.ne_of_gt kL.2.1, Nat.ne_of_gt kL.2.2⟩
  · cases hp
    k_steps
    (rename News g' _ _ _ => kG)
    (rename News h₀ L _ _ => kN)
    (rename LoopD _ _ => kD)
    (rename _ ∧ _ => kL)
    refine ret _ _ _ _ _ ⟨⟨_, _, rfl, kD⟩, rfl, ⟨_, hi, .inl ⟨rfl, rfl⟩⟩, hlen.turn rfl rfl rfl, (by rw [List.length_cons] at hcnt; dsimp only; omega)⟩ (fresh_of G' kG (.head _) ?_) (by k_asm) kN (Keeps.of_sub G' (by k_asm))
    simp only [List.map_cons, List.map_nil, List.mem_cons, List.not_mem_nil, or_false, not_or]
    exact ⟨Nat.ne_of_gt kL.1, Nat.ne_of_gt kL.2.1, Nat.ne_of_gt kL.2.2⟩
end

/-! ## MS -/
section
open PySem.Spec
/-- what is known of the ground a frame stands on -/
structure Gr (w : World) (p : Program) (loose : List Str) (mean : ExcName → Option Value) (mg mb : Str → Option Value) (A₀ : Around) (base : Heap) (outer : List Env) (h₀ : Heap) : Prop where
  B : Below A₀ base outer h₀
  X : (hd.heap_39 w.params).In h₀
  T : Top p loose mean mg mb h₀
  XB : (hd.heap_39 w.params).In base
  TB : Top p loose mean mg mb base
  D : KtsDicts (outer.filterMap (·.frame)) h₀

abbrev fsOf (outer : List Env) : List Addr := outer.filterMap (·.frame)
/-- every object that stood in `h` stands in `h'` as it was, but those at `as` and the frames -/
def KeepsF (as fs : List Addr) (h h' : Heap) : Prop := ∀ b o, h.get? b = some o → b ∉ as → b ∉ fs → h'.get? b = some o

section
variable {w : World} {p : Program} {loose : List Str} {mean : ExcName → Option Value} {mg mb : Str → Option Value} {A₀ : Around} {base h₀ g g' h h' : Heap} {outer : List Env} {L L' : Addr} {m m' : Str → Option Value} {fs : List Addr} {news : List (Addr × Obj)} {as : List Addr}
/-- the ground behind a call, out of the ground that the callee left -/
theorem back_ground (Γ : Gr w p loose mean mg mb A₀ base outer h₀) (F : Fr h₀ L h m) (st : h₀.StaysIn g) (hn : g.Ns L m) (hfs : ∀ b ∈ fs, b = L ∨ b ∈ fsOf outer)
    (K : KtsTurn fs g g') (F' : Fr g' L' h' m') (N' : News g' L' h' news) :
    ∃ h₁, KtsTurn (fsOf outer) h₀ h₁ ∧ Fr h₁ L h' m ∧ News h₁ L h' news ∧ Gr w p loose mean mg mb A₀ base outer h₁ := by
  obtain ⟨oL, es, ep, hL, hLd, hLk, hLf⟩ := hn
  have no : h₀.get? L = none := kts_self F
  have up : ∀ {b o}, h₀.get? b = some o → ∃ sl, h'.get? b = some { o with slots := sl } := fun e => by
    obtain ⟨sl, q⟩ := K.up (st _ _ e)
    exact ⟨sl, F'.keep _ _ q⟩
  have stay : ∀ b o, h₀.get? b = some o → b ∉ fsOf outer → h'.get? b = some o := fun b o e n => F'.keep b o (K.other b o (st b o e) fun q => by
    rcases hfs b q with z | z
    · rw [z, no] at e; cases e
    · exact n z)
  obtain ⟨T₁, S₁⟩ := kts_turn_at (h := h') (fs := fsOf outer) (g := h₀) (fun b hb => let ⟨_, o, ho, _⟩ := Γ.B.frames.mem hb; ⟨o, ho⟩) stay fun b o e _ => up e
  obtain ⟨sl, hs⟩ := K.up hL
  have B₁ : Below A₀ base outer (ktsHeap h' (fsOf outer) h₀) := by
    refine ⟨Γ.B.stack, fun b o e => T₁.other b o (Γ.B.stays b o e) fun hm => ?_, Γ.B.frames.of_keeps fun b o e _ => ?_⟩
    · rw [(Γ.B.frames.mem hm).1] at e; cases e
    · obtain ⟨sl', q⟩ := T₁.up e
      exact ⟨_, q, rfl⟩
  refine ⟨_, T₁, ⟨⟨_, es, ep, F'.keep _ _ hs, hLd, hLk, hLf⟩, S₁, by rw [T₁.size]; exact F.above⟩, fun q hq => ⟨(N' q hq).1, fun e => ?_, T₁.none_ _ ?_⟩, B₁, Γ.XB.keeps B₁.stays, Γ.TB.keeps B₁.stays, Γ.XB, Γ.TB, Γ.D.turn T₁⟩
  · have z := (N' q hq).2.2; rw [e, hs] at z; cases z
  · cases e : h₀.get? q.1 with
    | none => rfl
    | some o =>
      obtain ⟨sl', z⟩ := K.up (st _ _ e)
      rw [(N' q hq).2.2] at z; cases z
theorem keepsF_of (G : GSub h g as) (K : KtsTurn fs g g') (F : Fr g' L' h' m') : KeepsF as fs h h' := fun b o e n n' => F.keep b o (K.other b o (G b o e n) n')
end

section
variable {prog : Program} {w : World} {p : Program} {loose : List Str} {mean : ExcName → Option Value} {mg mb : Str → Option Value} {A₀ A : Around} {s : Shared} {base h₀ : Heap} {outer : List Env} {env : Env} {L : Addr} {m : Str → Option Value} {news : List (Addr × Obj)}
    {R : Result → Shared → Prop} {name qual : Str} {params : Arguments} {body : List Stmt} {scope : Scope} {dV kV doc pm cdv ct oc : Value} {an od : Option Addr} {osl : Array (Option Value)} {f : Addr} {args : Args} {binds : List (Str × Value)}
theorem enterS (Γ : Gr w p loose mean mg mb A₀ base outer h₀) (F : Fr h₀ L s.heap m) (N : News h₀ L s.heap news) (hA : A.frames = some (env :: outer)) (hf : env.frame = some L) (hke : env.scope.kind = .function)
    (ho : (hd.heap_39 w.params).lookup f = some ⟨oc, od, .func (fnOf name qual params body scope dV kV doc pm an cdv ct), osl⟩) (hcd : codeIn (hd.heap_39 w.params) cdv qual = true) (hroom : A.depth < recursionLimit)
    (hbind : BindsTo s (fnOf name qual params body scope dV kV doc pm an cdv ct) args binds) (hloc : ∀ y ∈ binds, scope.names.lookup y.1 = some .local)
    (h : ∀ g L' h₁, Fr h₀ L g m → Fr g L' h₁ (fun y => binds.reverse.lookup y) → News g L' h₁ news → Gr w p loose mean mg mb A base (env :: outer) g → GSub s.heap g (news.map (·.1)) →
      wpAny (model prog w) (A.deeper (envOf qual scope L' f cdv)) (execs body (envOf qual scope L' f cdv))
        (fun fl s' => LeaveS (fsOf (env :: outer)) A₀ base outer (hd.heap_39 w.params) p loose mean mg mb h₀ h₀ L m g R (match fl with | .ret v => v | _ => .none) s')
        (fun e s' => wpAny (model prog w) (A.deeper (envOf qual scope L' f cdv)) (leaving (envOf qual scope L' f cdv) e) (fun _ s'' => R (.error e) s'') (fun e' s'' => R (.error e') s'') s')
        { s with heap := h₁, toks := s.toks + binds.length })
    (hco : scope.isCoroutine = false) (hgen : scope.isGenerator = false) (hk : scope.kind = .function) (hcell : ∀ x ∈ scope.names, x.2 ≠ .cell) : codeAny (model prog w) A (.call (.ref f) args) R s := by
  obtain ⟨FG, BG, st, lv⟩ := groundX (R := R) Γ.B F N hA hf hke
  have X := Γ.X.keeps F.keep
  have hfs : fsOf (env :: outer) = L :: fsOf outer := by show List.filterMap _ _ = _; rw [List.filterMap_cons, hf]
  have DG : KtsDicts (fsOf (env :: outer)) (hideAll s.heap (news.map (·.1))) := fun b hb => by
    rw [hfs] at hb
    rcases List.mem_cons.mp hb with rfl | hb
    · obtain ⟨o, es, ep, a, b, _⟩ := FG.ns; exact ⟨o, es, ep, a, b⟩
    · obtain ⟨o, es, ep, a, b⟩ := Γ.D b hb; exact ⟨o, es, ep, st _ _ a, b⟩
  refine codeAny_call_def (fd := fnOf name qual params body scope dV kV doc pm an cdv ct) (body := body) (binds := binds) hroom (X _ _ ho) rfl (Γ.T.nolimit.keeps F.keep) (codeRec_of X hcd) rfl hbind hcell hloc (fun h₁ hns hk₁ => ?_) hco hgen hk
  refine wpAny_mono (h _ s.heap.objs.size h₁ FG ⟨hns, fun b o e => hk₁ b o (of_hideAll _ e), Nat.le_of_eq (hideAll_size _ _)⟩
    (fun q hq => ⟨hk₁ _ _ (N q hq).1, Nat.ne_of_lt (Heap.lt_size (N q hq).1), hideAll_none _ (List.mem_map_of_mem hq)⟩) ⟨BG, Γ.X.keeps st, Γ.T.keeps st, Γ.XB, Γ.TB, DG⟩ fun b o e n => hideAll_get _ e n) (fun fl s' hl => ?_) fun _ _ y => y
  rcases hl with hl | ⟨g', L', m', news', T', F', N', k⟩
  · exact lv _ _ hl
  · obtain ⟨h₁, a1, a2, a3, a4⟩ := back_ground Γ F st FG.ns (by rw [hfs]; exact fun b hb => (List.mem_cons.mp hb).imp id id) T' F' N'
    exact k h₁ a1 a2 a3 a4.B a4.X a4.T a4.D
end
end

/-! ## MR -/
theorem nolen_lri : typeLookup (.type "list_reverseiterator") "__len__" = pure none := by rw [typeLookup_type, builtinLookup_eq_fast]; kernel_rfl
theorem hint_lri : typeLookup (.type "list_reverseiterator") "__length_hint__" = pure (some (.builtin "list_reverseiterator.__length_hint__")) := by rw [typeLookup_type, builtinLookup_eq_fast]; kernel_rfl
theorem plain_unchain : plainId "proto.unchain" = true := by decide +kernel
theorem entry_unchain : entryFor table "proto.unchain" = some Builtin.«proto.unchain» := entryFor_of_tree (by kernel_rfl)

/-- the exception that is at hand: nothing behind it -/
def ExcObj (o : Obj) : Prop := ∃ vs, o.data = .fields vs ∧ vs[2]? = some .none

section
variable {prog : Program} {w : World} {A : Around} {E : Value → Shared → Prop} {s : Shared} {it l e : Addr} {eo : Obj}

theorem len_rev_raises {i : Int} {Q : Value → Shared → Prop} (hh : A.handled = none) (hit : s.heap.get? it = some (revObj l i))
    (h : ∀ h' tk e, Heap.NewExc s.heap h' e "TypeError" → E (.ref e) { s with heap := h', toks := tk }) : wpAny (model prog w) A (call (.builtin "len") [.ref it]) Q E s := by
  have hT : s.TypeIs (.ref it) "list_reverseiterator" := ⟨_, hit, rfl⟩
  refine Calls.call_function_entry kind_len plain_len entry_len (args_len1 _) ?_
  unfold Builtin.«len»
  refine wpAny_bind (m := oneArg "len" _) (wpAny_pure ?_)
  refine wpAny_bind (wpAny_callSpecial?_none (name := Str.ofString "__len__") hT nolen_lri ?_)
  refine wpAny_bind (wpAny_rule ?_)
  refine wpAny_bind (wpAny_typeNameOf' hT (h := ?_))
  exact wpAny_raiseTypeError hh (fun h' tk e hx => h h' tk e hx) (by decide +kernel)

theorem stop_handled {α : Type} {Q : α → Shared → Prop} (hh : A.handled = some (.ref e)) (he : s.heap.get? e = some eo) (hx : ExcObj eo)
    (h : ∀ h' e', (∀ b o, s.heap.get? b = some o → h'.get? b = some o) → (∃ o, h'.get? e' = some o ∧ o.cls = .type "StopIteration") → E (.ref e') { s with heap := h' }) :
    wpAny (model prog w) A (Builtin.SmallTypes.stopIteration : Sem α) Q E s := by
  obtain ⟨vs, hd, h2⟩ := hx
  unfold Builtin.SmallTypes.stopIteration
  refine wpAny_bind ?_
  simp only [newExc, newTuple]
  refine wpAny_bind (wpAny_newObj_type ?_ (by size_fits))
  refine wpAny_bind (m := firstArgMember _ _) (wpAny_of_eq (a := Value.none) (by first | rfl | (simp only [firstArgMember]; rfl)) ?_)
  refine wpAny_newObj_type ?_ (by size_fits)
  have hlt := Heap.lt_size he
  have hne : e ≠ (s.heap.push { cls := .type "tuple", data := .seq ([] : List Value).toArray }).objs.size := by
    rw [Heap.size_push]; exact Nat.ne_of_lt (Nat.lt_succ_of_lt hlt)
  simp only [raiseNew]
  refine wpAny_bind (wpAny_handled ?_)
  rw [hh]
  dsimp only
  rw [if_pos (by simpa using hne)]
  refine wpAny_bind (wpAny_holding (wpAny_runValue (codeAny_builtin entry_unchain ?_)))
  rw [Around.under_plainId plain_unchain _]
  unfold Builtin.«proto.unchain»
  dsimp only
  refine wpAny_bind (wpAny_field (Heap.get?_push_of_some _ (Heap.get?_push_of_some _ he)) hd h2 ?_)
  rw [if_pos (by rfl)]
  refine wpAny_pure ?_
  unfold updateField
  refine wpAny_bind (wpAny_bind (wpAny_load (Heap.get?_push_size _ rfl) ?_))
  dsimp only
  refine wpAny_ite_split (fun _ => ?_) (fun q => absurd (by rw [Array.size_append]; exact Nat.lt_of_lt_of_le (show 2 < 6 by decide) (Nat.le_add_right _ _)) q)
  refine wpAny_update (Heap.get?_push_size _ rfl) ?_
  refine wpAny_throw (h _ _ (fun b o hb => ?_) ⟨_, Heap.get?_update_self _ (Heap.get?_push_size _ rfl) rfl, rfl⟩)
  rw [Heap.get?_update_other _ _ (by rw [Heap.size_push]; exact Nat.ne_of_gt (Nat.lt_succ_of_lt (Heap.lt_size hb)))]
  exact Heap.get?_push_of_some _ (Heap.get?_push_of_some _ hb)

theorem rev_end_handled {Q : Option Value → Shared → Prop} (hh : A.handled = some (.ref e)) (he : s.heap.get? e = some eo) (hx : ExcObj eo)
    (hit : s.heap.get? it = some (revObj l (-1))) (h : ∀ h', (∀ b o, s.heap.get? b = some o → h'.get? b = some o) → Q none { s with heap := h' }) :
    wpAny (model prog w) A (pyNext (.ref it)) Q E s := by
  have hT : s.TypeIs (.ref it) "list_reverseiterator" := ⟨_, hit, rfl⟩
  unfold pyNext
  refine wpAny_bind (wpAny_attempt (wpAny_callSpecial?_slot (name := Str.ofString "__next__") hT F.slot_lri_next
    (wpAny_call_entry F.slot_lri_next hT F.entry_lri_next ?_ (F.args_lri_next_1 _))))
  unfold Builtin.«list_reverseiterator.__next__»
  refine wpAny_bind (wpAny_of_eq (a := (Value.ref it, [])) rfl ?_)
  try dsimp only
  refine wpAny_bind (wpAny_field hit rfl (x := rawInt (-1)) rfl ?_)
  show wpAny _ _ (if (-1 : Int) < 0 then _ else _) _ _ s
  rw [if_pos (by decide)]
  refine wpAny_bind (wpAny_rule ?_)
  refine wpAny_bind (stop_handled hh he hx fun h' e' hk he' => ?_)
  refine wpAny_bind (wpAny_isInstance (T := "StopIteration") (b := true) he' isSubtype_stop ?_)
  exact wpAny_pure (h _ hk)

theorem walks_rev (hh : A.handled = some (.ref e)) (hx : ExcObj eo) {its : List Value} {lo : Obj} {ep : Nat} (hlo : lo = listOf its.toArray ep) (hne : l ≠ it) (hee : e ≠ it) (k : Nat) (hk : k ≤ its.length) :
    Walks prog w A it [it, l, e] [it] k (fun i v => ((its.take k).reverse)[i]? = some v) (fun i h => h.get? it = some (revObj l (((k - i : Nat) : Int) - 1)) ∧ h.get? l = some lo ∧ h.get? e = some eo) where
  sub := fun b hb => by simp at hb; simp [hb]
  frame := fun i h h' st hk => ⟨hk it (by simp) _ st.1, hk l (by simp) _ st.2.1, hk e (by simp) _ st.2.2⟩
  item := fun i s Q E hi st hQ => by
    obtain ⟨h1, h2, h3⟩ := st
    obtain ⟨j, hj⟩ : ∃ j, k - i = j + 1 := ⟨k - i - 1, by omega⟩
    have e1 : (((k - i : Nat) : Int) - 1) = (j : Int) := by omega
    rw [e1] at h1
    have hjl : j < its.length := by omega
    have hi2 : s.heap.IsList l its.toArray := ⟨lo, h2, by rw [hlo], ep, by rw [hlo]⟩
    have e2 : (j : Int) = (j : Int) + 1 - 1 := by omega
    rw [e2] at h1
    unfold pyNext
    refine wpAny_bind (wpAny_attempt (rev_some (v := its[j]) h1 h2 (by rw [hlo]) (List.getElem?_eq_getElem hjl) ?_))
    refine wpAny_pure (hQ _ _ s.toks ?_ ⟨?_, (Heap.get?_update_other _ _ (Ne.symm hne)).trans h2, (Heap.get?_update_other _ _ (Ne.symm hee)).trans h3⟩ fun b o hb eo => (Heap.get?_update_other _ _ (fun h => hb (by simp [h]))).trans eo)
    · rw [List.getElem?_reverse (by rw [List.length_take]; omega), List.length_take, List.getElem?_take]
      have : min k its.length - 1 - i = j := by omega
      rw [this, if_pos (by omega), List.getElem?_eq_getElem hjl]
    · have e3 : (((k - (i + 1) : Nat) : Int) - 1) = (j : Int) + 1 - 1 - 1 := by omega
      rw [e3]
      exact Heap.get?_update_self _ h1 rfl
  done := fun s Q E st hQ => by
    obtain ⟨h1, h2, h3⟩ := st
    have e1 : (((k - k : Nat) : Int) - 1) = -1 := by omega
    rw [e1] at h1
    exact rev_end_handled hh h3 hx h1 fun h' hk => hQ h' s.toks fun b o _ eo => hk b o eo
  self := fun _ _ _ _ x hQ => wpAny_pyIter_revIter ⟨_, x.1, rfl, rfl⟩ hQ

theorem call_list_rev {Q : Value → Shared → Prop} (hh : A.handled = some (.ref e)) (he : s.heap.get? e = some eo) (hx : ExcObj eo) {its : List Value} {lo : Obj} {ep : Nat} (hlo : lo = listOf its.toArray ep) (hl : s.heap.get? l = some lo)
    {k : Nat} (hk : k ≤ its.length) (hsz : k ≤ 1000) (hit : s.heap.get? it = some (revObj l ((k : Int) - 1))) (hne : l ≠ it) (hee : e ≠ it)
    (hQ : ∀ (h' : Heap) (tk ep' : Nat), (∀ b o, b ≠ it → s.heap.get? b = some o → h'.get? b = some o) → h'.get? s.heap.objs.size = some (listOf (its.take k).reverse.toArray ep') → Q (.ref s.heap.objs.size) { s with heap := h', toks := tk }) :
    wpAny (model prog w) A (call (.type "list") [.ref it]) Q E s := by
  refine callType_codes (Q₁ := fun obj s₁ => obj = .ref s.heap.objs.size ∧ s₁ = { s with heap := s.heap.push { cls := .type "list", data := .seq #[] } }) F.called_list (F.typeCall_list_1 _) F.entry_list_init
    (code_list_new _ ⟨rfl, rfl⟩) fun obj s₁ h₁ => ?_
  obtain ⟨rfl, rfl⟩ := h₁
  have hS : (s.heap.push { cls := .type "list", data := .seq #[] }).get? s.heap.objs.size = some { cls := .type "list", data := .seq #[] } := Heap.get?_push_size _ rfl
  refine ⟨⟨_, hS, rfl⟩, F.args_list_init_2 _ _, ?_⟩
  have hSI : s.heap.objs.size ≠ it := Nat.ne_of_gt (Heap.lt_size hit)
  have hSl : s.heap.objs.size ≠ l := Nat.ne_of_gt (Heap.lt_size hl)
  have hSe : s.heap.objs.size ≠ e := Nat.ne_of_gt (Heap.lt_size he)
  have W := (walks_rev (prog := prog) (w := w) (A := A.in1.in1) hh hx hlo hne hee k hk).toS
  show wpAny _ _ (do let old ← Builtin.List.listItems (.ref s.heap.objs.size); Builtin.List.listUpdate (.ref s.heap.objs.size) (fun _ => #[]); letGo old.toList.reverse; Builtin.List.listExtendWith (.ref s.heap.objs.size) (.ref it) .none) _ _ _
  refine wpAny_bind ?_
  unfold Builtin.List.listItems
  refine wpAny_bind (wpAny_seqItems hS rfl (wpAny_pure ?_))
  show wpAny _ _ (updateSeq s.heap.objs.size (fun _ => #[]) >>= fun _ => letGo (#[] : Array Value).toList.reverse >>= fun _ => Builtin.List.listExtendWith (.ref s.heap.objs.size) (.ref it) .none) _ _ _
  refine wpAny_bind (wpAny_updateSeq hS rfl ?_)
  have hS₂ := Heap.get?_update_self (Obj.mapSeq (fun _ => (#[] : Array Value))) hS rfl
  have oth : ∀ b o, s.heap.get? b = some o → ((s.heap.push { cls := .type "list", data := .seq #[] }).update s.heap.objs.size (Obj.mapSeq (fun _ => (#[] : Array Value)))).get? b = some o :=
    fun b o e => (Heap.get?_update_other _ _ (Nat.ne_of_gt (Heap.lt_size e))).trans (Heap.get?_push_of_some _ e)
  refine wpAny_bind (wpAny_letGo ?_)
  have hst := And.intro (oth _ _ hit) (And.intro (oth _ _ hl) (oth _ _ he))
  have hT : Shared.TypeIs { s with heap := (s.heap.push { cls := .type "list", data := .seq #[] }).update s.heap.objs.size (Obj.mapSeq (fun _ => (#[] : Array Value))) } (.ref it) "list_reverseiterator" := ⟨_, hst.1, rfl⟩
  unfold Builtin.List.listExtendWith
  refine wpAny_bind (wpAny_typeOf hT ?_)
  have h1 : Builtin.List.listSameRef (.ref s.heap.objs.size) (.ref it) = false := by simp [Builtin.List.listSameRef, hSI]
  rw [if_neg (by rw [h1]; decide)]
  refine wpAny_bind (wpAny_pyIter_revIter ⟨_, hst.1, rfl, rfl⟩ ?_)
  refine wpAny_bind (wpAny_holding ?_)
  unfold Builtin.List.listLengthHint
  refine wpAny_bind (wpAny_specialOf hT nolen_lri ?_)
  show wpAny _ _ (specialOf (Value.ref it) (Str.ofString "__length_hint__") >>= _) _ _ _
  refine wpAny_bind (wpAny_specialOf hT hint_lri ?_)
  (generalize hid : ("list_reverseiterator.__length_hint__" : String) = id0; (fail_if_success (clear hid id0)); wp_delta; rw [show splitId id0 = some ("list_reverseiterator", "__length_hint__") from by subst hid; decide +kernel]; subst hid)
  refine wpAny_bind (wpAny_isInstance (b := true) hT (by rw [isSubtype_type]; kernel_rfl) ?_)
  refine wpAny_pure ?_
  rw [if_neg (by decide)]
  refine wpAny_pure ⟨plainId_quiet F.plain_extend_loop _, codeAny_extend_loopS W (by rw [sizeLine_eq]; omega) _ (by simp only [List.mem_cons, List.not_mem_nil, or_false, not_or]; exact ⟨hSI, hSl, hSe⟩) _ k 0 _ _ _ rfl (Nat.zero_le _) hst hS₂ (ItemsOf.nil _) fun s' acc' c' hm hS' hacc => ?_⟩
  refine ⟨rfl, ?_⟩
  rw [Moved.eq_with hm]
  have hacc' : acc' = (its.take k).reverse.toArray := by
    have hlen : (its.take k).reverse.length = k := by rw [List.length_reverse, List.length_take]; omega
    refine Array.ext (by rw [hacc.1, List.size_toArray, hlen]) fun i h1 h2 => ?_
    have := hacc.2 i _ (Array.getElem?_eq_getElem h1)
    rw [List.size_toArray] at h2
    rw [List.getElem?_eq_getElem h2] at this
    simpa using (Option.some.inj this).symm
  rw [hacc'] at hS'
  refine hQ s'.heap s'.toks c' (fun b o hb eo => hm.heap b o (fun hmem => ?_) (oth b o eo)) hS'
  rcases List.mem_cons.mp hmem with e' | hmem
  · exact absurd (Heap.lt_size eo) (by rw [e']; exact Nat.lt_irrefl _)
  · exact hb (List.mem_singleton.mp hmem)
end

/-! ## MC -/
section
open PySem.Spec
section
variable {w : World} {p : Program} {loose : List Str} {mean : ExcName → Option Value} {mg mb : Str → Option Value} {A₀ : Around} {base h₀ g g' h h' : Heap} {outer : List Env} {L L' : Addr} {m m' : Str → Option Value} {fs : List Addr} {news : List (Addr × Obj)} {as : List Addr}
theorem ground_of (Γ : Gr w p loose mean mg mb A₀ base outer h₀) (F : Fr h₀ L h m) (N : News h₀ L h news) (k1 : ∀ b o, h.get? b = some o → b ∉ L :: fsOf outer → h'.get? b = some o) (k2 : ∀ b o, h.get? b = some o → ∃ sl, h'.get? b = some { o with slots := sl }) :
    ∃ h₁, KtsTurn (fsOf outer) h₀ h₁ ∧ Fr h₁ L h' m ∧ News h₁ L h' news ∧ Gr w p loose mean mg mb A₀ base outer h₁ := by
  obtain ⟨oL, es, ep, hL, hLd, hLk, hLf⟩ := F.ns
  have no : h₀.get? L = none := kts_self F
  have hin : ∀ b ∈ fsOf outer, ∃ o, h₀.get? b = some o := fun b hb => let ⟨_, o, ho, _⟩ := Γ.B.frames.mem hb; ⟨o, ho⟩
  obtain ⟨T₁, S₁⟩ := kts_turn_at (h := h') (fs := fsOf outer) (g := h₀) hin (fun b o e n => k1 b o (F.keep b o e) fun q => by
    rcases List.mem_cons.mp q with z | z
    · rw [z, no] at e; cases e
    · exact n z) fun b o e _ => k2 b o (F.keep b o e)
  obtain ⟨sl, hs⟩ := k2 _ _ hL
  have B₁ : Below A₀ base outer (ktsHeap h' (fsOf outer) h₀) := by
    refine ⟨Γ.B.stack, fun b o e => T₁.other b o (Γ.B.stays b o e) fun hm => ?_, Γ.B.frames.of_keeps fun b o e _ => ?_⟩
    · rw [(Γ.B.frames.mem hm).1] at e; cases e
    · obtain ⟨sl', q⟩ := T₁.up e
      exact ⟨_, q, rfl⟩
  refine ⟨_, T₁, ⟨⟨_, es, ep, hs, hLd, hLk, hLf⟩, S₁, by rw [T₁.size]; exact F.above⟩, fun q hq => ⟨k1 _ _ (N q hq).1 fun z => ?_, (N q hq).2.1, T₁.none_ _ (N q hq).2.2⟩, B₁, Γ.XB.keeps B₁.stays, Γ.TB.keeps B₁.stays, Γ.XB, Γ.TB, Γ.D.turn T₁⟩
  rcases List.mem_cons.mp z with z | z
  · exact (N q hq).2.1 z
  · obtain ⟨o, ho⟩ := hin _ z
    rw [(N q hq).2.2] at ho; cases ho
end

section
variable {prog : Program} {w : World} {p : Program} {loose : List Str} {mean : ExcName → Option Value} {mg mb : Str → Option Value} {A₀ : Around} {s' : Shared} {base g h : Heap} {outer : List Env} {L a e : Addr} {m : Str → Option Value} {news : List (Addr × Obj)}
  {name : Str} {scope : Scope} {cd : Value} {b₀ : Stmt} {suite : List Stmt} {pos np : Pos} {rest : List ExceptHandler} {Q : Flow → Shared → Prop} {E : Value → Shared → Prop} {x : Str} {X T' : String}
/-- an exception that was raised in the frame's own code, and is caught there -/
theorem caughtC (hx : Heap.NewExc h s'.heap e X) (Γ : Gr w p loose mean mg mb A₀ base outer g) (F : Fr g L h m) (N : News g L h news)
    (ex : nsIn (hd.heap_39 w.params) mainGlobals x = some none) (hv : bootBuiltins x = some (.type T')) (hn' : x ≠ "__name__")
    (hexc : isSubtype (.type T') (.type "BaseException") = pure true) (hnt : isSubtype (.type ((Manifest.find? T').elim "type" fun y => y.metatype)) (.type "tuple") = pure false) (hsub : isSubtype (.type X) (.type T') = pure true)
    (k : ∀ h' g' T eo to, KtsTurn (fsOf outer) g g' → Fr g' L h' m → News g' L h' ((e, eo) :: (T, to) :: news) → ExcObj eo → eo.cls = .type X → Gr w p loose mean mg mb A₀ base outer g' → KeepsF [] (L :: fsOf outer) h h' → AllNe e news → AllNe T news →
      wpAny (model prog w) ((A₀.deeper (envOf name scope L a cd)).mark (some (.ref e))) (execs (b₀ :: suite) (envOf name scope L a cd)) Q E { s' with heap := h' })
    (hk : scope.kind = .function := by rfl) (hxk : (envOf name scope L a cd).kindOf x = some .globalImplicit := by rfl) (hdb : (x == ("__debug__" : Str)) = false := by decide)
    (hE : PassesOwnAt (model prog w) ((A₀.deeper (envOf name scope L a cd)).mark (some (.ref e))) (A₀.deeper (envOf name scope L a cd)) (envOf name scope L a cd) E := by passes_own) :
    wpAny (model prog w) (A₀.deeper (envOf name scope L a cd)) (noteFrame (.ref e) (envOf name scope L a cd))
      (fun _ s₂ => wpAny (model prog w) (A₀.deeper (envOf name scope L a cd)) (setFlight (.ref e) none) (fun _ s₃ =>
        wpAny (model prog w) (A₀.deeper (envOf name scope L a cd)) (handleBy (.ref e) (envOf name scope L a cd) (.ExceptHandler (some (.Name x np)) none (b₀ :: suite) pos :: rest)) Q E s₃) E s₂) E s' := by
  have K' := Γ.B.push (name := name) (a := a) (cd := cd) F hk
  have hl : s'.heap.FunFrames base (envOf name scope L a cd :: outer) := K'.frames.of_keeps fun b o hb _ => ⟨o, hx.keeps b o hb, rfl⟩
  obtain ⟨ob, tt, he, hcls, hd⟩ := hx.there
  have hene : e ∉ (envOf name scope L a cd :: outer).filterMap (·.frame) := fun hm => by
    obtain ⟨_, o, ho, hnf⟩ := hl.mem hm
    rw [he] at ho; injection ho with ho; subst ho; exact hnf _ hd
  unfold noteFrame
  show wpAny _ _ (field (.ref e) 1 >>= _) _ _ _
  refine wpAny_bind (wpAny_field he hd (x := .none) rfl ?_)
  rw [if_neg (by decide)]
  refine wpAny_bind (wpAny_frameOf_fun (K'.stack) hl rfl fun h₁ hs₁ => ?_)
  refine wpAny_bind (wpAny_entryPlaceOf fun pl hpl => ?_)
  unfold EntryCells.newEntry newFields
  refine wpAny_bind (wpAny_newObj_type ?_ (hpl.sizeOk5 _ _ _ _ _))
  have he₁ : h₁.get? e = some ob := (hs₁.2.1 e hene).trans he
  have he₂ := Heap.get?_push_of_some (h := h₁) { cls := .type "traceback", dict := none, data := .fields ([Value.none, .ref L, .none, rawInt L, .none] ++ (if pl.isEmpty then List.replicate 6 Value.none else pl)).toArray } he₁
  refine wpAny_setField he₂ hd (by simp) ?_
  have hTe : h₁.objs.size ≠ e := Nat.ne_of_gt (Heap.lt_size he₁)
  have hd₃ := Obj.data_mapFields hd (·.setIfInBounds 1 (Value.ref h₁.objs.size))
  have he₃ := Heap.get?_update_self (Obj.mapFields (·.setIfInBounds 1 (Value.ref h₁.objs.size))) he₂ (Obj.isFreed_of_fields hd₃)
  have hT₃ := (Heap.get?_update_other (h₁.push { cls := .type "traceback", dict := none, data := .fields ([Value.none, .ref L, .none, rawInt L, .none] ++ (if pl.isEmpty then List.replicate 6 Value.none else pl)).toArray })
    (Obj.mapFields (·.setIfInBounds 1 (Value.ref h₁.objs.size))) (Ne.symm hTe)).trans (Heap.get?_push_size h₁ rfl)
  unfold setFlight
  refine wpAny_bind (wpAny_field he₃ hd₃ (x := .ref h₁.objs.size) (by simp) ?_)
  rw [if_pos (show (Value.ref h₁.objs.size != Value.none) = true from by simp)]
  refine wpAny_setField hT₃ rfl (by simp only [List.size_toArray, List.length_append, List.length_cons, List.length_nil] <;> omega) ?_
  have keep₃ : ∀ b o, b ≠ e → h₁.get? b = some o → (((h₁.push { cls := .type "traceback", dict := none, data := .fields ([Value.none, .ref L, .none, rawInt L, .none] ++ (if pl.isEmpty then List.replicate 6 Value.none else pl)).toArray }).update e (Obj.mapFields (·.setIfInBounds 1 (Value.ref h₁.objs.size)))).update h₁.objs.size
      (Obj.mapFields (·.setIfInBounds 3 ((none : Option Addr).elim Value.none fun f => rawInt f)))).get? b = some o := fun b o hbe hb => by
    have hbT : h₁.objs.size ≠ b := Nat.ne_of_gt (Heap.lt_size hb)
    rw [Heap.get?_update_other _ _ hbT, Heap.get?_update_other _ _ (Ne.symm hbe)]
    exact Heap.get?_push_of_some _ hb
  have he₄ := (Heap.get?_update_other _ (Obj.mapFields (·.setIfInBounds 3 ((none : Option Addr).elim Value.none fun f => rawInt f))) hTe).trans he₃
  have hT₄ := Heap.get?_update_self (Obj.mapFields (·.setIfInBounds 3 ((none : Option Addr).elim Value.none fun f => rawInt f))) hT₃ rfl
  have hTs : s'.heap.get? h₁.objs.size = none := by
    cases q : s'.heap.get? h₁.objs.size with
    | none => rfl
    | some o =>
      obtain ⟨sl, z⟩ := hs₁.2.2 _ _ q
      exact absurd (Heap.lt_size z) (Nat.lt_irrefl _)
  revert keep₃ he₄ hT₄
  generalize ((h₁.push { cls := .type "traceback", dict := none, data := .fields ([Value.none, .ref L, .none, rawInt L, .none] ++ (if pl.isEmpty then List.replicate 6 Value.none else pl)).toArray }).update e (Obj.mapFields (·.setIfInBounds 1 (Value.ref h₁.objs.size)))).update h₁.objs.size
      (Obj.mapFields (·.setIfInBounds 3 ((none : Option Addr).elim Value.none fun f => rawInt f))) = H₃
  intro keep₃ he₄ hT₄
  have nee : ∀ {b o}, h.get? b = some o → b ≠ e := fun hb q => by rw [q, hx.new] at hb; cases hb
  have neT : ∀ {b o}, h.get? b = some o → b ≠ h₁.objs.size := fun hb q => by
    have := hx.keeps _ _ hb
    rw [q, hTs] at this; cases this
  have k1 : ∀ b o, h.get? b = some o → b ∉ L :: fsOf outer → H₃.get? b = some o := fun b o hb hn => keep₃ b o (nee hb) ((hs₁.2.1 b hn).trans (hx.keeps b o hb))
  have k2 : ∀ b o, h.get? b = some o → ∃ sl, H₃.get? b = some { o with slots := sl } := fun b o hb => by
    obtain ⟨sl, z⟩ := hs₁.2.2 b o (hx.keeps b o hb)
    exact ⟨sl, keep₃ b _ (nee hb) z⟩
  obtain ⟨g₃, T₃, F₃, N₃, Γ₃⟩ := ground_of (h' := H₃) Γ F N k1 k2
  refine wpAny_handleBy_builtin (X := X) (T := T') (b := true) hexc hnt hsub (name_B F₃ Γ₃.X (topRead_of Γ₃.T) ex hv hn' ⟨rfl, ⟨_, he₄, by rw [Obj.cls_mapFields]; exact hcls⟩, ?_⟩ hk hxk hdb)
  show wpAny _ _ (setFlight (.ref e) none) _ _ _
  unfold setFlight
  refine wpAny_bind (wpAny_field he₄ hd₃ (x := .ref h₁.objs.size) (by simp) ?_)
  rw [if_pos (show (Value.ref h₁.objs.size != Value.none) = true from by simp)]
  have hTd := Obj.data_mapFields (o := { cls := .type "traceback", dict := none, data := .fields ([Value.none, .ref L, .none, rawInt L, .none] ++ (if pl.isEmpty then List.replicate 6 Value.none else pl)).toArray }) rfl (·.setIfInBounds 3 ((none : Option Addr).elim Value.none fun f => rawInt f))
  refine wpAny_setField hT₄ hTd (by simp only [Array.size_setIfInBounds, List.size_toArray, List.length_append, List.length_cons, List.length_nil] <;> omega) ?_
  have he₅ := (Heap.get?_update_other _ (Obj.mapFields (·.setIfInBounds 3 ((none : Option Addr).elim Value.none fun f => rawInt f))) hTe).trans he₄
  have hT₅ := Heap.get?_update_self (Obj.mapFields (·.setIfInBounds 3 ((none : Option Addr).elim Value.none fun f => rawInt f))) hT₄ (Obj.isFreed_of_fields hTd)
  have k1' : ∀ b o, h.get? b = some o → b ∉ L :: fsOf outer → (H₃.update h₁.objs.size (Obj.mapFields (·.setIfInBounds 3 ((none : Option Addr).elim Value.none fun f => rawInt f)))).get? b = some o := fun b o hb hn =>
    (Heap.get?_update_other _ _ (Ne.symm (neT hb))).trans (k1 b o hb hn)
  have k2' : ∀ b o, h.get? b = some o → ∃ sl, (H₃.update h₁.objs.size (Obj.mapFields (·.setIfInBounds 3 ((none : Option Addr).elim Value.none fun f => rawInt f)))).get? b = some { o with slots := sl } := fun b o hb => by
    obtain ⟨sl, z⟩ := k2 b o hb
    exact ⟨sl, (Heap.get?_update_other _ _ (Ne.symm (neT hb))).trans z⟩
  obtain ⟨g₄, T₄, F₄, N₄, Γ₄⟩ := ground_of Γ F N k1' k2'
  have new : ∀ b, h.get? b = none → g₄.get? b = none := fun b hb => by
    refine T₄.none_ _ ?_
    cases q : g.get? b with
    | none => rfl
    | some o => rw [F.keep _ _ q] at hb; cases hb
  have neL : ∀ b, h.get? b = none → b ≠ L := fun b hb q => by
    obtain ⟨o, _, _, ho, _⟩ := F.ns
    rw [q, ho] at hb; cases hb
  have hTn : h.get? h₁.objs.size = none := by
    cases q : h.get? h₁.objs.size with
    | none => rfl
    | some o => exact absurd rfl (neT q)
  have mk : ∀ {H : Heap} {oe ot : Obj}, H.get? e = some oe → H.get? h₁.objs.size = some ot → News g₄ L H news → News g₄ L H ((e, oe) :: (h₁.objs.size, ot) :: news) := fun a1 a2 a3 q hq => by
    rcases List.mem_cons.mp hq with rfl | hq
    · exact ⟨a1, neL _ hx.new, new _ hx.new⟩
    rcases List.mem_cons.mp hq with rfl | hq
    · exact ⟨a2, neL _ hTn, new _ hTn⟩
    · exact a3 q hq
  exact wpAny_passesOwnAt hE (k _ g₄ h₁.objs.size _ _ T₄ F₄ (mk he₅ hT₅ N₄) ⟨_, hd₃, by simp⟩ (by rw [Obj.cls_mapFields]; exact hcls) Γ₄ (fun b o hb _ hn => k1' b o hb hn) (allNe_of hx.new N) (allNe_of hTn N))
end
end

/-! ## ML -/
section
open PySem.Spec
section
variable {prog : Program} {w : World} {A : Around} {E : Value → Shared → Prop} {s : Shared} {x L : Addr} {h₀ : Heap} {m : Str → Option Value} {ox : Obj} {es : List DictEntry} {n : Nat} {S : LS}
theorem isn_tup {Q : Value → Shared → Prop} {t : Addr} {its : Array Value} {k : Nat} (F : Fr h₀ L s.heap m) (X₀ : (hd.heap_39 w.params).In h₀) (ht : s.heap.get? t = some (tupOf its k)) (h : Q (.bool false) { s with toks := s.toks + 1 }) :
    wpAny (model prog w) A (call (.builtin "isinstance") [.ref t, .ref 364]) Q E s :=
  isn_call (P := fun h => ∃ o, h.get? t = some o ∧ o.cls = .type "tuple") (X₀.keeps F.keep) (fun M => (Looks.ld ht).andThen .now) (by k_not) (by intro q; cases q) ⟨_, ht, rfl⟩ tuple_cls h
theorem meth_und {pl : Sem Bool} {Q : Value × List Value → Shared → Prop} (F : Fr h₀ L s.heap m) (X₀ : (hd.heap_39 w.params).In h₀) (I : InstAt s.heap x ox 255 (some (dictOf es n))) (hD : LoopD es S)
    (h : Q (.ref 364, []) { s with toks := s.toks + 1 }) : wpAny (model prog w) A (getMethod (.ref x) "_undefined" pl) Q E s :=
  kmu_own F X₀ I (by k_is) (by k_is) (get_und F X₀ I hD h)
theorem meth_again {pl : Sem Bool} {Q : Value × List Value → Shared → Prop} (F : Fr h₀ L s.heap m) (X₀ : (hd.heap_39 w.params).In h₀) (I : InstAt s.heap x ox 255 (some (dictOf es n))) (hD : LoopD es S) (hv : handedIn S.again = true)
    (h : Q (S.again, []) { s with toks := s.toks + 1 }) : wpAny (model prog w) A (getMethod (.ref x) "_recurse" pl) Q E s :=
  kmu_own F X₀ I (by k_is) (by k_is) (get_again F X₀ I hD hv h)
theorem meth_to_itor {pl : Sem Bool} {Q : Value × List Value → Shared → Prop} (F : Fr h₀ L s.heap m) (X₀ : (hd.heap_39 w.params).In h₀) (I : InstAt s.heap x ox 255 (some (dictOf es n))) (hD : LoopD es S)
    (h : Q (.ref 121, []) { s with toks := s.toks + 1 }) : wpAny (model prog w) A (getMethod (.ref x) "_to_iterator" pl) Q E s :=
  kmu_sm (p := 123) F X₀ I (by k_is) (by k_is) (by k_is) (by k_is) (by k_is) (by k_is) (by decide +kernel) (by rw [getL_at hD.keys, hD.oth _ (by decide +kernel)]) (by k_is) rfl h
end
section
variable {prog : Program} {w : World} {A : Around} {E : Value → Shared → Prop} {s : Shared} {h₀ : Heap} {L it l e : Addr} {m : Str → Option Value} {news rest : List (Addr × Obj)} {io lo eo : Obj} {us : List Value} {Q : Value → Shared → Prop}

theorem k_len_l {its : List Value} {ep : Nat} (hl : s.heap.get? l = some (listOf its.toArray ep)) (hz : its.length ≤ 100000) (h : ∀ t tk', Q (.int (its.length : Int) t) { s with toks := tk' }) : wpAny (model prog w) A (call (.builtin "len") [.ref l]) Q E s := by
  refine Calls.call_len_list (items := its.toArray) ⟨_, hl, rfl, ep, rfl⟩ (by rw [List.size_toArray]; omega) ?_
  rw [List.size_toArray]; exact h _ _
theorem k_len_t {its : List Value} {ep : Nat} (hl : s.heap.get? l = some (tupOf its.toArray ep)) (hz : its.length ≤ 100000) (h : ∀ t tk', Q (.int (its.length : Int) t) { s with toks := tk' }) : wpAny (model prog w) A (call (.builtin "len") [.ref l]) Q E s := by
  refine PyProof.Rows.len_tuple (items := its.toArray) ⟨_, hl, rfl, ep, rfl⟩ (by rw [List.size_toArray]; omega) ?_
  rw [List.size_toArray]; exact h _ _
theorem k_item0 {value slice : Expr} {t : Addr} {a b : Value} {n : Nat} {u : Tok} (ht : s.heap.get? t = some (tupOf #[a, b] n)) (h : Q a s)
    (hs : subscripted slice false (.ref t) (.int 0 u) = operate [.ref t, .int 0 u] (getItem (.ref t) (.int 0 u)) := by with_unfolding_all rfl) : wpAny (model prog w) A (subscriptTail value slice (.ref t) (.int 0 u)) Q E s :=
  item_tupleT (l := [a, b]) (j := 0) ⟨_, ht, rfl, n, rfl⟩ (by decide) (by decide) (show seqIndex? _ 2 = _ by decide) rfl h hs
theorem k_item1 {value slice : Expr} {t : Addr} {a b : Value} {n : Nat} {u : Tok} (ht : s.heap.get? t = some (tupOf #[a, b] n)) (h : Q b s)
    (hs : subscripted slice false (.ref t) (.int 1 u) = operate [.ref t, .int 1 u] (getItem (.ref t) (.int 1 u)) := by with_unfolding_all rfl) : wpAny (model prog w) A (subscriptTail value slice (.ref t) (.int 1 u)) Q E s :=
  item_tupleT (l := [a, b]) (j := 1) ⟨_, ht, rfl, n, rfl⟩ (by decide) (by decide) (show seqIndex? _ 2 = _ by decide) rfl h hs
theorem k_itemL {value slice : Expr} {l : Addr} {its : List Value} {ep : Nat} {k : Int} {u : Tok} {x : Value} (hl : s.heap.get? l = some (listOf its.toArray ep)) (h0 : 0 ≤ k) (hz : its.length ≤ 100000) (hx : its[k.toNat]? = some x) (h : Q x s)
    (hs : subscripted slice false (.ref l) (.int k u) = operate [.ref l, .int k u] (getItem (.ref l) (.int k u)) := by with_unfolding_all rfl) : wpAny (model prog w) A (subscriptTail value slice (.ref l) (.int k u)) Q E s := by
  have hk : k < 2 ^ 63 := by
    have := (List.getElem?_eq_some_iff.mp hx).1
    omega
  exact tail_any (T := "list") ⟨_, hl, rfl⟩ slot_list_getitem.lookup (wpAny_getItem_list (items := its.toArray) ⟨_, hl, rfl, ep, rfl⟩ h0 hk (by simpa using hx) h) hs
theorem k_itemA {value slice : Expr} {l : Addr} {its : List Value} {ep : Nat} {k : Int} {u : Tok} (hl : s.heap.get? l = some (listOf its.toArray ep)) (h0 : 0 ≤ k) (hz : its.length ≤ 100000) (hk : k < its.length) (h : ∀ x, its[k.toNat]? = some x → Q x s)
    (hs : subscripted slice false (.ref l) (.int k u) = operate [.ref l, .int k u] (getItem (.ref l) (.int k u)) := by with_unfolding_all rfl) : wpAny (model prog w) A (subscriptTail value slice (.ref l) (.int k u)) Q E s := by
  have hlt : k.toNat < its.length := by omega
  exact k_itemL hl h0 hz (List.getElem?_eq_getElem hlt) (h _ (List.getElem?_eq_getElem hlt)) hs
theorem kl_clear0 {D : Addr} {n : Nat} {news' : List (Addr × Obj)} (F : Fr h₀ L s.heap m) (N : News h₀ L s.heap news) (U : Upd D (listOf #[] n) (listOf #[] n) news news')
    (h : ∀ h', Fr h₀ L h' m → News h₀ L h' news' → Q .none { s with heap := h' }) : wpAny (model prog w) A (call (.builtin "list.clear") [.ref D]) Q E s := by
  obtain ⟨pre, post, rfl, rfl, a, c⟩ := U.split
  have z := N (D, listOf #[] n) (List.mem_append.mpr (.inr (.head _)))
  exact call_meets PySem.F.slot_list_clear ⟨_, z.1, rfl⟩ PySem.F.entry_list_clear (PySem.F.args_list_clear_1 _) (PySem.AutoSeq1.list_clear_list_0 D #[] n (by decide)) ⟨z.1, h _ (F.change (Heap.SameBut.update ..) z.2.1 z.2.2) (kl_turn0 (fun _ => #[]) N a c rfl rfl)⟩
theorem k_len_r (hh : A.handled = none) (hi : ItOf l lo io us) (hc : io.cls = .type "list_reverseiterator") (hit : s.heap.get? it = some io)
    (h : ∀ h' tk e, Heap.NewExc s.heap h' e "TypeError" → E (.ref e) { s with heap := h', toks := tk }) : wpAny (model prog w) A (call (.builtin "len") [.ref it]) Q E s := by
  cases hi with
  | rev _ _ => exact len_rev_raises hh hit h
  | list => exact (by decide : ¬ ("list_iterator" : String) = "list_reverseiterator") (Value.type.inj hc) |>.elim
  | listEnd => exact (by decide : ¬ ("list_iterator" : String) = "list_reverseiterator") (Value.type.inj hc) |>.elim
  | tup => exact (by decide : ¬ ("tuple_iterator" : String) = "list_reverseiterator") (Value.type.inj hc) |>.elim
  | tupEnd => exact (by decide : ¬ ("tuple_iterator" : String) = "list_reverseiterator") (Value.type.inj hc) |>.elim
theorem k_list_rev (hh : A.handled = some (.ref e)) (F : Fr h₀ L s.heap m) (N : News h₀ L s.heap news) (he : (e, eo) ∈ news) (hx : ExcObj eo) (hD : Del it io news rest) (hi : ItOf l lo io us) (hc : io.cls = .type "list_reverseiterator")
    (hl : s.heap.get? l = some lo) (hli : l ≠ it) (hee : e ≠ it) (hz : us.length ≤ 1000)
    (h : ∀ S h' tk ep, Fr h₀ L h' m → News h₀ L h' ((S, listOf us.toArray ep) :: rest) → (∀ p ∈ news, p.1 < S) → s.heap.get? S = none → (∀ b o, b ≠ it → s.heap.get? b = some o → h'.get? b = some o) → Q (.ref S) { s with heap := h', toks := tk }) :
    wpAny (model prog w) A (call (.type "list") [.ref it]) Q E s := by
  cases hi with
  | list => exact (by decide : ¬ ("list_iterator" : String) = "list_reverseiterator") (Value.type.inj hc) |>.elim
  | listEnd => exact (by decide : ¬ ("list_iterator" : String) = "list_reverseiterator") (Value.type.inj hc) |>.elim
  | tup => exact (by decide : ¬ ("tuple_iterator" : String) = "list_reverseiterator") (Value.type.inj hc) |>.elim
  | tupEnd => exact (by decide : ¬ ("tuple_iterator" : String) = "list_reverseiterator") (Value.type.inj hc) |>.elim
  | @rev its ep i hlo hi =>
    obtain ⟨hm, hr⟩ := hD.mem
    have hlen : ((its.take i).reverse).length = i := by rw [List.length_reverse, List.length_take]; omega
    rw [hlen] at hz
    have hsize : s.heap.get? s.heap.objs.size = none := Heap.get?_none_of_le (Nat.le_refl _)
    refine call_list_rev hh (N _ he).1 hx hlo hl hi hz (N _ hm).1 hli hee fun h' tk ep' k hS => ?_
    obtain ⟨oL, es, ep'', hL, hLd, hLk, hLf⟩ := F.ns
    refine h _ h' tk ep' ⟨⟨oL, es, ep'', k _ _ (fun z => (N _ hm).2.1 z.symm) hL, hLd, hLk, hLf⟩, fun b o e => k b o (fun z => by
        have := (N _ hm).2.2
        rw [← z, e] at this; cases this) (F.keep b o e), F.above⟩ (fun q hq => ?_) (fun q hq => Heap.lt_size (N q hq).1) hsize k
    rcases List.mem_cons.mp hq with rfl | hq
    · refine ⟨hS, Nat.ne_of_gt (Heap.lt_size hL), ?_⟩
      cases z : h₀.get? s.heap.objs.size with
      | none => rfl
      | some o => exact absurd (Heap.lt_size (F.keep _ _ z)) (Nat.lt_irrefl _)
    · exact ⟨k _ _ (hr q hq).2 (N q (hr q hq).1).1, (N q (hr q hq).1).2⟩
end
theorem execs_split_wp {M : Model} {A : Around} {env : Env} {E : Value → Shared → Prop} {Q : Flow → Shared → Prop} {Mid : Shared → Prop} {Γ : PySem.Ctx} (hΓ : Γ.In A) : ∀ (n : Nat) (l : List Stmt) {s : Shared} {p : Pos},
    Sem.wp M Γ (execs (l.take n) env) (fun f _ s' => match f with | .next => Mid s' | f => Q f s') (fun e _ s' => E e s') p s →
    (∀ s', Mid s' → wpAny M A (execs (l.drop n) env) Q E s') → Sem.wp M Γ (execs l env) (fun f _ s' => Q f s') (fun e _ s' => E e s') p s
  | 0, l, s, p, h, h2 => h2 s h Γ p hΓ
  | n + 1, [], s, p, h, h2 => h2 s h Γ p hΓ
  | n + 1, st :: r, s, p, h, h2 => by
    rw [List.take_succ_cons, execs_cons, Sem.wp_bind'] at h
    rw [execs_cons, Sem.wp_bind']
    refine Sem.wp_mono M Γ _ (fun f p' s' z => ?_) (fun _ _ _ z => z) _ _ h
    cases f with
    | next => exact execs_split_wp hΓ n r z h2
    | brk => exact z
    | cont => exact z
    | ret v => exact z
theorem execs_split {M : Model} {A : Around} {env : Env} {E : Value → Shared → Prop} {Q : Flow → Shared → Prop} (Mid : Shared → Prop) (n : Nat) (l : List Stmt) {s : Shared} (h : wpAny M A (execs (l.take n) env) (fun f s' => match f with | .next => Mid s' | f => Q f s') E s)
    (h2 : ∀ s', Mid s' → wpAny M A (execs (l.drop n) env) Q E s') : wpAny M A (execs l env) Q E s := fun Γ p hΓ => execs_split_wp hΓ n l (h Γ p hΓ) h2
section
variable {w : World} {p : Program} {loose : List Str} {mean : ExcName → Option Value} {mg mb : Str → Option Value} {fs : List Addr} {g h₀ h₀' h h' : Heap} {L : Addr} {l : Nat} {lo : Obj} {news t rest : List (Addr × Obj)} {as : List Addr}
theorem notFrame {fs : List Addr} {g : Heap} {l : Addr} {lo : Obj} (D : KtsDicts fs g) (hl : g.get? l = some lo) (hs : ∀ es n, lo.data ≠ .dict es n) : l ∉ fs := fun hm => by
  obtain ⟨o, es, n, ho, hd⟩ := D _ hm
  rw [hl] at ho
  cases ho
  exact hs _ _ hd
theorem notFrame_news (D : KtsDicts fs h₀) (N : News h₀ L h news) {q : Addr × Obj} (hq : q ∈ news) : q.1 ∉ L :: fs := fun hm => by
  rcases List.mem_cons.mp hm with z | z
  · exact (N q hq).2.1 z
  · obtain ⟨o, es, n, ho, _⟩ := D _ z
    rw [(N q hq).2.2] at ho; cases ho
theorem fresh_ofT {h g g' h' : Heap} {L q : Addr} {o : Obj} {as fs : List Addr} {news : List (Addr × Obj)} (G : GSub h g as) (T : KtsTurn fs g g') (N : News g' L h' news) (hm : (q, o) ∈ news) (hq : q ∉ as) : h.get? q = none := by
  cases e : h.get? q with
  | none => rfl
  | some o' =>
    obtain ⟨sl, z⟩ := T.up (G _ _ e hq)
    rw [(N _ hm).2.2] at z; cases z
theorem nwF_after (N : News h₀ L h news) (D : KtsDicts fs h₀) (T : KtsTurn fs h₀ h₀') (N' : News h₀' L h' t) (K : KeepsF as (L :: fs) h h') (hr : ∀ p ∈ rest, p ∈ news ∧ p.1 ∉ as) : News h₀' L h' (t ++ rest) := fun p hp => by
  rcases List.mem_append.mp hp with hp | hp
  · exact N' p hp
  · obtain ⟨a, b⟩ := hr p hp
    exact ⟨K _ _ (N p a).1 b (notFrame_news D N a), (N p a).2.1, T.none_ _ (N p a).2.2⟩
end
end

/-! ## M8 -/
section
local macro_rules | `(tactic| walk_at "call builtin:len") => `(tactic| (k_here; (with_reducible show wpAny _ _ (call (Value.builtin "len") [Value.ref _]) _ _ _); first
  | (k_dflt ((first | with_reducible refine' k_len_l ?l ?z ?_ | refine' k_len_l ?l ?z ?_); (case l => (first | exact Fr.keep (by k_asm) _ _ (by k_asm) | exact Fr.keep (by k_asm) _ _ (Fr.keep (by k_asm) _ _ (by k_asm)) | exact Fr.keep (by k_asm) _ _ (KtsTurn.other (by assumption) _ _ (by assumption) (by assumption)) | ((first | with_reducible refine' News.get ?N ?m | refine' News.get ?N ?m); (case N => k_asm); (case m => k_mem)))); (case z => ((try simp only [List.length_reverse, List.length_take]); omega))); k_whole; intro t' tk')
  | (k_dflt ((first | with_reducible refine' k_len_t ?l ?z ?_ | refine' k_len_t ?l ?z ?_); (case l => (first | exact Fr.keep (by k_asm) _ _ (by k_asm) | exact Fr.keep (by k_asm) _ _ (Fr.keep (by k_asm) _ _ (by k_asm)) | exact Fr.keep (by k_asm) _ _ (KtsTurn.other (by assumption) _ _ (by assumption) (by assumption)) | ((first | with_reducible refine' News.get ?N ?m | refine' News.get ?N ?m); (case N => k_asm); (case m => k_mem)))); (case z => omega)); k_whole; intro t' tk')
  | (k_dflt ((first | with_reducible refine' k_len_r ?hh ?i ?c ?l ?_ | refine' k_len_r ?hh ?i ?c ?l ?_); (case hh => rfl); (case i => k_asm); (case c => k_asm); (case l => (first | exact Fr.keep (by k_asm) _ _ (by k_asm) | exact Fr.keep (by k_asm) _ _ (Fr.keep (by k_asm) _ _ (by k_asm)) | exact Fr.keep (by k_asm) _ _ (KtsTurn.other (by assumption) _ _ (by assumption) (by assumption)) | ((first | with_reducible refine' News.get ?N ?m | refine' News.get ?N ?m); (case N => k_asm); (case m => k_mem))))); k_whole; intro h' tk' e' nx')))
local macro_rules | `(tactic| walk_at "noteFrame ref") => `(tactic| (k_here; (rename Heap.NewExc _ _ _ "TypeError" => nxX); k_dflt ((first | with_reducible refine' caughtC (T' := "TypeError") nxX ⟨?a1, ?a2, ?a3, ?a4, ?a5, ?a6⟩ ?F ?N ?ex PyProof.Rows.Boot.«TypeError» ?hn PySem.F.isExc_TypeError PySem.F.notTuple_TypeError ?hs ?_ | refine' caughtC (T' := "TypeError") nxX ⟨?a1, ?a2, ?a3, ?a4, ?a5, ?a6⟩ ?F ?N ?ex PyProof.Rows.Boot.«TypeError» ?hn PySem.F.isExc_TypeError PySem.F.notTuple_TypeError ?hs ?_); (case a1 => assumption); (case a2 => assumption); (case a3 => assumption); (case a4 => assumption); (case a5 => assumption); (case a6 => assumption); (case F => assumption); (case N => assumption); (case hs => kts_sub); (case ex => k_is); (case hn => decide); k_whole); intro h' g' T' eo' to' kT' F' N' hx' hc' kG' kK' kn1 kn2; simp only [AllNe, and_true] at kn1 kn2; (obtain ⟨B', X', P', XB', TB', D'⟩ := kG'); (try k_sweep)))
local macro_rules | `(tactic| walk_at "call type:list") => `(tactic| (k_here; (with_reducible show wpAny _ _ (call (Value.type "list") [Value.ref _]) _ _ _); k_dflt ((first | with_reducible refine' k_list_rev ?hh ?F ?N ?e ?x ?D ?i ?c ?l ?n1 ?n2 ?z ?_ | refine' k_list_rev ?hh ?F ?N ?e ?x ?D ?i ?c ?l ?n1 ?n2 ?z ?_); (case hh => rfl); (case F => k_asm); (case N => k_asm); (case e => k_mem); (case x => k_asm); (case i => k_asm); (case c => k_asm); (case l => (first | exact Fr.keep (by k_asm) _ _ (by k_asm) | exact Fr.keep (by k_asm) _ _ (Fr.keep (by k_asm) _ _ (by k_asm)) | exact Fr.keep (by k_asm) _ _ (KtsTurn.other (by assumption) _ _ (by assumption) (by assumption)) | ((first | with_reducible refine' News.get ?N ?m | refine' News.get ?N ?m); (case N => k_asm); (case m => k_mem)))); (case n1 => omega); (case n2 => k_ne); (case z => omega); (case D => (repeat' ((with_reducible show Del _ _ _ _); first | ((first | with_reducible refine' Del.head ?_ | refine' Del.head ?_); k_all) | ((first | with_reducible refine' Del.tail (by k_ne) ?_ | refine' Del.tail (by k_ne) ?_)))))); k_whole; intro S' h' tk' ep' F' N' l1 sz' kk'; (try k_lt l1); (try k_sweep)))
local macro_rules | `(tactic| walk_at "getMethod ref") => `(tactic| (k_here; (with_reducible show wpAny _ _ (getMethod (Value.ref _) (PySem.Str.ofString "_to_iterator") _) _ _ _); k_dflt ((first | with_reducible refine' meth_to_itor ?F ?X ?I ?D ?_ | refine' meth_to_itor ?F ?X ?I ?D ?_); (case F => k_asm); (case X => k_asm); (case I => k_inst); (case D => k_asm); k_whole)))
theorem reset_M8 : True := by
  w_top off
  trivial
section
variable {w : World} {p : Program} {loose : List Str} {mean : ExcName → Option Value} {mg mb : Str → Option Value}
theorem length_spec {dp un : Nat} {gd : Option (List Code)} {cn : Str} {cs : Scope} {a : Addr} {ccd : Value} {cl : List (Str × Addr)} {outer : List Env} {A₀ : Around} {base g₀ h₀ : Heap} {L : Addr} {m : Str → Option Value} {s : Shared} {R : Result → Shared → Prop}
   {x dx it l : Nat} {od io lo : Obj} {S : LS} {P : List Value} {k : Nat}
   (Γ : Gr w p loose mean mg mb A₀ base outer h₀) (T0 : KtsTurn (fsOf outer) g₀ h₀) (F : Fr h₀ L s.heap m) (hk : cs.kind = .function) (hdp : dp + 20 < recursionLimit) (hun : un + 60 < cLine)
   (N : News h₀ L s.heap [(x, instObj 255 dx), (dx, od), (it, io)]) (hS : LoopSt it l od io lo S P k) (hits : ItemsIn h₀ P) (hl : s.heap.get? l = some lo) (hs : ∀ es n, lo.data ≠ .dict es n) (h1 : x ≠ dx) (h2 : x ≠ it) (h3 : dx ≠ it) (hlx : l ≠ x) (hld : l ≠ dx) (hli : l ≠ it) (hsz : k ≤ 1000) (hidx : -1 ≤ S.idx)
   (ret : ∀ h₀' (it' l' : Nat) od' io' lo' h' tk' t, LoopSt it' l' od' io' lo' { S with len := some (k : Int), itor := .ref it' } P k → KtsTurn (fsOf outer) g₀ h₀' → Gr w p loose mean mg mb A₀ base outer h₀' → Fr h₀' L h' m → News h₀' L h' [(x, instObj 255 dx), (dx, od'), (it', io')] → KeepsF [x, dx, it] (L :: fsOf outer) s.heap h' →
     h'.get? l' = some lo' → (∀ es n, lo'.data ≠ .dict es n) → ((it' = it ∧ l' = l ∧ lo' = lo) ∨ (s.heap.get? it' = none ∧ s.heap.get? l' = none ∧ it' ≠ l')) → R (.ok (.ret (.int k t))) { s with heap := h', toks := tk' }) :
   codeAny (model PySem.Challenge.rw_bb0046_01.row.prog w) (ktrTop dp un gd cn cs L a ccd cl outer) (.call (.ref 131) ⟨[.ref x], []⟩) R s := by
  obtain ⟨⟨es, n, rfl, hD⟩, hit, ⟨us, hi, hp⟩, hlen, hcnt⟩ := hS
  obtain ⟨iterable, itor, again, depth, idx, len, aft, cur, bef, lcv⟩ := S
  dsimp only at hit hp hD ret hcnt hidx
  subst hit
  refine' enterS Γ F N ?kA ?kF ?kK ?k6 ?k7 ?k8 ?k9 ?kB ?_ ?c2 ?c3 ?c4 ?c5
  case kA => exact rfl
  case kF => exact rfl
  case kK => assumption
  case k6 => k_is
  case k7 => k_is
  case k8 => k_room
  case k9 => first | exact BindsTo.of_eq rfl | exact binds_K (by k_in) rfl (by k_is) rfl rfl rfl
  case c5 => decide
  case kB => exact locs rfl
  case c2 => exact rfl
  case c3 => exact rfl
  case c4 => exact rfl
  intro g' L' h' FG' F' N' Γ' G'
  obtain ⟨B', X', T', XB', TB', D'⟩ := Γ'
  try dsimp only
  try k_fold
  have hl' : g'.get? l = some lo := G' _ _ hl (by simp only [List.map_cons, List.map_nil, List.mem_cons, List.not_mem_nil, or_false, not_or]; exact ⟨hlx, hld, hli⟩)
  have hnf := notFrame D' hl' hs
  have hits' := hits.mono FG'.keep
  have hus : us.length ≤ k := by
    rcases hp with ⟨_, rfl⟩ | ⟨t, _, _, rfl⟩ <;> (try rw [List.length_cons] at hcnt) <;> omega
  rcases hlen with rfl | ⟨rfl, ⟨its, ep, rfl, hlo, hn⟩ | ⟨rfl, hio⟩⟩
  · k_steps
    (rename KtsTurn _ h₀ _ => kT)
    (rename Fr _ L _ m => kF)
    (rename News _ L _ _ => kN)
    exact ret _ it l _ _ _ _ _ _ ⟨⟨_, _, rfl, hD⟩, rfl, ⟨us, hi, hp⟩, .inl rfl, hcnt⟩ (T0.trans kT) ⟨by assumption, by assumption, by assumption, XB', TB', by assumption⟩ kF kN (keepsF_of G' KtsTurn.refl F') (Fr.keep F' _ _ hl') hs (.inl ⟨rfl, rfl, rfl⟩)
  · subst hn
    rcases hlo with rfl | rfl
    all_goals
      k_steps
      (rename KtsTurn _ h₀ _ => kT)
      (rename Fr _ L _ m => kF)
      (rename News _ L _ _ => kN)
      (rename Fr g' L' _ _ => kF')
      (rename LoopD _ _ => kD)
      exact ret _ it l _ _ _ _ _ _ ⟨⟨_, _, rfl, kD⟩, rfl, ⟨us, hi, hp⟩, .inl rfl, hcnt⟩ (T0.trans kT) ⟨by assumption, by assumption, by assumption, XB', TB', by assumption⟩ kF kN (keepsF_of G' KtsTurn.refl kF') (Fr.keep kF' _ _ hl') hs (.inl ⟨rfl, rfl, rfl⟩)
  · skip
    rcases hp with ⟨rfl, rfl⟩ | ⟨t, rfl, ht, rfl⟩
    · k_steps
      (rename KtsTurn (fsOf _) g' _ => kT')
      (rename KtsTurn _ h₀ _ => kT)
      (rename Fr _ L _ m => kF)
      (rename News _ L _ _ => kN)
      (rename Fr _ L' _ _ => kF')
      (rename News _ L' _ _ => kG)
      (rename LoopD _ _ => kD)
      (rename ItOf _ _ _ _ => kI)
      have e : (P.length + (idx + 1) + if false = true then 1 else 0 : Int) = k := by
        (try simp only [List.length_cons] at hcnt)
        simp
        omega
      rw [e] at kD ⊢
      have hfr : ∀ {q : Nat} {o : Obj}, (q, o) ∈ _ → x < q → dx < q → it < q → s.heap.get? q = none := fun hm a b c => fresh_ofT G' kT' kG hm (by simp only [List.map_cons, List.map_nil, List.mem_cons, List.not_mem_nil, or_false, not_or]; exact ⟨Nat.ne_of_gt a, Nat.ne_of_gt b, Nat.ne_of_gt c⟩)
      refine ret _ _ _ _ _ _ _ _ _ ⟨⟨_, _, rfl, kD⟩, rfl, ⟨_, kI, .inl ⟨rfl, rfl⟩⟩, .inl rfl, hcnt⟩ (T0.trans kT) ⟨by assumption, by assumption, by assumption, XB', TB', by assumption⟩ kF (nw_cons kN (by k_mem) (nw_two kN (by k_mem) (by k_mem))) (keepsF_of G' kT' kF') (News.get kG (by k_mem)) (fun _ _ q => by cases q) (.inr ⟨hfr (by k_mem) (by omega) (by omega) (by omega), hfr (by k_mem) (by omega) (by omega) (by omega), by omega⟩)
    · obtain ⟨_, ot, q, _, hot, hod⟩ := hits' _ (.head _)
      cases q
      have htf := notFrame D' hot hod
      k_steps
      (rename KtsTurn (fsOf _) g' _ => kT')
      (rename KtsTurn _ h₀ _ => kT)
      (rename Fr _ L _ m => kF)
      (rename News _ L _ _ => kN)
      (rename Fr _ L' _ _ => kF')
      (rename News _ L' _ _ => kG)
      (rename LoopD _ _ => kD)
      (rename ItOf _ _ _ _ => kI)
      have e : (us.length + (idx + 1) + if true = true then 1 else 0 : Int) = k := by
        (try simp only [List.length_cons] at hcnt)
        simp
        omega
      rw [e] at kD ⊢
      have hfr : ∀ {q : Nat} {o : Obj}, (q, o) ∈ _ → x < q → dx < q → it < q → s.heap.get? q = none := fun hm a b c => fresh_ofT G' kT' kG hm (by simp only [List.map_cons, List.map_nil, List.mem_cons, List.not_mem_nil, or_false, not_or]; exact ⟨Nat.ne_of_gt a, Nat.ne_of_gt b, Nat.ne_of_gt c⟩)
      refine ret _ _ _ _ _ _ _ _ _ ⟨⟨_, _, rfl, kD⟩, rfl, ⟨_, kI, .inr ⟨t, rfl, ht, rfl⟩⟩, .inl rfl, hcnt⟩ (T0.trans kT) ⟨by assumption, by assumption, by assumption, XB', TB', by assumption⟩ kF (nw_cons kN (by k_mem) (nw_two kN (by k_mem) (by k_mem))) (keepsF_of G' kT' kF') (News.get kG (by k_mem)) (fun _ _ q => by cases q) (.inr ⟨hfr (by k_mem) (by omega) (by omega) (by omega), hfr (by k_mem) (by omega) (by omega) (by omega), by omega⟩)
end

/-! ## M9 -/
theorem reset_M9 : True := by
  w_top off
  trivial
section
section
variable {w : World} {p : Program} {loose : List Str} {mean : ExcName → Option Value} {mg mb : Str → Option Value}
theorem fresh_back {h g h' : Heap} {L q : Addr} {news : List (Addr × Obj)} {m : Str → Option Value} (G : GSub h g (news.map (·.1))) (F : Fr g L h' m) (N : News g L h' news) (e : h'.get? q = none) : h.get? q = none := by
  cases z : h.get? q with
  | none => rfl
  | some o =>
    by_cases hm : q ∈ news.map (·.1)
    · obtain ⟨r, hr, rfl⟩ := List.mem_map.mp hm
      rw [(N r hr).1] at e; cases e
    · rw [F.keep _ _ (G _ _ z hm)] at e; cases e
/-- what length leaves, by its two cases: the loop's parts as they were, or a new iterator over a new list -/
theorem prop_length {dp un : Nat} {gd : Option (List Code)} {cn : Str} {cs : Scope} {a : Addr} {ccd : Value} {cl : List (Str × Addr)} {outer : List Env} {A₀ : Around} {base g₀ h₀ : Heap} {L : Addr} {m : Str → Option Value} {s : Shared} {E : Value → Shared → Prop} {Q : Value → Shared → Prop} {expr : Bool} {news r1 r2 r3 : List (Addr × Obj)} {x dx it l : Nat} {od io lo : Obj} {S : LS} {P : List Value} {k : Nat}
   (Γ : Gr w p loose mean mg mb A₀ base outer h₀) (T0 : KtsTurn (fsOf outer) g₀ h₀) (F : Fr h₀ L s.heap m) (hk : cs.kind = .function) (hdp : dp + 30 < recursionLimit) (hun : un + 80 < cLine)
   (N : News h₀ L s.heap news) (D1 : Del x (instObj 255 dx) news r1) (D2 : Del dx od r1 r2) (D3 : Del it io r2 r3) (hS : LoopSt it l od io lo S P k) (hits : ItemsIn h₀ P) (hl : s.heap.get? l = some lo) (hs : ∀ es n, lo.data ≠ .dict es n) (h1 : x ≠ dx) (h2 : x ≠ it) (h3 : dx ≠ it) (hlx : l ≠ x) (hld : l ≠ dx) (hli : l ≠ it) (hsz : k ≤ 1000) (hidx : -1 ≤ S.idx)
   (ret1 : ∀ h₀' od' io' h' tk' t, LoopSt it l od' io' lo { S with len := some (k : Int), itor := .ref it } P k → KtsTurn (fsOf outer) g₀ h₀' → Gr w p loose mean mg mb A₀ base outer h₀' → Fr h₀' L h' m → News h₀' L h' ((x, instObj 255 dx) :: (dx, od') :: (it, io') :: r3) → KeepsF [x, dx, it] (L :: fsOf outer) s.heap h' →
     Q (.int k t) { s with heap := h', toks := tk' })
   (ret2 : ∀ h₀' (it' l' : Nat) od' io' lo' h' tk' t, LoopSt it' l' od' io' lo' { S with len := some (k : Int), itor := .ref it' } P k → KtsTurn (fsOf outer) g₀ h₀' → Gr w p loose mean mg mb A₀ base outer h₀' → Fr h₀' L h' m → News h₀' L h' ((l', lo') :: (x, instObj 255 dx) :: (dx, od') :: (it', io') :: r3) → KeepsF [x, dx, it] (L :: fsOf outer) s.heap h' →
     (∀ es n, lo'.data ≠ .dict es n) → s.heap.get? it' = none → s.heap.get? l' = none → AllNe it' news → AllNe l' news → it' ≠ l' → Q (.int k t) { s with heap := h', toks := tk' }) :
   wpAny (model PySem.Challenge.rw_bb0046_01.row.prog w) (ktrTop dp un gd cn cs L a ccd cl outer) (getAttr (.ref x) "length" expr) Q E s := by
  obtain ⟨es, n, rfl, hD⟩ := hS.dict
  obtain ⟨m1, q1⟩ := D1.mem
  obtain ⟨m2, q2⟩ := D2.mem
  obtain ⟨m3, q3⟩ := D3.mem
  have N3 : News h₀ L s.heap [(x, instObj 255 dx), (dx, dictOf es n), (it, io)] := nw_cons N m1 (nw_two N (q1 _ m2).1 (q1 _ (q2 _ m3).1).1)
  refine get_prop (p := 132) (fget := 131) F Γ.X (InstAt.of_news N3 (by k_mem) (by k_mem)) (by k_is) (by k_is) (by k_is) (by k_is) (by k_is) (by k_is) ?_
  refine length_spec (un := un + 1) (g₀ := h₀) Γ KtsTurn.refl F hk (by show dp + 20 < recursionLimit; omega) (by show un + 1 + 60 < cLine; omega) N3 hS hits hl hs h1 h2 h3 hlx hld hli hsz hidx fun h₀' it' l' od' io' lo' h' tk' t a1 a2 a3 a4 a5 a6 a7 a8 a9 => ?_
  have N4 := nwF_after (rest := r3) N Γ.D a2 a5 a6 fun p hp => ⟨(q1 _ (q2 _ (q3 _ hp).1).1).1, by
    simp only [List.mem_cons, List.not_mem_nil, or_false, not_or]
    exact ⟨(q1 _ (q2 _ (q3 _ hp).1).1).2, (q2 _ (q3 _ hp).1).2, (q3 _ hp).2⟩⟩
  refine handed_on rfl ?_
  rcases a9 with ⟨rfl, rfl, rfl⟩ | ⟨e1, e2, e3⟩
  · exact ret1 h₀' od' io' h' tk' t a1 (T0.trans a2) a3 a4 N4 a6
  · have hll : l' ≠ L := fun z => by
      obtain ⟨o, _, _, ho, _⟩ := F.ns
      rw [z] at e2
      rw [show s.heap.get? L = none from e2] at ho; cases ho
    have hl0 : h₀'.get? l' = none := a2.none_ _ (by
      cases z : h₀.get? l' with
      | none => rfl
      | some o => have := F.keep _ _ z; rw [show s.heap.get? l' = none from e2] at this; cases this)
    exact ret2 h₀' it' l' od' io' lo' h' tk' t a1 (T0.trans a2) a3 a4 (List.forall_mem_cons.mpr ⟨⟨a7, hll, hl0⟩, N4⟩) a6 a8 e1 e2 (allNe_of (h := s.heap) e1 N) (allNe_of (h := s.heap) e2 N) e3
local macro_rules | `(tactic| walk_at "getAttr ref") => `(tactic| (k_here; (with_reducible show wpAny _ _ (getAttr (Value.ref _) (PySem.Str.ofString "length") _) _ _ _); k_dflt (refine' prop_length ⟨?a1, ?a2, ?a3, ?a4, ?a5, ?a6⟩ ?T0 ?F ?kk ?dp ?un ?N ?D1 ?D2 ?D3 ⟨⟨_, _, rfl, ?LD⟩, ?hi, ?hp, ?hl, ?hc⟩ ?its ?l ?s ?n1 ?n2 ?n3 ?n4 ?n5 ?n6 ?z ?i ?r1 ?r2; (case F => k_asm); (case LD => k_asm); (case a1 => assumption); (case a2 => k_asm); (case a3 => k_asm); (case a4 => assumption); (case a5 => assumption); (case a6 => assumption); (case T0 => first | assumption | exact KtsTurn.refl); (case kk => exact rfl); (case dp => ((try dsimp only [ktrTop]); omega)); (case un => ((try simp only [units_in1, units_deeper, Around.mark_units, units_caller]); (try dsimp only [ktrTop]); omega)); (case N => k_asm); (case D1 => (repeat' first | (refine' Del.head ?_; k_all) | (refine' Del.tail ?t1 ?t2; (case t1 => k_ne)))); (case D2 => (repeat' first | (refine' Del.head ?_; k_all) | (refine' Del.tail ?t1 ?t2; (case t1 => k_ne)))); (case D3 => (repeat' first | (refine' Del.head ?_; k_all) | (refine' Del.tail ?t1 ?t2; (case t1 => k_ne)))); (case hi => exact rfl); (case hp => assumption); (case hl => assumption); (case hc => assumption); (case its => assumption); (case l => (first | exact Fr.keep (by k_asm) _ _ (by k_asm) | exact Fr.keep (by k_asm) _ _ (Fr.keep (by k_asm) _ _ (by k_asm)) | exact Fr.keep (by k_asm) _ _ (KtsTurn.other (by assumption) _ _ (by assumption) (by assumption)) | (refine' News.get ?N ?m; (case N => k_asm); (case m => k_mem)))); (case s => assumption); (case n1 => omega); (case n2 => omega); (case n3 => omega); (case n4 => omega); (case n5 => omega); (case n6 => omega); (case z => omega); (case i => omega)); k_whole; (all_goals first | (intro h₀' it' l' od' io' lo' h' tk' t' st' kT' kG' F' N' K' hs' e1' e2' ne1' ne2' ne3'; (obtain ⟨⟨es', n', hE', hD'⟩, hit', hpd', hlen', hcnt'⟩ := st'); subst hE'; (obtain ⟨B', X', P', XB', TB', D'⟩ := kG'); (simp only [AllNe, and_true] at ne1' ne2'); (try dsimp only at hpd' hlen' hcnt' hD'); (try k_sweep)) | (intro h₀' od' io' h' tk' t' st' kT' kG' F' N' K'; (obtain ⟨⟨es', n', hE', hD'⟩, hit', hpd', hlen', hcnt'⟩ := st'); subst hE'; (obtain ⟨B', X', P', XB', TB', D'⟩ := kG'); (try dsimp only at hpd' hlen' hcnt' hD'); (try k_sweep)))))
theorem dlen_spec {dp un : Nat} {gd : Option (List Code)} {cn : Str} {cs : Scope} {a : Addr} {ccd : Value} {cl : List (Str × Addr)} {outer : List Env} {A₀ : Around} {base g₀ h₀ : Heap} {L : Addr} {m : Str → Option Value} {s : Shared} {R : Result → Shared → Prop} {x dx it l : Nat} {od io lo : Obj} {S : LS} {P : List Value} {k : Nat}
   (Γ : Gr w p loose mean mg mb A₀ base outer h₀) (T0 : KtsTurn (fsOf outer) g₀ h₀) (F : Fr h₀ L s.heap m) (hk : cs.kind = .function) (hdp : dp + 40 < recursionLimit) (hun : un + 120 < cLine) (N : News h₀ L s.heap [(x, instObj 255 dx), (dx, od), (it, io)]) (hS : LoopSt it l od io lo S P k) (hits : ItemsIn h₀ P) (hl : s.heap.get? l = some lo) (hs : ∀ es n, lo.data ≠ .dict es n) (h1 : x ≠ dx) (h2 : x ≠ it) (h3 : dx ≠ it) (hlx : l ≠ x) (hld : l ≠ dx) (hli : l ≠ it) (hsz : k ≤ 1000) (hidx : -1 ≤ S.idx)
   (ret : ∀ h₀' (it' l' : Nat) od' io' lo' h' tk' t, LoopSt it' l' od' io' lo' { S with len := some (k : Int), itor := .ref it' } P k → KtsTurn (fsOf outer) g₀ h₀' → Gr w p loose mean mg mb A₀ base outer h₀' → Fr h₀' L h' m → News h₀' L h' [(x, instObj 255 dx), (dx, od'), (it', io')] → KeepsF [x, dx, it] (L :: fsOf outer) s.heap h' →
     h'.get? l' = some lo' → (∀ es n, lo'.data ≠ .dict es n) → ((it' = it ∧ l' = l ∧ lo' = lo) ∨ (s.heap.get? it' = none ∧ s.heap.get? l' = none ∧ it' ≠ l')) → R (.ok (.ret (.int (k) t))) { s with heap := h', toks := tk' }) :
   codeAny (model PySem.Challenge.rw_bb0046_01.row.prog w) (ktrTop dp un gd cn cs L a ccd cl outer) (.call (.ref 139) ⟨[.ref x], []⟩) R s := by
  obtain ⟨⟨es, n, rfl, hD⟩, hit, hpd, hlen, hcnt⟩ := hS
  obtain ⟨iterable, itor, again, depth, idx, len, aft, cur, bef, lcv⟩ := S
  dsimp only at hit hpd hD ret hcnt hidx
  subst hit
  refine' enterS Γ F N ?kA ?kF ?kK ?k6 ?k7 ?k8 ?k9 ?kB ?_ ?c2 ?c3 ?c4 ?c5
  case kA => exact rfl
  case kF => exact rfl
  case kK => assumption
  case k6 => k_is
  case k7 => k_is
  case k8 => k_room
  case k9 => first | exact BindsTo.of_eq rfl | exact binds_K (by k_in) rfl (by k_is) rfl rfl rfl
  case c5 => decide
  case kB => exact locs rfl
  case c2 => exact rfl
  case c3 => exact rfl
  case c4 => exact rfl
  intro g' L' h' FG' F' N' Γ' G'
  obtain ⟨B', X', T', XB', TB', D'⟩ := Γ'
  try dsimp only
  try k_fold
  have hl' : g'.get? l = some lo := G' _ _ hl (by simp only [List.map_cons, List.map_nil, List.mem_cons, List.not_mem_nil, or_false, not_or]; exact ⟨hlx, hld, hli⟩)
  have hnf := notFrame D' hl' hs
  have hits' := hits.mono FG'.keep
  k_steps
  · (rename KtsTurn (fsOf _) g' _ => kT')
    (rename KtsTurn _ h₀ _ => kT)
    (rename Fr _ L _ m => kF)
    (rename News _ L _ _ => kN)
    (rename Fr _ L' _ _ => kF')
    (rename LoopD _ _ => kD)
    exact ret _ _ _ _ _ _ _ _ _ ⟨⟨_, _, rfl, kD⟩, rfl, by assumption, .inl rfl, hcnt⟩ (T0.trans kT) ⟨by assumption, by assumption, by assumption, XB', TB', by assumption⟩ kF kN (keepsF_of G' kT' kF') (Fr.keep kF' _ _ (kT'.other _ _ hl' hnf)) hs (.inl ⟨rfl, rfl, rfl⟩)
  · (rename KtsTurn (fsOf _) g' _ => kT')
    (rename KtsTurn _ h₀ _ => kT)
    (rename Fr _ L _ m => kF)
    (rename News _ L _ _ => kN)
    (rename Fr _ L' _ _ => kF')
    (rename LoopD _ _ => kD)
    refine ret _ _ _ _ _ _ _ _ _ ⟨⟨_, _, rfl, kD⟩, rfl, by assumption, .inl rfl, hcnt⟩ (T0.trans kT) ⟨by assumption, by assumption, by assumption, XB', TB', by assumption⟩ kF (nw_sub kN fun p hp => List.mem_cons_of_mem _ hp) (keepsF_of G' kT' kF') (News.get kN (by k_mem)) (by assumption) (.inr ⟨fresh_back G' F' N' (by assumption), fresh_back G' F' N' (by assumption), by assumption⟩)
theorem revindex0_spec {dp un : Nat} {gd : Option (List Code)} {cn : Str} {cs : Scope} {a : Addr} {ccd : Value} {cl : List (Str × Addr)} {outer : List Env} {A₀ : Around} {base g₀ h₀ : Heap} {L : Addr} {m : Str → Option Value} {s : Shared} {R : Result → Shared → Prop} {x dx it l : Nat} {od io lo : Obj} {S : LS} {P : List Value} {k : Nat}
   (Γ : Gr w p loose mean mg mb A₀ base outer h₀) (T0 : KtsTurn (fsOf outer) g₀ h₀) (F : Fr h₀ L s.heap m) (hk : cs.kind = .function) (hdp : dp + 40 < recursionLimit) (hun : un + 120 < cLine) (N : News h₀ L s.heap [(x, instObj 255 dx), (dx, od), (it, io)]) (hS : LoopSt it l od io lo S P k) (hits : ItemsIn h₀ P) (hl : s.heap.get? l = some lo) (hs : ∀ es n, lo.data ≠ .dict es n) (h1 : x ≠ dx) (h2 : x ≠ it) (h3 : dx ≠ it) (hlx : l ≠ x) (hld : l ≠ dx) (hli : l ≠ it) (hsz : k ≤ 1000) (hidx : -1 ≤ S.idx)
   (ret : ∀ h₀' (it' l' : Nat) od' io' lo' h' tk' t, LoopSt it' l' od' io' lo' { S with len := some (k : Int), itor := .ref it' } P k → KtsTurn (fsOf outer) g₀ h₀' → Gr w p loose mean mg mb A₀ base outer h₀' → Fr h₀' L h' m → News h₀' L h' [(x, instObj 255 dx), (dx, od'), (it', io')] → KeepsF [x, dx, it] (L :: fsOf outer) s.heap h' →
     h'.get? l' = some lo' → (∀ es n, lo'.data ≠ .dict es n) → ((it' = it ∧ l' = l ∧ lo' = lo) ∨ (s.heap.get? it' = none ∧ s.heap.get? l' = none ∧ it' ≠ l')) → R (.ok (.ret (.int (k - (S.idx + 1)) t))) { s with heap := h', toks := tk' }) :
   codeAny (model PySem.Challenge.rw_bb0046_01.row.prog w) (ktrTop dp un gd cn cs L a ccd cl outer) (.call (.ref 162) ⟨[.ref x], []⟩) R s := by
  obtain ⟨⟨es, n, rfl, hD⟩, hit, hpd, hlen, hcnt⟩ := hS
  obtain ⟨iterable, itor, again, depth, idx, len, aft, cur, bef, lcv⟩ := S
  dsimp only at hit hpd hD ret hcnt hidx
  subst hit
  refine' enterS Γ F N ?kA ?kF ?kK ?k6 ?k7 ?k8 ?k9 ?kB ?_ ?c2 ?c3 ?c4 ?c5
  case kA => exact rfl
  case kF => exact rfl
  case kK => assumption
  case k6 => k_is
  case k7 => k_is
  case k8 => k_room
  case k9 => first | exact BindsTo.of_eq rfl | exact binds_K (by k_in) rfl (by k_is) rfl rfl rfl
  case c5 => decide
  case kB => exact locs rfl
  case c2 => exact rfl
  case c3 => exact rfl
  case c4 => exact rfl
  intro g' L' h' FG' F' N' Γ' G'
  obtain ⟨B', X', T', XB', TB', D'⟩ := Γ'
  try dsimp only
  try k_fold
  have hl' : g'.get? l = some lo := G' _ _ hl (by simp only [List.map_cons, List.map_nil, List.mem_cons, List.not_mem_nil, or_false, not_or]; exact ⟨hlx, hld, hli⟩)
  have hnf := notFrame D' hl' hs
  have hits' := hits.mono FG'.keep
  k_steps
  · (rename KtsTurn (fsOf _) g' _ => kT')
    (rename KtsTurn _ h₀ _ => kT)
    (rename Fr _ L _ m => kF)
    (rename News _ L _ _ => kN)
    (rename Fr _ L' _ _ => kF')
    (rename LoopD _ _ => kD)
    exact ret _ _ _ _ _ _ _ _ _ ⟨⟨_, _, rfl, kD⟩, rfl, by assumption, .inl rfl, hcnt⟩ (T0.trans kT) ⟨by assumption, by assumption, by assumption, XB', TB', by assumption⟩ kF kN (keepsF_of G' kT' kF') (Fr.keep kF' _ _ (kT'.other _ _ hl' hnf)) hs (.inl ⟨rfl, rfl, rfl⟩)
  · (rename KtsTurn (fsOf _) g' _ => kT')
    (rename KtsTurn _ h₀ _ => kT)
    (rename Fr _ L _ m => kF)
    (rename News _ L _ _ => kN)
    (rename Fr _ L' _ _ => kF')
    (rename LoopD _ _ => kD)
    refine ret _ _ _ _ _ _ _ _ _ ⟨⟨_, _, rfl, kD⟩, rfl, by assumption, .inl rfl, hcnt⟩ (T0.trans kT) ⟨by assumption, by assumption, by assumption, XB', TB', by assumption⟩ kF (nw_sub kN fun p hp => List.mem_cons_of_mem _ hp) (keepsF_of G' kT' kF') (News.get kN (by k_mem)) (by assumption) (.inr ⟨fresh_back G' F' N' (by assumption), fresh_back G' F' N' (by assumption), by assumption⟩)
theorem revindex_spec {dp un : Nat} {gd : Option (List Code)} {cn : Str} {cs : Scope} {a : Addr} {ccd : Value} {cl : List (Str × Addr)} {outer : List Env} {A₀ : Around} {base g₀ h₀ : Heap} {L : Addr} {m : Str → Option Value} {s : Shared} {R : Result → Shared → Prop} {x dx it l : Nat} {od io lo : Obj} {S : LS} {P : List Value} {k : Nat}
   (Γ : Gr w p loose mean mg mb A₀ base outer h₀) (T0 : KtsTurn (fsOf outer) g₀ h₀) (F : Fr h₀ L s.heap m) (hk : cs.kind = .function) (hdp : dp + 40 < recursionLimit) (hun : un + 120 < cLine) (N : News h₀ L s.heap [(x, instObj 255 dx), (dx, od), (it, io)]) (hS : LoopSt it l od io lo S P k) (hits : ItemsIn h₀ P) (hl : s.heap.get? l = some lo) (hs : ∀ es n, lo.data ≠ .dict es n) (h1 : x ≠ dx) (h2 : x ≠ it) (h3 : dx ≠ it) (hlx : l ≠ x) (hld : l ≠ dx) (hli : l ≠ it) (hsz : k ≤ 1000) (hidx : -1 ≤ S.idx)
   (ret : ∀ h₀' (it' l' : Nat) od' io' lo' h' tk' t, LoopSt it' l' od' io' lo' { S with len := some (k : Int), itor := .ref it' } P k → KtsTurn (fsOf outer) g₀ h₀' → Gr w p loose mean mg mb A₀ base outer h₀' → Fr h₀' L h' m → News h₀' L h' [(x, instObj 255 dx), (dx, od'), (it', io')] → KeepsF [x, dx, it] (L :: fsOf outer) s.heap h' →
     h'.get? l' = some lo' → (∀ es n, lo'.data ≠ .dict es n) → ((it' = it ∧ l' = l ∧ lo' = lo) ∨ (s.heap.get? it' = none ∧ s.heap.get? l' = none ∧ it' ≠ l')) → R (.ok (.ret (.int (k - S.idx) t))) { s with heap := h', toks := tk' }) :
   codeAny (model PySem.Challenge.rw_bb0046_01.row.prog w) (ktrTop dp un gd cn cs L a ccd cl outer) (.call (.ref 170) ⟨[.ref x], []⟩) R s := by
  obtain ⟨⟨es, n, rfl, hD⟩, hit, hpd, hlen, hcnt⟩ := hS
  obtain ⟨iterable, itor, again, depth, idx, len, aft, cur, bef, lcv⟩ := S
  dsimp only at hit hpd hD ret hcnt hidx
  subst hit
  refine' enterS Γ F N ?kA ?kF ?kK ?k6 ?k7 ?k8 ?k9 ?kB ?_ ?c2 ?c3 ?c4 ?c5
  case kA => exact rfl
  case kF => exact rfl
  case kK => assumption
  case k6 => k_is
  case k7 => k_is
  case k8 => k_room
  case k9 => first | exact BindsTo.of_eq rfl | exact binds_K (by k_in) rfl (by k_is) rfl rfl rfl
  case c5 => decide
  case kB => exact locs rfl
  case c2 => exact rfl
  case c3 => exact rfl
  case c4 => exact rfl
  intro g' L' h' FG' F' N' Γ' G'
  obtain ⟨B', X', T', XB', TB', D'⟩ := Γ'
  try dsimp only
  try k_fold
  have hl' : g'.get? l = some lo := G' _ _ hl (by simp only [List.map_cons, List.map_nil, List.mem_cons, List.not_mem_nil, or_false, not_or]; exact ⟨hlx, hld, hli⟩)
  have hnf := notFrame D' hl' hs
  have hits' := hits.mono FG'.keep
  k_steps
  · (rename KtsTurn (fsOf _) g' _ => kT')
    (rename KtsTurn _ h₀ _ => kT)
    (rename Fr _ L _ m => kF)
    (rename News _ L _ _ => kN)
    (rename Fr _ L' _ _ => kF')
    (rename LoopD _ _ => kD)
    exact ret _ _ _ _ _ _ _ _ _ ⟨⟨_, _, rfl, kD⟩, rfl, by assumption, .inl rfl, hcnt⟩ (T0.trans kT) ⟨by assumption, by assumption, by assumption, XB', TB', by assumption⟩ kF kN (keepsF_of G' kT' kF') (Fr.keep kF' _ _ (kT'.other _ _ hl' hnf)) hs (.inl ⟨rfl, rfl, rfl⟩)
  · (rename KtsTurn (fsOf _) g' _ => kT')
    (rename KtsTurn _ h₀ _ => kT)
    (rename Fr _ L _ m => kF)
    (rename News _ L _ _ => kN)
    (rename Fr _ L' _ _ => kF')
    (rename LoopD _ _ => kD)
    refine ret _ _ _ _ _ _ _ _ _ ⟨⟨_, _, rfl, kD⟩, rfl, by assumption, .inl rfl, hcnt⟩ (T0.trans kT) ⟨by assumption, by assumption, by assumption, XB', TB', by assumption⟩ kF (nw_sub kN fun p hp => List.mem_cons_of_mem _ hp) (keepsF_of G' kT' kF') (News.get kN (by k_mem)) (by assumption) (.inr ⟨fresh_back G' F' N' (by assumption), fresh_back G' F' N' (by assumption), by assumption⟩)
end
end

/-! ## MA -/
inductive Ans | i (n : Int) | b (x : Bool) | s (x : Str)
def IsAns (v : Value) : Ans → Prop
  | .i n => ∃ t, v = .int n t
  | .b x => v = .bool x
  | .s x => ∃ t, v = .str x t
/-- the items of a row, and their numbers -/
def ItemAt (h : Heap) (v : Value) (n : Int) : Prop := ∃ (t lb : Nat) (tk : Tok), v = .ref t ∧ t ≠ 92 ∧ h.get? t = some (tupOf #[.int n tk, .ref lb] 0)
inductive RowNums (h : Heap) : List Value → List Int → Prop
  | nil : RowNums h [] []
  | cons {v vs n ns} : ItemAt h v n → RowNums h vs ns → RowNums h (v :: vs) (n :: ns)
theorem ItemAt.mono {h h' : Heap} (k : ∀ t its n, h.get? t = some (tupOf its n) → h'.get? t = some (tupOf its n)) {v : Value} {n : Int} : ItemAt h v n → ItemAt h' v n
  | ⟨t, lb, tk, e, n, q⟩ => ⟨t, lb, tk, e, n, k _ _ _ q⟩
theorem RowNums.mono {h h' : Heap} (k : ∀ t its n, h.get? t = some (tupOf its n) → h'.get? t = some (tupOf its n)) : ∀ {vs : List Value} {ns : List Int}, RowNums h vs ns → RowNums h' vs ns
  | _, _, .nil => .nil
  | _, _, .cons a r => .cons (a.mono k) (r.mono k)
def LcvOk (h : Heap) (lcv : Value) : Option Int → Prop
  | none => lcv = .ref 92
  | some v => ∃ (tv : Nat) (t : Tok), lcv = .ref tv ∧ tv ≠ 92 ∧ h.get? tv = some (tupOf #[.int v t] 0)
theorem LcvOk.mono {h h' : Heap} (k : ∀ t its n, h.get? t = some (tupOf its n) → h'.get? t = some (tupOf its n)) {v : Value} : ∀ {o : Option Int}, LcvOk h v o → LcvOk h' v o
  | none, q => q
  | some _, ⟨tv, t, a, b, c⟩ => ⟨tv, t, a, b, k _ _ _ c⟩
structure LoopKeep (S S' : LS) : Prop where
  idx : S'.idx = S.idx
  depth : S'.depth = S.depth
  again : S'.again = S.again
  cur : S'.cur = S.cur
  bef : S'.bef = S.bef
def abc (i : Int) : Str := if i = 0 then "a" else if i = 1 then "b" else "c"
def askAns (idx depth bn : Int) (Pn : List Int) (k : Nat) (which : Int) : Ans :=
  if which = 0 then .i (idx + 1) else if which = 1 then .i idx else if which = 2 then .b (idx == 0) else if which = 3 then .b Pn.isEmpty else if which = 4 then .i k
  else if which = 5 then .i (k - idx) else if which = 6 then .i (k - (idx + 1)) else if which = 7 then .i ((depth + 1) * 10 + depth)
  else if which = 8 then (if idx = 0 then .s "none" else .i bn) else if which = 9 then (match Pn with | [] => .s "none" | n :: _ => .i n)
  else if which = 10 then .s (abc (idx % 3)) else .i k
/-- a tuple is none of the ledger's objects, when they are no tuples -/
theorem tup_off {h₀ h : Heap} {L t : Addr} {news : List (Addr × Obj)} {its : Array Value} {n : Nat} (N : News h₀ L h news) (hn : ∀ q ∈ news, q.2.cls ≠ .type "tuple") (ht : h.get? t = some (tupOf its n)) : t ∉ news.map (·.1) := fun hm => by
  obtain ⟨r, hr, rfl⟩ := List.mem_map.mp hm
  have := (N r hr).1
  rw [ht] at this
  exact hn r hr (by rw [← Option.some.inj this])
theorem ItOf.notTup {l : Addr} {lo io : Obj} {us : List Value} (h : ItOf l lo io us) : io.cls ≠ .type "tuple" := by
  cases h <;> exact fun q => absurd (Value.type.inj q) (by decide)
theorem tri_notTup {it l x dx : Nat} {od io lo : Obj} {S : LS} {P : List Value} {k : Nat} (hS : LoopSt it l od io lo S P k) : ∀ q ∈ [(x, instObj 255 dx), (dx, od), (it, io)], q.2.cls ≠ .type "tuple" := by
  obtain ⟨es, n, rfl, _⟩ := hS.dict
  obtain ⟨us, hi, _⟩ := hS.pend
  intro q hq
  rcases List.mem_cons.mp hq with rfl | hq
  · intro z; cases z
  rcases List.mem_cons.mp hq with rfl | hq
  · exact fun z => absurd (Value.type.inj z) (by decide)
  rcases List.mem_cons.mp hq with rfl | hq
  · exact hi.notTup
  · cases hq

/-! ## MB -/
section
local macro_rules | `(tactic| k_in) => `(tactic| first | with_reducible assumption | exact Frag.In.keeps (by with_reducible assumption) (Fr.keep (by with_reducible assumption)))
local macro_rules | `(tactic| walk_at "call builtin:isinstance") => `(tactic| (k_here; (with_reducible show wpAny _ _ (call _ [Value.ref _, Value.ref 364]) _ _ _); k_dflt ((first | with_reducible refine' isn_tup ?F ?X ?t ?_ | refine' isn_tup ?F ?X ?t ?_); (case F => k_asm); (case X => k_asm); (case t => (first | exact Fr.keep (by k_asm) _ _ (by k_asm) | exact Fr.keep (by k_asm) _ _ (Fr.keep (by k_asm) _ _ (by k_asm)) | exact Fr.keep (by k_asm) _ _ (KtsTurn.other (by assumption) _ _ (by assumption) (by assumption)) | ((first | with_reducible refine' News.get ?N ?m | refine' News.get ?N ?m); (case N => k_asm); (case m => k_mem)))); k_whole)))
local macro_rules | `(tactic| walk_at "subscriptTail") => `(tactic| (k_here; (with_reducible show wpAny _ _ (subscriptTail _ _ (Value.ref _) (Value.int 0 _)) _ _ _); (with_unfolding_all (first | with_reducible refine' k_item0 ?t ?_ ?k6 | refine' k_item0 ?t ?_ ?k6); (case t => (first | exact Fr.keep (by k_asm) _ _ (by k_asm) | exact Fr.keep (by k_asm) _ _ (Fr.keep (by k_asm) _ _ (by k_asm)) | exact Fr.keep (by k_asm) _ _ (KtsTurn.other (by assumption) _ _ (by assumption) (by assumption)) | ((first | with_reducible refine' News.get ?N ?m | refine' News.get ?N ?m); (case N => k_asm); (case m => k_mem)))); (case k6 => with_unfolding_all rfl); k_whole)))
local macro_rules | `(tactic| walk_at "subscriptTail Name Constant ref int") => `(tactic| (k_here; (with_reducible show wpAny _ _ (subscriptTail _ _ (Value.ref _) (Value.int 0 _)) _ _ _); (with_unfolding_all (first | with_reducible refine' k_item0 ?t ?_ ?k6 | refine' k_item0 ?t ?_ ?k6); (case t => (first | exact Fr.keep (by k_asm) _ _ (by k_asm) | exact Fr.keep (by k_asm) _ _ (Fr.keep (by k_asm) _ _ (by k_asm)) | exact Fr.keep (by k_asm) _ _ (KtsTurn.other (by assumption) _ _ (by assumption) (by assumption)) | ((first | with_reducible refine' News.get ?N ?m | refine' News.get ?N ?m); (case N => k_asm); (case m => k_mem)))); (case k6 => with_unfolding_all rfl); k_whole)))
local macro_rules | `(tactic| walk_at "subscriptTail Subscript") => `(tactic| (k_here; (with_reducible show wpAny _ _ (subscriptTail _ _ (Value.ref _) (Value.int 0 _)) _ _ _); (with_unfolding_all (first | with_reducible refine' k_item0 ?t ?_ ?k6 | refine' k_item0 ?t ?_ ?k6); (case t => (first | exact Fr.keep (by k_asm) _ _ (by k_asm) | exact Fr.keep (by k_asm) _ _ (Fr.keep (by k_asm) _ _ (by k_asm)) | exact Fr.keep (by k_asm) _ _ (KtsTurn.other (by assumption) _ _ (by assumption) (by assumption)) | ((first | with_reducible refine' News.get ?N ?m | refine' News.get ?N ?m); (case N => k_asm); (case m => k_mem)))); (case k6 => with_unfolding_all rfl); k_whole)))
local macro_rules | `(tactic| walk_at "subscriptTail") => `(tactic| (k_here; (with_reducible show wpAny _ _ (subscriptTail _ _ (Value.ref _) (Value.int 1 _)) _ _ _); (with_unfolding_all (first | with_reducible refine' k_item1 ?t ?_ ?k6 | refine' k_item1 ?t ?_ ?k6); (case t => (first | exact Fr.keep (by k_asm) _ _ (by k_asm) | exact Fr.keep (by k_asm) _ _ (Fr.keep (by k_asm) _ _ (by k_asm)) | exact Fr.keep (by k_asm) _ _ (KtsTurn.other (by assumption) _ _ (by assumption) (by assumption)) | ((first | with_reducible refine' News.get ?N ?m | refine' News.get ?N ?m); (case N => k_asm); (case m => k_mem)))); (case k6 => with_unfolding_all rfl); k_whole)))
local macro_rules | `(tactic| walk_at "subscriptTail Name Constant ref int") => `(tactic| (k_here; (with_reducible show wpAny _ _ (subscriptTail _ _ (Value.ref _) (Value.int 1 _)) _ _ _); (with_unfolding_all (first | with_reducible refine' k_item1 ?t ?_ ?k6 | refine' k_item1 ?t ?_ ?k6); (case t => (first | exact Fr.keep (by k_asm) _ _ (by k_asm) | exact Fr.keep (by k_asm) _ _ (Fr.keep (by k_asm) _ _ (by k_asm)) | exact Fr.keep (by k_asm) _ _ (KtsTurn.other (by assumption) _ _ (by assumption) (by assumption)) | ((first | with_reducible refine' News.get ?N ?m | refine' News.get ?N ?m); (case N => k_asm); (case m => k_mem)))); (case k6 => with_unfolding_all rfl); k_whole)))
local macro_rules | `(tactic| walk_at "subscriptTail Subscript") => `(tactic| (k_here; (with_reducible show wpAny _ _ (subscriptTail _ _ (Value.ref _) (Value.int 1 _)) _ _ _); (with_unfolding_all (first | with_reducible refine' k_item1 ?t ?_ ?k6 | refine' k_item1 ?t ?_ ?k6); (case t => (first | exact Fr.keep (by k_asm) _ _ (by k_asm) | exact Fr.keep (by k_asm) _ _ (Fr.keep (by k_asm) _ _ (by k_asm)) | exact Fr.keep (by k_asm) _ _ (KtsTurn.other (by assumption) _ _ (by assumption) (by assumption)) | ((first | with_reducible refine' News.get ?N ?m | refine' News.get ?N ?m); (case N => k_asm); (case m => k_mem)))); (case k6 => with_unfolding_all rfl); k_whole)))
local macro_rules | `(tactic| walk_at "getMethod ref") => `(tactic| (k_here; (with_reducible show wpAny _ _ (getMethod (Value.ref _) (PySem.Str.ofString "_undefined") _) _ _ _); k_dflt ((first | with_reducible refine' meth_und ?F ?X ?I ?D ?_ | refine' meth_und ?F ?X ?I ?D ?_); (case F => k_asm); (case X => k_asm); (case I => k_inst); (case D => k_asm); k_whole)))
local macro_rules | `(tactic| walk_at "getMethod ref") => `(tactic| (k_here; (with_reducible show wpAny _ _ (getMethod (Value.ref _) (PySem.Str.ofString "_recurse") _) _ _ _); k_dflt ((first | with_reducible refine' meth_again ?F ?X ?I ?D ?v ?_ | refine' meth_again ?F ?X ?I ?D ?v ?_); (case F => k_asm); (case X => k_asm); (case I => k_inst); (case D => k_asm); (case v => rfl); k_whole; (try dsimp only))))
theorem reset_MB : True := by
  w_top off
  trivial
section
variable {w : World} {p : Program} {loose : List Str} {mean : ExcName → Option Value} {mg mb : Str → Option Value}
theorem askedA {dp un : Nat} {gd : Option (List Code)} {cn : Str} {cs : Scope} {a : Addr} {ccd : Value} {cl : List (Str × Addr)} {outer : List Env} {A₀ : Around} {base g₀ h₀ : Heap} {L : Addr} {m : Str → Option Value} {s : Shared} {R : Result → Shared → Prop} {x dx it l : Nat} {od io lo : Obj} {S : LS} {P : List Value} {Pn : List Int} {bn : Int} {k : Nat} {which value : Int} {tw tv : Tok} (Γ : Gr w p loose mean mg mb A₀ base outer h₀) (T0 : KtsTurn (fsOf outer) g₀ h₀) (F : Fr h₀ L s.heap m) (hk : cs.kind = .function) (hdp : dp + 60 < recursionLimit) (hun : un + 300 < cLine) (N : News h₀ L s.heap [(x, instObj 255 dx), (dx, od), (it, io)]) (hS : LoopSt it l od io lo S P k) (hits : ItemsIn h₀ P) (hl : s.heap.get? l = some lo) (hs : ∀ es n, lo.data ≠ .dict es n) (h1 : x ≠ dx) (h2 : x ≠ it) (h3 : dx ≠ it) (hlx : l ≠ x) (hld : l ≠ dx) (hli : l ≠ it) (hsz : k ≤ 1000) (hidx : -1 ≤ S.idx)
   (hP : RowNums s.heap P Pn) (hb : 0 < S.idx → ItemAt s.heap S.bef bn) (hbr : ∃ t : Nat, S.bef = .ref t)
   (ret : ∀ h₀' (it' l' : Nat) od' io' lo' S' h' tk' v, LoopSt it' l' od' io' lo' S' P k → LoopKeep S S' → S'.lcv = S.lcv → IsAns v (askAns S.idx S.depth bn Pn k which) → KtsTurn (fsOf outer) g₀ h₀' → Gr w p loose mean mg mb A₀ base outer h₀' → Fr h₀' L h' m → News h₀' L h' [(x, instObj 255 dx), (dx, od'), (it', io')] → KeepsF [x, dx, it] (L :: fsOf outer) s.heap h' →
     h'.get? l' = some lo' → (∀ es n, lo'.data ≠ .dict es n) → ((it' = it ∧ l' = l ∧ lo' = lo) ∨ (s.heap.get? it' = none ∧ s.heap.get? l' = none ∧ it' ≠ l')) → R (.ok (.ret v)) { s with heap := h', toks := tk' }) (hw : which = 0 ∨ which = 1 ∨ which = 2 ∨ which = 7) : codeAny (model PySem.Challenge.rw_bb0046_01.row.prog w) (ktrTop dp un gd cn cs L a ccd cl outer) (.call (.ref 391) ⟨[.ref x, .int which tw, .int value tv], []⟩) R s := by
  obtain ⟨⟨es, n, rfl, hD⟩, hit, hpd, hlen, hcnt⟩ := hS
  obtain ⟨iterable, itor, again, depth, idx, len, aft, cur, bef, lcv⟩ := S
  dsimp only at hit hpd hD ret hcnt hidx hb
  subst hit
  refine' enterS Γ F N ?kA ?kF ?kK ?k6 ?k7 ?k8 ?k9 ?kB ?_ ?c2 ?c3 ?c4 ?c5
  case kA => exact rfl
  case kF => exact rfl
  case kK => assumption
  case k6 => k_is
  case k7 => k_is
  case k8 => k_room
  case k9 => first | exact BindsTo.of_eq rfl | exact binds_K (by k_in) rfl (by k_is) rfl rfl rfl
  case c5 => decide
  case kB => exact locs rfl
  case c2 => exact rfl
  case c3 => exact rfl
  case c4 => exact rfl
  intro g' L' h' FG' F' N' Γ' G'
  obtain ⟨B', X', T', XB', TB', D'⟩ := Γ'
  try dsimp only
  try k_fold
  obtain ⟨mf, FX, hv1, hv2, hv3⟩ := frNamed F' (fun m => m (Str.ofString "loop") = some (.ref x) ∧ m (Str.ofString "which") = some (.int which tw) ∧ m (Str.ofString "value") = some (.int value tv)) ⟨by kernel_rfl, by kernel_rfl, by kernel_rfl⟩
  clear F'
  have F' := FX
  clear FX
  have hl' : g'.get? l = some lo := G' _ _ hl (by simp only [List.map_cons, List.map_nil, List.mem_cons, List.not_mem_nil, or_false, not_or]; exact ⟨hlx, hld, hli⟩)
  have hnf := notFrame D' hl' hs
  have hits' := hits.mono FG'.keep
  rcases hw with rfl | rfl | rfl | rfl
  all_goals
    k_steps
    (rename KtsTurn _ h₀ _ => kT)
    (rename Fr _ L _ m => kF)
    (rename News _ L _ _ => kN)
    (rename Fr g' L' _ _ => kF')
    exact ret _ it l _ _ _ _ _ _ _ ⟨⟨_, _, rfl, hD⟩, rfl, hpd, hlen, hcnt⟩ ⟨rfl, rfl, rfl, rfl, rfl⟩ rfl (by first | exact ⟨_, rfl⟩ | exact rfl) (T0.trans kT) ⟨by assumption, by assumption, by assumption, XB', TB', by assumption⟩ kF kN (keepsF_of G' KtsTurn.refl kF') (Fr.keep kF' _ _ hl') hs (.inl ⟨rfl, rfl, rfl⟩)
theorem askedC {dp un : Nat} {gd : Option (List Code)} {cn : Str} {cs : Scope} {a : Addr} {ccd : Value} {cl : List (Str × Addr)} {outer : List Env} {A₀ : Around} {base g₀ h₀ : Heap} {L : Addr} {m : Str → Option Value} {s : Shared} {R : Result → Shared → Prop} {x dx it l : Nat} {od io lo : Obj} {S : LS} {P : List Value} {Pn : List Int} {bn : Int} {k : Nat} {which value : Int} {tw tv : Tok} (Γ : Gr w p loose mean mg mb A₀ base outer h₀) (T0 : KtsTurn (fsOf outer) g₀ h₀) (F : Fr h₀ L s.heap m) (hk : cs.kind = .function) (hdp : dp + 60 < recursionLimit) (hun : un + 300 < cLine) (N : News h₀ L s.heap [(x, instObj 255 dx), (dx, od), (it, io)]) (hS : LoopSt it l od io lo S P k) (hits : ItemsIn h₀ P) (hl : s.heap.get? l = some lo) (hs : ∀ es n, lo.data ≠ .dict es n) (h1 : x ≠ dx) (h2 : x ≠ it) (h3 : dx ≠ it) (hlx : l ≠ x) (hld : l ≠ dx) (hli : l ≠ it) (hsz : k ≤ 1000) (hidx : -1 ≤ S.idx)
   (hP : RowNums s.heap P Pn) (hb : 0 < S.idx → ItemAt s.heap S.bef bn) (hbr : ∃ t : Nat, S.bef = .ref t)
   (ret : ∀ h₀' (it' l' : Nat) od' io' lo' S' h' tk' v, LoopSt it' l' od' io' lo' S' P k → LoopKeep S S' → S'.lcv = S.lcv → IsAns v (askAns S.idx S.depth bn Pn k which) → KtsTurn (fsOf outer) g₀ h₀' → Gr w p loose mean mg mb A₀ base outer h₀' → Fr h₀' L h' m → News h₀' L h' [(x, instObj 255 dx), (dx, od'), (it', io')] → KeepsF [x, dx, it] (L :: fsOf outer) s.heap h' →
     h'.get? l' = some lo' → (∀ es n, lo'.data ≠ .dict es n) → ((it' = it ∧ l' = l ∧ lo' = lo) ∨ (s.heap.get? it' = none ∧ s.heap.get? l' = none ∧ it' ≠ l')) → R (.ok (.ret v)) { s with heap := h', toks := tk' }) (hw : which = 3 ∨ which = 9) : codeAny (model PySem.Challenge.rw_bb0046_01.row.prog w) (ktrTop dp un gd cn cs L a ccd cl outer) (.call (.ref 391) ⟨[.ref x, .int which tw, .int value tv], []⟩) R s := by
  have htri := tri_notTup (x := x) (dx := dx) hS
  obtain ⟨⟨es, n, rfl, hD⟩, hit, hpd, hlen, hcnt⟩ := hS
  obtain ⟨iterable, itor, again, depth, idx, len, aft, cur, bef, lcv⟩ := S
  dsimp only at hit hpd hD ret hcnt hidx hb
  subst hit
  refine' enterS Γ F N ?kA ?kF ?kK ?k6 ?k7 ?k8 ?k9 ?kB ?_ ?c2 ?c3 ?c4 ?c5
  case kA => exact rfl
  case kF => exact rfl
  case kK => assumption
  case k6 => k_is
  case k7 => k_is
  case k8 => k_room
  case k9 => first | exact BindsTo.of_eq rfl | exact binds_K (by k_in) rfl (by k_is) rfl rfl rfl
  case c5 => decide
  case kB => exact locs rfl
  case c2 => exact rfl
  case c3 => exact rfl
  case c4 => exact rfl
  intro g' L' h' FG' F' N' Γ' G'
  obtain ⟨B', X', T', XB', TB', D'⟩ := Γ'
  try dsimp only
  try k_fold
  obtain ⟨mf, FX, hv1, hv2, hv3⟩ := frNamed F' (fun m => m (Str.ofString "loop") = some (.ref x) ∧ m (Str.ofString "which") = some (.int which tw) ∧ m (Str.ofString "value") = some (.int value tv)) ⟨by kernel_rfl, by kernel_rfl, by kernel_rfl⟩
  clear F'
  have F' := FX
  clear FX
  have hl' : g'.get? l = some lo := G' _ _ hl (by simp only [List.map_cons, List.map_nil, List.mem_cons, List.not_mem_nil, or_false, not_or]; exact ⟨hlx, hld, hli⟩)
  have hnf := notFrame D' hl' hs
  have hits' := hits.mono FG'.keep
  have hPg : RowNums g' P Pn := hP.mono fun t its n ht => G' _ _ ht (tup_off N htri ht)
  obtain ⟨us, hi, hp⟩ := hpd
  rcases hp with ⟨rfl, rfl⟩ | ⟨t, rfl, ht, rfl⟩
  · cases hPg with
    | nil =>
      rcases hw with rfl | rfl
      all_goals
        k_steps
        (rename ItOf _ _ _ _ => kI)
        (rename Obj.cls _ = Obj.cls _ => kC)
        (rename KtsTurn _ h₀ _ => kT)
        (rename Fr _ L _ m => kF)
        (rename News _ L _ _ => kN)
        (rename Fr g' L' _ _ => kF')
        (rename LoopD _ _ => kD)
        exact ret _ it l _ _ _ _ _ _ _ ⟨⟨_, _, rfl, kD⟩, rfl, ⟨_, kI, .inl ⟨rfl, rfl⟩⟩, hlen.turn kC rfl rfl, hcnt⟩ ⟨rfl, rfl, rfl, rfl, rfl⟩ rfl (by first | exact ⟨_, rfl⟩ | exact rfl) (T0.trans kT) ⟨by assumption, by assumption, by assumption, XB', TB', by assumption⟩ kF (nw_cons kN (by k_mem) (nw_two kN (by k_mem) (by k_mem))) (keepsF_of G' KtsTurn.refl kF') (Fr.keep kF' _ _ hl') hs (.inl ⟨rfl, rfl, rfl⟩)
    | cons hA hR =>
      obtain ⟨t, lb, tk, rfl, ht, hot⟩ := hA
      rcases hw with rfl | rfl
      all_goals
        k_steps
        (rename ItOf _ _ _ _ => kI)
        (rename Obj.cls _ = Obj.cls _ => kC)
        (rename KtsTurn _ h₀ _ => kT)
        (rename Fr _ L _ m => kF)
        (rename News _ L _ _ => kN)
        (rename Fr g' L' _ _ => kF')
        (rename LoopD _ _ => kD)
        exact ret _ it l _ _ _ _ _ _ _ ⟨⟨_, _, rfl, kD⟩, rfl, ⟨_, kI, .inr ⟨t, rfl, ht, rfl⟩⟩, hlen.turn kC rfl rfl, hcnt⟩ ⟨rfl, rfl, rfl, rfl, rfl⟩ rfl (by first | exact ⟨_, rfl⟩ | exact rfl) (T0.trans kT) ⟨by assumption, by assumption, by assumption, XB', TB', by assumption⟩ kF (nw_cons kN (by k_mem) (nw_two kN (by k_mem) (by k_mem))) (keepsF_of G' KtsTurn.refl kF') (Fr.keep kF' _ _ hl') hs (.inl ⟨rfl, rfl, rfl⟩)
  · cases hPg with
    | cons hA hR =>
      obtain ⟨_, lb, tk, q, _, hot⟩ := hA
      cases q
      rcases hw with rfl | rfl
      all_goals
        k_steps
        (rename KtsTurn _ h₀ _ => kT)
        (rename Fr _ L _ m => kF)
        (rename News _ L _ _ => kN)
        (rename Fr g' L' _ _ => kF')
        (rename LoopD _ _ => kD)
        exact ret _ it l _ _ _ _ _ _ _ ⟨⟨_, _, rfl, kD⟩, rfl, ⟨_, hi, .inr ⟨t, rfl, ht, rfl⟩⟩, hlen, hcnt⟩ ⟨rfl, rfl, rfl, rfl, rfl⟩ rfl (by first | exact ⟨_, rfl⟩ | exact rfl) (T0.trans kT) ⟨by assumption, by assumption, by assumption, XB', TB', by assumption⟩ kF (nw_cons kN (by k_mem) (nw_two kN (by k_mem) (by k_mem))) (keepsF_of G' KtsTurn.refl kF') (Fr.keep kF' _ _ hl') hs (.inl ⟨rfl, rfl, rfl⟩)
theorem askedD {dp un : Nat} {gd : Option (List Code)} {cn : Str} {cs : Scope} {a : Addr} {ccd : Value} {cl : List (Str × Addr)} {outer : List Env} {A₀ : Around} {base g₀ h₀ : Heap} {L : Addr} {m : Str → Option Value} {s : Shared} {R : Result → Shared → Prop} {x dx it l : Nat} {od io lo : Obj} {S : LS} {P : List Value} {Pn : List Int} {bn : Int} {k : Nat} {which value : Int} {tw tv : Tok} (Γ : Gr w p loose mean mg mb A₀ base outer h₀) (T0 : KtsTurn (fsOf outer) g₀ h₀) (F : Fr h₀ L s.heap m) (hk : cs.kind = .function) (hdp : dp + 60 < recursionLimit) (hun : un + 300 < cLine) (N : News h₀ L s.heap [(x, instObj 255 dx), (dx, od), (it, io)]) (hS : LoopSt it l od io lo S P k) (hits : ItemsIn h₀ P) (hl : s.heap.get? l = some lo) (hs : ∀ es n, lo.data ≠ .dict es n) (h1 : x ≠ dx) (h2 : x ≠ it) (h3 : dx ≠ it) (hlx : l ≠ x) (hld : l ≠ dx) (hli : l ≠ it) (hsz : k ≤ 1000) (hidx : -1 ≤ S.idx)
   (hP : RowNums s.heap P Pn) (hb : 0 < S.idx → ItemAt s.heap S.bef bn) (hbr : ∃ t : Nat, S.bef = .ref t)
   (ret : ∀ h₀' (it' l' : Nat) od' io' lo' S' h' tk' v, LoopSt it' l' od' io' lo' S' P k → LoopKeep S S' → S'.lcv = S.lcv → IsAns v (askAns S.idx S.depth bn Pn k which) → KtsTurn (fsOf outer) g₀ h₀' → Gr w p loose mean mg mb A₀ base outer h₀' → Fr h₀' L h' m → News h₀' L h' [(x, instObj 255 dx), (dx, od'), (it', io')] → KeepsF [x, dx, it] (L :: fsOf outer) s.heap h' →
     h'.get? l' = some lo' → (∀ es n, lo'.data ≠ .dict es n) → ((it' = it ∧ l' = l ∧ lo' = lo) ∨ (s.heap.get? it' = none ∧ s.heap.get? l' = none ∧ it' ≠ l')) → R (.ok (.ret v)) { s with heap := h', toks := tk' }) (hw : which = 8) (h0 : 0 ≤ S.idx) : codeAny (model PySem.Challenge.rw_bb0046_01.row.prog w) (ktrTop dp un gd cn cs L a ccd cl outer) (.call (.ref 391) ⟨[.ref x, .int which tw, .int value tv], []⟩) R s := by
  have htri := tri_notTup (x := x) (dx := dx) hS
  obtain ⟨t, hbr⟩ := hbr
  obtain ⟨⟨es, n, rfl, hD⟩, hit, hpd, hlen, hcnt⟩ := hS
  obtain ⟨iterable, itor, again, depth, idx, len, aft, cur, bef, lcv⟩ := S
  dsimp only at hit hpd hD ret hcnt hidx hb
  subst hit
  refine' enterS Γ F N ?kA ?kF ?kK ?k6 ?k7 ?k8 ?k9 ?kB ?_ ?c2 ?c3 ?c4 ?c5
  case kA => exact rfl
  case kF => exact rfl
  case kK => assumption
  case k6 => k_is
  case k7 => k_is
  case k8 => k_room
  case k9 => first | exact BindsTo.of_eq rfl | exact binds_K (by k_in) rfl (by k_is) rfl rfl rfl
  case c5 => decide
  case kB => exact locs rfl
  case c2 => exact rfl
  case c3 => exact rfl
  case c4 => exact rfl
  intro g' L' h' FG' F' N' Γ' G'
  obtain ⟨B', X', T', XB', TB', D'⟩ := Γ'
  try dsimp only
  try k_fold
  obtain ⟨mf, FX, hv1, hv2, hv3⟩ := frNamed F' (fun m => m (Str.ofString "loop") = some (.ref x) ∧ m (Str.ofString "which") = some (.int which tw) ∧ m (Str.ofString "value") = some (.int value tv)) ⟨by kernel_rfl, by kernel_rfl, by kernel_rfl⟩
  clear F'
  have F' := FX
  clear FX
  have hl' : g'.get? l = some lo := G' _ _ hl (by simp only [List.map_cons, List.map_nil, List.mem_cons, List.not_mem_nil, or_false, not_or]; exact ⟨hlx, hld, hli⟩)
  have hnf := notFrame D' hl' hs
  have hits' := hits.mono FG'.keep
  dsimp only at h0 hbr
  subst hbr
  have hbg : 0 < idx → ItemAt g' (.ref t) bn := fun z => (hb z).mono fun t its n ht => G' _ _ ht (tup_off N htri ht)
  subst hw
  k_steps
  · have e : idx = 0 := by first | assumption | (simp at *; omega)
    (rename KtsTurn _ h₀ _ => kT)
    (rename Fr _ L _ m => kF)
    (rename News _ L _ _ => kN)
    (rename Fr g' L' _ _ => kF')
    (rename LoopD _ _ => kD)
    exact ret _ it l _ _ _ _ _ _ _ ⟨⟨_, _, rfl, kD⟩, rfl, hpd, hlen, hcnt⟩ ⟨rfl, rfl, rfl, rfl, rfl⟩ rfl (by show IsAns _ (if idx = 0 then Ans.s "none" else .i bn); rw [if_pos e]; exact ⟨_, rfl⟩) (T0.trans kT) ⟨by assumption, by assumption, by assumption, XB', TB', by assumption⟩ kF (nw_cons kN (by k_mem) (nw_two kN (by k_mem) (by k_mem))) (keepsF_of G' KtsTurn.refl kF') (Fr.keep kF' _ _ hl') hs (.inl ⟨rfl, rfl, rfl⟩)
  · obtain ⟨_, lb, tk', q, ht, hot⟩ := hbg (by omega)
    cases q
    k_steps
    (rename KtsTurn _ h₀ _ => kT)
    (rename Fr _ L _ m => kF)
    (rename News _ L _ _ => kN)
    (rename Fr g' L' _ _ => kF')
    (rename LoopD _ _ => kD)
    exact ret _ it l _ _ _ _ _ _ _ ⟨⟨_, _, rfl, kD⟩, rfl, hpd, hlen, hcnt⟩ ⟨rfl, rfl, rfl, rfl, rfl⟩ rfl (by show IsAns _ (if idx = 0 then Ans.s "none" else .i bn); rw [if_neg (by omega)]; exact ⟨_, rfl⟩) (T0.trans kT) ⟨by assumption, by assumption, by assumption, XB', TB', by assumption⟩ kF (nw_cons kN (by k_mem) (nw_two kN (by k_mem) (by k_mem))) (keepsF_of G' KtsTurn.refl kF') (Fr.keep kF' _ _ hl') hs (.inl ⟨rfl, rfl, rfl⟩)
theorem askedE {dp un : Nat} {gd : Option (List Code)} {cn : Str} {cs : Scope} {a : Addr} {ccd : Value} {cl : List (Str × Addr)} {outer : List Env} {A₀ : Around} {base g₀ h₀ : Heap} {L : Addr} {m : Str → Option Value} {s : Shared} {R : Result → Shared → Prop} {x dx it l : Nat} {od io lo : Obj} {S : LS} {P : List Value} {Pn : List Int} {bn : Int} {k : Nat} {which value : Int} {tw tv : Tok} (Γ : Gr w p loose mean mg mb A₀ base outer h₀) (T0 : KtsTurn (fsOf outer) g₀ h₀) (F : Fr h₀ L s.heap m) (hk : cs.kind = .function) (hdp : dp + 60 < recursionLimit) (hun : un + 300 < cLine) (N : News h₀ L s.heap [(x, instObj 255 dx), (dx, od), (it, io)]) (hS : LoopSt it l od io lo S P k) (hits : ItemsIn h₀ P) (hl : s.heap.get? l = some lo) (hs : ∀ es n, lo.data ≠ .dict es n) (h1 : x ≠ dx) (h2 : x ≠ it) (h3 : dx ≠ it) (hlx : l ≠ x) (hld : l ≠ dx) (hli : l ≠ it) (hsz : k ≤ 1000) (hidx : -1 ≤ S.idx)
   (hP : RowNums s.heap P Pn) (hb : 0 < S.idx → ItemAt s.heap S.bef bn) (hbr : ∃ t : Nat, S.bef = .ref t)
   (ret : ∀ h₀' (it' l' : Nat) od' io' lo' S' h' tk' v, LoopSt it' l' od' io' lo' S' P k → LoopKeep S S' → S'.lcv = S.lcv → IsAns v (askAns S.idx S.depth bn Pn k which) → KtsTurn (fsOf outer) g₀ h₀' → Gr w p loose mean mg mb A₀ base outer h₀' → Fr h₀' L h' m → News h₀' L h' [(x, instObj 255 dx), (dx, od'), (it', io')] → KeepsF [x, dx, it] (L :: fsOf outer) s.heap h' →
     h'.get? l' = some lo' → (∀ es n, lo'.data ≠ .dict es n) → ((it' = it ∧ l' = l ∧ lo' = lo) ∨ (s.heap.get? it' = none ∧ s.heap.get? l' = none ∧ it' ≠ l')) → R (.ok (.ret v)) { s with heap := h', toks := tk' }) (hw : which = 10) (h0 : 0 ≤ S.idx) : codeAny (model PySem.Challenge.rw_bb0046_01.row.prog w) (ktrTop dp un gd cn cs L a ccd cl outer) (.call (.ref 391) ⟨[.ref x, .int which tw, .int value tv], []⟩) R s := by
  obtain ⟨⟨es, n, rfl, hD⟩, hit, hpd, hlen, hcnt⟩ := hS
  obtain ⟨iterable, itor, again, depth, idx, len, aft, cur, bef, lcv⟩ := S
  dsimp only at hit hpd hD ret hcnt hidx hb
  subst hit
  refine' enterS Γ F N ?kA ?kF ?kK ?k6 ?k7 ?k8 ?k9 ?kB ?_ ?c2 ?c3 ?c4 ?c5
  case kA => exact rfl
  case kF => exact rfl
  case kK => assumption
  case k6 => k_is
  case k7 => k_is
  case k8 => k_room
  case k9 => first | exact BindsTo.of_eq rfl | exact binds_K (by k_in) rfl (by k_is) rfl rfl rfl
  case c5 => decide
  case kB => exact locs rfl
  case c2 => exact rfl
  case c3 => exact rfl
  case c4 => exact rfl
  intro g' L' h' FG' F' N' Γ' G'
  obtain ⟨B', X', T', XB', TB', D'⟩ := Γ'
  try dsimp only
  try k_fold
  obtain ⟨mf, FX, hv1, hv2, hv3⟩ := frNamed F' (fun m => m (Str.ofString "loop") = some (.ref x) ∧ m (Str.ofString "which") = some (.int which tw) ∧ m (Str.ofString "value") = some (.int value tv)) ⟨by kernel_rfl, by kernel_rfl, by kernel_rfl⟩
  clear F'
  have F' := FX
  clear FX
  have hl' : g'.get? l = some lo := G' _ _ hl (by simp only [List.map_cons, List.map_nil, List.mem_cons, List.not_mem_nil, or_false, not_or]; exact ⟨hlx, hld, hli⟩)
  have hnf := notFrame D' hl' hs
  have hits' := hits.mono FG'.keep
  dsimp only at h0
  subst hw
  k_steps
  all_goals
    (rename Int.fmod _ _ = _ => kM)
    (rename KtsTurn _ h₀ _ => kT)
    (rename Fr _ L _ m => kF)
    (rename News _ L _ _ => kN)
    (rename Fr g' L' _ _ => kF')
    (rename LoopD _ _ => kD)
    exact ret _ it l _ _ _ _ _ _ _ ⟨⟨_, _, rfl, kD⟩, rfl, hpd, hlen, hcnt⟩ ⟨rfl, rfl, rfl, rfl, rfl⟩ rfl (by
      show IsAns _ (Ans.s (abc (idx % 3)))
      rw [← Int.fmod_eq_emod_of_nonneg idx (by decide), kM]
      exact ⟨_, rfl⟩) (T0.trans kT) ⟨by assumption, by assumption, by assumption, XB', TB', by assumption⟩ kF (nw_cons kN (by k_mem) (nw_two kN (by k_mem) (by k_mem))) (keepsF_of G' KtsTurn.refl kF') (Fr.keep kF' _ _ hl') hs (.inl ⟨rfl, rfl, rfl⟩)
end

/-! ## MD -/
theorem reset_MD : True := by
  w_top off
  trivial
section
section
variable {w : World} {p : Program} {loose : List Str} {mean : ExcName → Option Value} {mg mb : Str → Option Value}
theorem prop_revindex0 {dp un : Nat} {gd : Option (List Code)} {cn : Str} {cs : Scope} {a : Addr} {ccd : Value} {cl : List (Str × Addr)} {outer : List Env} {A₀ : Around} {base g₀ h₀ : Heap} {L : Addr} {m : Str → Option Value} {s : Shared} {E : Value → Shared → Prop} {Q : Value → Shared → Prop} {expr : Bool} {news r1 r2 r3 : List (Addr × Obj)} {x dx it l : Nat} {od io lo : Obj} {S : LS} {P : List Value} {k : Nat}
   (Γ : Gr w p loose mean mg mb A₀ base outer h₀) (T0 : KtsTurn (fsOf outer) g₀ h₀) (F : Fr h₀ L s.heap m) (hk : cs.kind = .function) (hdp : dp + 50 < recursionLimit) (hun : un + 150 < cLine)
   (N : News h₀ L s.heap news) (D1 : Del x (instObj 255 dx) news r1) (D2 : Del dx od r1 r2) (D3 : Del it io r2 r3) (hS : LoopSt it l od io lo S P k) (hits : ItemsIn h₀ P) (hl : s.heap.get? l = some lo) (hs : ∀ es n, lo.data ≠ .dict es n) (h1 : x ≠ dx) (h2 : x ≠ it) (h3 : dx ≠ it) (hlx : l ≠ x) (hld : l ≠ dx) (hli : l ≠ it) (hsz : k ≤ 1000) (hidx : -1 ≤ S.idx)
   (ret1 : ∀ h₀' od' io' h' tk' t, LoopSt it l od' io' lo { S with len := some (k : Int), itor := .ref it } P k → KtsTurn (fsOf outer) g₀ h₀' → Gr w p loose mean mg mb A₀ base outer h₀' → Fr h₀' L h' m → News h₀' L h' ((x, instObj 255 dx) :: (dx, od') :: (it, io') :: r3) → KeepsF [x, dx, it] (L :: fsOf outer) s.heap h' →
     Q (.int (k - (S.idx + 1)) t) { s with heap := h', toks := tk' })
   (ret2 : ∀ h₀' (it' l' : Nat) od' io' lo' h' tk' t, LoopSt it' l' od' io' lo' { S with len := some (k : Int), itor := .ref it' } P k → KtsTurn (fsOf outer) g₀ h₀' → Gr w p loose mean mg mb A₀ base outer h₀' → Fr h₀' L h' m → News h₀' L h' ((l', lo') :: (x, instObj 255 dx) :: (dx, od') :: (it', io') :: r3) → KeepsF [x, dx, it] (L :: fsOf outer) s.heap h' →
     (∀ es n, lo'.data ≠ .dict es n) → s.heap.get? it' = none → s.heap.get? l' = none → AllNe it' news → AllNe l' news → it' ≠ l' → Q (.int (k - (S.idx + 1)) t) { s with heap := h', toks := tk' }) :
   wpAny (model PySem.Challenge.rw_bb0046_01.row.prog w) (ktrTop dp un gd cn cs L a ccd cl outer) (getAttr (.ref x) "revindex0" expr) Q E s := by
  obtain ⟨es, n, rfl, hD⟩ := hS.dict
  obtain ⟨m1, q1⟩ := D1.mem
  obtain ⟨m2, q2⟩ := D2.mem
  obtain ⟨m3, q3⟩ := D3.mem
  have N3 : News h₀ L s.heap [(x, instObj 255 dx), (dx, dictOf es n), (it, io)] := nw_cons N m1 (nw_two N (q1 _ m2).1 (q1 _ (q2 _ m3).1).1)
  refine get_prop (fget := 162) F Γ.X (InstAt.of_news N3 (by k_mem) (by k_mem)) (by k_is) (by k_is) (by k_is) (by k_is) (by k_is) (by k_is) ?_
  refine revindex0_spec (un := un + 1) (g₀ := h₀) Γ KtsTurn.refl F hk (by show dp + 40 < recursionLimit; omega) (by show un + 1 + 120 < cLine; omega) N3 hS hits hl hs h1 h2 h3 hlx hld hli hsz hidx fun h₀' it' l' od' io' lo' h' tk' t a1 a2 a3 a4 a5 a6 a7 a8 a9 => ?_
  have N4 := nwF_after (rest := r3) N Γ.D a2 a5 a6 fun p hp => ⟨(q1 _ (q2 _ (q3 _ hp).1).1).1, by
    simp only [List.mem_cons, List.not_mem_nil, or_false, not_or]
    exact ⟨(q1 _ (q2 _ (q3 _ hp).1).1).2, (q2 _ (q3 _ hp).1).2, (q3 _ hp).2⟩⟩
  refine handed_on rfl ?_
  rcases a9 with ⟨rfl, rfl, rfl⟩ | ⟨e1, e2, e3⟩
  · exact ret1 h₀' od' io' h' tk' t a1 (T0.trans a2) a3 a4 N4 a6
  · have hll : l' ≠ L := fun z => by
      obtain ⟨o, _, _, ho, _⟩ := F.ns
      rw [z] at e2
      rw [show s.heap.get? L = none from e2] at ho; cases ho
    have hl0 : h₀'.get? l' = none := a2.none_ _ (by
      cases z : h₀.get? l' with
      | none => rfl
      | some o => have := F.keep _ _ z; rw [show s.heap.get? l' = none from e2] at this; cases this)
    exact ret2 h₀' it' l' od' io' lo' h' tk' t a1 (T0.trans a2) a3 a4 (List.forall_mem_cons.mpr ⟨⟨a7, hll, hl0⟩, N4⟩) a6 a8 e1 e2 (allNe_of (h := s.heap) e1 N) (allNe_of (h := s.heap) e2 N) e3
local macro_rules | `(tactic| walk_at "getAttr ref") => `(tactic| (k_here; (with_reducible show wpAny _ _ (getAttr (Value.ref _) (PySem.Str.ofString "revindex0") _) _ _ _); k_dflt (refine' prop_revindex0 ⟨?a1, ?a2, ?a3, ?a4, ?a5, ?a6⟩ ?T0 ?F ?kk ?dp ?un ?N ?D1 ?D2 ?D3 ⟨⟨_, _, rfl, ?LD⟩, ?hi, ?hp, ?hl, ?hc⟩ ?its ?l ?s ?n1 ?n2 ?n3 ?n4 ?n5 ?n6 ?z ?i ?r1 ?r2; (case F => k_asm); (case LD => k_asm); (case a1 => assumption); (case a2 => k_asm); (case a3 => k_asm); (case a4 => assumption); (case a5 => assumption); (case a6 => assumption); (case T0 => first | assumption | exact KtsTurn.refl); (case kk => exact rfl); (case dp => ((try dsimp only [ktrTop]); omega)); (case un => ((try simp only [units_in1, units_deeper, Around.mark_units, units_caller]); (try dsimp only [ktrTop]); omega)); (case N => k_asm); (case D1 => (repeat' first | (refine' Del.head ?_; k_all) | (refine' Del.tail ?t1 ?t2; (case t1 => k_ne)))); (case D2 => (repeat' first | (refine' Del.head ?_; k_all) | (refine' Del.tail ?t1 ?t2; (case t1 => k_ne)))); (case D3 => (repeat' first | (refine' Del.head ?_; k_all) | (refine' Del.tail ?t1 ?t2; (case t1 => k_ne)))); (case hi => exact rfl); (case hp => assumption); (case hl => assumption); (case hc => assumption); (case its => assumption); (case l => (first | exact Fr.keep (by k_asm) _ _ (by k_asm) | exact Fr.keep (by k_asm) _ _ (Fr.keep (by k_asm) _ _ (by k_asm)) | exact Fr.keep (by k_asm) _ _ (KtsTurn.other (by assumption) _ _ (by assumption) (by assumption)) | (refine' News.get ?N ?m; (case N => k_asm); (case m => k_mem)))); (case s => assumption); (case n1 => omega); (case n2 => omega); (case n3 => omega); (case n4 => omega); (case n5 => omega); (case n6 => omega); (case z => omega); (case i => omega)); k_whole; (all_goals first | (intro h₀' it' l' od' io' lo' h' tk' t' st' kT' kG' F' N' K' hs' e1' e2' ne1' ne2' ne3'; (obtain ⟨⟨es', n', hE', hD'⟩, hit', hpd', hlen', hcnt'⟩ := st'); subst hE'; (obtain ⟨B', X', P', XB', TB', D'⟩ := kG'); (simp only [AllNe, and_true] at ne1' ne2'); (try dsimp only at hpd' hlen' hcnt' hD'); (try k_sweep)) | (intro h₀' od' io' h' tk' t' st' kT' kG' F' N' K'; (obtain ⟨⟨es', n', hE', hD'⟩, hit', hpd', hlen', hcnt'⟩ := st'); subst hE'; (obtain ⟨B', X', P', XB', TB', D'⟩ := kG'); (try dsimp only at hpd' hlen' hcnt' hD'); (try k_sweep)))))
theorem prop_revindex {dp un : Nat} {gd : Option (List Code)} {cn : Str} {cs : Scope} {a : Addr} {ccd : Value} {cl : List (Str × Addr)} {outer : List Env} {A₀ : Around} {base g₀ h₀ : Heap} {L : Addr} {m : Str → Option Value} {s : Shared} {E : Value → Shared → Prop} {Q : Value → Shared → Prop} {expr : Bool} {news r1 r2 r3 : List (Addr × Obj)} {x dx it l : Nat} {od io lo : Obj} {S : LS} {P : List Value} {k : Nat}
   (Γ : Gr w p loose mean mg mb A₀ base outer h₀) (T0 : KtsTurn (fsOf outer) g₀ h₀) (F : Fr h₀ L s.heap m) (hk : cs.kind = .function) (hdp : dp + 50 < recursionLimit) (hun : un + 150 < cLine)
   (N : News h₀ L s.heap news) (D1 : Del x (instObj 255 dx) news r1) (D2 : Del dx od r1 r2) (D3 : Del it io r2 r3) (hS : LoopSt it l od io lo S P k) (hits : ItemsIn h₀ P) (hl : s.heap.get? l = some lo) (hs : ∀ es n, lo.data ≠ .dict es n) (h1 : x ≠ dx) (h2 : x ≠ it) (h3 : dx ≠ it) (hlx : l ≠ x) (hld : l ≠ dx) (hli : l ≠ it) (hsz : k ≤ 1000) (hidx : -1 ≤ S.idx)
   (ret1 : ∀ h₀' od' io' h' tk' t, LoopSt it l od' io' lo { S with len := some (k : Int), itor := .ref it } P k → KtsTurn (fsOf outer) g₀ h₀' → Gr w p loose mean mg mb A₀ base outer h₀' → Fr h₀' L h' m → News h₀' L h' ((x, instObj 255 dx) :: (dx, od') :: (it, io') :: r3) → KeepsF [x, dx, it] (L :: fsOf outer) s.heap h' →
     Q (.int (k - S.idx) t) { s with heap := h', toks := tk' })
   (ret2 : ∀ h₀' (it' l' : Nat) od' io' lo' h' tk' t, LoopSt it' l' od' io' lo' { S with len := some (k : Int), itor := .ref it' } P k → KtsTurn (fsOf outer) g₀ h₀' → Gr w p loose mean mg mb A₀ base outer h₀' → Fr h₀' L h' m → News h₀' L h' ((l', lo') :: (x, instObj 255 dx) :: (dx, od') :: (it', io') :: r3) → KeepsF [x, dx, it] (L :: fsOf outer) s.heap h' →
     (∀ es n, lo'.data ≠ .dict es n) → s.heap.get? it' = none → s.heap.get? l' = none → AllNe it' news → AllNe l' news → it' ≠ l' → Q (.int (k - S.idx) t) { s with heap := h', toks := tk' }) :
   wpAny (model PySem.Challenge.rw_bb0046_01.row.prog w) (ktrTop dp un gd cn cs L a ccd cl outer) (getAttr (.ref x) "revindex" expr) Q E s := by
  obtain ⟨es, n, rfl, hD⟩ := hS.dict
  obtain ⟨m1, q1⟩ := D1.mem
  obtain ⟨m2, q2⟩ := D2.mem
  obtain ⟨m3, q3⟩ := D3.mem
  have N3 : News h₀ L s.heap [(x, instObj 255 dx), (dx, dictOf es n), (it, io)] := nw_cons N m1 (nw_two N (q1 _ m2).1 (q1 _ (q2 _ m3).1).1)
  refine get_prop (fget := 170) F Γ.X (InstAt.of_news N3 (by k_mem) (by k_mem)) (by k_is) (by k_is) (by k_is) (by k_is) (by k_is) (by k_is) ?_
  refine revindex_spec (un := un + 1) (g₀ := h₀) Γ KtsTurn.refl F hk (by show dp + 40 < recursionLimit; omega) (by show un + 1 + 120 < cLine; omega) N3 hS hits hl hs h1 h2 h3 hlx hld hli hsz hidx fun h₀' it' l' od' io' lo' h' tk' t a1 a2 a3 a4 a5 a6 a7 a8 a9 => ?_
  have N4 := nwF_after (rest := r3) N Γ.D a2 a5 a6 fun p hp => ⟨(q1 _ (q2 _ (q3 _ hp).1).1).1, by
    simp only [List.mem_cons, List.not_mem_nil, or_false, not_or]
    exact ⟨(q1 _ (q2 _ (q3 _ hp).1).1).2, (q2 _ (q3 _ hp).1).2, (q3 _ hp).2⟩⟩
  refine handed_on rfl ?_
  rcases a9 with ⟨rfl, rfl, rfl⟩ | ⟨e1, e2, e3⟩
  · exact ret1 h₀' od' io' h' tk' t a1 (T0.trans a2) a3 a4 N4 a6
  · have hll : l' ≠ L := fun z => by
      obtain ⟨o, _, _, ho, _⟩ := F.ns
      rw [z] at e2
      rw [show s.heap.get? L = none from e2] at ho; cases ho
    have hl0 : h₀'.get? l' = none := a2.none_ _ (by
      cases z : h₀.get? l' with
      | none => rfl
      | some o => have := F.keep _ _ z; rw [show s.heap.get? l' = none from e2] at this; cases this)
    exact ret2 h₀' it' l' od' io' lo' h' tk' t a1 (T0.trans a2) a3 a4 (List.forall_mem_cons.mpr ⟨⟨a7, hll, hl0⟩, N4⟩) a6 a8 e1 e2 (allNe_of (h := s.heap) e1 N) (allNe_of (h := s.heap) e2 N) e3
local macro_rules | `(tactic| walk_at "getAttr ref") => `(tactic| (k_here; (with_reducible show wpAny _ _ (getAttr (Value.ref _) (PySem.Str.ofString "revindex") _) _ _ _); k_dflt (refine' prop_revindex ⟨?a1, ?a2, ?a3, ?a4, ?a5, ?a6⟩ ?T0 ?F ?kk ?dp ?un ?N ?D1 ?D2 ?D3 ⟨⟨_, _, rfl, ?LD⟩, ?hi, ?hp, ?hl, ?hc⟩ ?its ?l ?s ?n1 ?n2 ?n3 ?n4 ?n5 ?n6 ?z ?i ?r1 ?r2; (case F => k_asm); (case LD => k_asm); (case a1 => assumption); (case a2 => k_asm); (case a3 => k_asm); (case a4 => assumption); (case a5 => assumption); (case a6 => assumption); (case T0 => first | assumption | exact KtsTurn.refl); (case kk => exact rfl); (case dp => ((try dsimp only [ktrTop]); omega)); (case un => ((try simp only [units_in1, units_deeper, Around.mark_units, units_caller]); (try dsimp only [ktrTop]); omega)); (case N => k_asm); (case D1 => (repeat' first | (refine' Del.head ?_; k_all) | (refine' Del.tail ?t1 ?t2; (case t1 => k_ne)))); (case D2 => (repeat' first | (refine' Del.head ?_; k_all) | (refine' Del.tail ?t1 ?t2; (case t1 => k_ne)))); (case D3 => (repeat' first | (refine' Del.head ?_; k_all) | (refine' Del.tail ?t1 ?t2; (case t1 => k_ne)))); (case hi => exact rfl); (case hp => assumption); (case hl => assumption); (case hc => assumption); (case its => assumption); (case l => (first | exact Fr.keep (by k_asm) _ _ (by k_asm) | exact Fr.keep (by k_asm) _ _ (Fr.keep (by k_asm) _ _ (by k_asm)) | exact Fr.keep (by k_asm) _ _ (KtsTurn.other (by assumption) _ _ (by assumption) (by assumption)) | (refine' News.get ?N ?m; (case N => k_asm); (case m => k_mem)))); (case s => assumption); (case n1 => omega); (case n2 => omega); (case n3 => omega); (case n4 => omega); (case n5 => omega); (case n6 => omega); (case z => omega); (case i => omega)); k_whole; (all_goals first | (intro h₀' it' l' od' io' lo' h' tk' t' st' kT' kG' F' N' K' hs' e1' e2' ne1' ne2' ne3'; (obtain ⟨⟨es', n', hE', hD'⟩, hit', hpd', hlen', hcnt'⟩ := st'); subst hE'; (obtain ⟨B', X', P', XB', TB', D'⟩ := kG'); (simp only [AllNe, and_true] at ne1' ne2'); (try dsimp only at hpd' hlen' hcnt' hD'); (try k_sweep)) | (intro h₀' od' io' h' tk' t' st' kT' kG' F' N' K'; (obtain ⟨⟨es', n', hE', hD'⟩, hit', hpd', hlen', hcnt'⟩ := st'); subst hE'; (obtain ⟨B', X', P', XB', TB', D'⟩ := kG'); (try dsimp only at hpd' hlen' hcnt' hD'); (try k_sweep)))))
theorem prop_dlen {dp un : Nat} {gd : Option (List Code)} {cn : Str} {cs : Scope} {a : Addr} {ccd : Value} {cl : List (Str × Addr)} {outer : List Env} {A₀ : Around} {base g₀ h₀ : Heap} {L : Addr} {m : Str → Option Value} {s : Shared} {E : Value → Shared → Prop} {Q : Value → Shared → Prop} {news r1 r2 r3 : List (Addr × Obj)} {x dx it l : Nat} {od io lo : Obj} {S : LS} {P : List Value} {k : Nat}
   (Γ : Gr w p loose mean mg mb A₀ base outer h₀) (T0 : KtsTurn (fsOf outer) g₀ h₀) (F : Fr h₀ L s.heap m) (hk : cs.kind = .function) (hdp : dp + 50 < recursionLimit) (hun : un + 150 < cLine)
   (N : News h₀ L s.heap news) (D1 : Del x (instObj 255 dx) news r1) (D2 : Del dx od r1 r2) (D3 : Del it io r2 r3) (hS : LoopSt it l od io lo S P k) (hits : ItemsIn h₀ P) (hl : s.heap.get? l = some lo) (hs : ∀ es n, lo.data ≠ .dict es n) (h1 : x ≠ dx) (h2 : x ≠ it) (h3 : dx ≠ it) (hlx : l ≠ x) (hld : l ≠ dx) (hli : l ≠ it) (hsz : k ≤ 1000) (hidx : -1 ≤ S.idx)
   (ret1 : ∀ h₀' od' io' h' tk' t, LoopSt it l od' io' lo { S with len := some (k : Int), itor := .ref it } P k → KtsTurn (fsOf outer) g₀ h₀' → Gr w p loose mean mg mb A₀ base outer h₀' → Fr h₀' L h' m → News h₀' L h' ((x, instObj 255 dx) :: (dx, od') :: (it, io') :: r3) → KeepsF [x, dx, it] (L :: fsOf outer) s.heap h' →
     Q (.int (k) t) { s with heap := h', toks := tk' })
   (ret2 : ∀ h₀' (it' l' : Nat) od' io' lo' h' tk' t, LoopSt it' l' od' io' lo' { S with len := some (k : Int), itor := .ref it' } P k → KtsTurn (fsOf outer) g₀ h₀' → Gr w p loose mean mg mb A₀ base outer h₀' → Fr h₀' L h' m → News h₀' L h' ((l', lo') :: (x, instObj 255 dx) :: (dx, od') :: (it', io') :: r3) → KeepsF [x, dx, it] (L :: fsOf outer) s.heap h' →
     (∀ es n, lo'.data ≠ .dict es n) → s.heap.get? it' = none → s.heap.get? l' = none → AllNe it' news → AllNe l' news → it' ≠ l' → Q (.int (k) t) { s with heap := h', toks := tk' }) :
   wpAny (model PySem.Challenge.rw_bb0046_01.row.prog w) (ktrTop dp un gd cn cs L a ccd cl outer) (call (.builtin "len") [.ref x]) Q E s := by
  obtain ⟨es, n, rfl, hD⟩ := hS.dict
  obtain ⟨m1, q1⟩ := D1.mem
  obtain ⟨m2, q2⟩ := D2.mem
  obtain ⟨m3, q3⟩ := D3.mem
  have N3 : News h₀ L s.heap [(x, instObj 255 dx), (dx, dictOf es n), (it, io)] := nw_cons N m1 (nw_two N (q1 _ m2).1 (q1 _ (q2 _ m3).1).1)
  refine len_K (f := 139) F Γ.X (InstAt.of_news N3 (by k_mem) (by k_mem)) (by k_is) (by k_is) (wpAny_call ?_)
  refine dlen_spec (un := un + 1) (g₀ := h₀) Γ KtsTurn.refl F hk (by show dp + 40 < recursionLimit; omega) (by show un + 1 + 120 < cLine; omega) N3 hS hits hl hs h1 h2 h3 hlx hld hli hsz hidx fun h₀' it' l' od' io' lo' h' tk' t a1 a2 a3 a4 a5 a6 a7 a8 a9 => ?_
  have N4 := nwF_after (rest := r3) N Γ.D a2 a5 a6 fun p hp => ⟨(q1 _ (q2 _ (q3 _ hp).1).1).1, by
    simp only [List.mem_cons, List.not_mem_nil, or_false, not_or]
    exact ⟨(q1 _ (q2 _ (q3 _ hp).1).1).2, (q2 _ (q3 _ hp).1).2, (q3 _ hp).2⟩⟩
  refine ⟨⟨by omega, by omega⟩, ?_⟩
  rcases a9 with ⟨rfl, rfl, rfl⟩ | ⟨e1, e2, e3⟩
  · exact ret1 h₀' od' io' h' (tk' + 1) tk' a1 (T0.trans a2) a3 a4 N4 a6
  · have hll : l' ≠ L := fun z => by
      obtain ⟨o, _, _, ho, _⟩ := F.ns
      rw [z] at e2
      rw [show s.heap.get? L = none from e2] at ho; cases ho
    have hl0 : h₀'.get? l' = none := a2.none_ _ (by
      cases z : h₀.get? l' with
      | none => rfl
      | some o => have := F.keep _ _ z; rw [show s.heap.get? l' = none from e2] at this; cases this)
    exact ret2 h₀' it' l' od' io' lo' h' (tk' + 1) tk' a1 (T0.trans a2) a3 a4 (List.forall_mem_cons.mpr ⟨⟨a7, hll, hl0⟩, N4⟩) a6 a8 e1 e2 (allNe_of (h := s.heap) e1 N) (allNe_of (h := s.heap) e2 N) e3
local macro_rules | `(tactic| walk_at "call builtin:len") => `(tactic| (k_here; (with_reducible show wpAny _ _ (call (Value.builtin "len") [Value.ref _]) _ _ _); k_dflt (refine' prop_dlen ⟨?a1, ?a2, ?a3, ?a4, ?a5, ?a6⟩ ?T0 ?F ?kk ?dp ?un ?N ?D1 ?D2 ?D3 ⟨⟨_, _, rfl, ?LD⟩, ?hi, ?hp, ?hl, ?hc⟩ ?its ?l ?s ?n1 ?n2 ?n3 ?n4 ?n5 ?n6 ?z ?i ?r1 ?r2; (case F => k_asm); (case LD => k_asm); (case a1 => assumption); (case a2 => k_asm); (case a3 => k_asm); (case a4 => assumption); (case a5 => assumption); (case a6 => assumption); (case T0 => first | assumption | exact KtsTurn.refl); (case kk => exact rfl); (case dp => ((try dsimp only [ktrTop]); omega)); (case un => ((try simp only [units_in1, units_deeper, Around.mark_units, units_caller]); (try dsimp only [ktrTop]); omega)); (case N => k_asm); (case D1 => (repeat' first | (refine' Del.head ?_; k_all) | (refine' Del.tail ?t1 ?t2; (case t1 => k_ne)))); (case D2 => (repeat' first | (refine' Del.head ?_; k_all) | (refine' Del.tail ?t1 ?t2; (case t1 => k_ne)))); (case D3 => (repeat' first | (refine' Del.head ?_; k_all) | (refine' Del.tail ?t1 ?t2; (case t1 => k_ne)))); (case hi => exact rfl); (case hp => assumption); (case hl => assumption); (case hc => assumption); (case its => assumption); (case l => (first | exact Fr.keep (by k_asm) _ _ (by k_asm) | exact Fr.keep (by k_asm) _ _ (Fr.keep (by k_asm) _ _ (by k_asm)) | exact Fr.keep (by k_asm) _ _ (KtsTurn.other (by assumption) _ _ (by assumption) (by assumption)) | (refine' News.get ?N ?m; (case N => k_asm); (case m => k_mem)))); (case s => assumption); (case n1 => omega); (case n2 => omega); (case n3 => omega); (case n4 => omega); (case n5 => omega); (case n6 => omega); (case z => omega); (case i => omega)); k_whole; (all_goals first | (intro h₀' it' l' od' io' lo' h' tk' t' st' kT' kG' F' N' K' hs' e1' e2' ne1' ne2' ne3'; (obtain ⟨⟨es', n', hE', hD'⟩, hit', hpd', hlen', hcnt'⟩ := st'); subst hE'; (obtain ⟨B', X', P', XB', TB', D'⟩ := kG'); (simp only [AllNe, and_true] at ne1' ne2'); (try dsimp only at hpd' hlen' hcnt' hD'); (try k_sweep)) | (intro h₀' od' io' h' tk' t' st' kT' kG' F' N' K'; (obtain ⟨⟨es', n', hE', hD'⟩, hit', hpd', hlen', hcnt'⟩ := st'); subst hE'; (obtain ⟨B', X', P', XB', TB', D'⟩ := kG'); (try dsimp only at hpd' hlen' hcnt' hD'); (try k_sweep)))))
local macro_rules | `(tactic| walk_at "getAttr ref") => `(tactic| (k_here; (with_reducible show wpAny _ _ (getAttr (Value.ref _) (PySem.Str.ofString "length") _) _ _ _); k_dflt (refine' prop_length ⟨?a1, ?a2, ?a3, ?a4, ?a5, ?a6⟩ ?T0 ?F ?kk ?dp ?un ?N ?D1 ?D2 ?D3 ⟨⟨_, _, rfl, ?LD⟩, ?hi, ?hp, ?hl, ?hc⟩ ?its ?l ?s ?n1 ?n2 ?n3 ?n4 ?n5 ?n6 ?z ?i ?r1 ?r2; (case F => k_asm); (case LD => k_asm); (case a1 => assumption); (case a2 => k_asm); (case a3 => k_asm); (case a4 => assumption); (case a5 => assumption); (case a6 => assumption); (case T0 => first | assumption | exact KtsTurn.refl); (case kk => exact rfl); (case dp => ((try dsimp only [ktrTop]); omega)); (case un => ((try simp only [units_in1, units_deeper, Around.mark_units, units_caller]); (try dsimp only [ktrTop]); omega)); (case N => k_asm); (case D1 => (repeat' first | (refine' Del.head ?_; k_all) | (refine' Del.tail ?t1 ?t2; (case t1 => k_ne)))); (case D2 => (repeat' first | (refine' Del.head ?_; k_all) | (refine' Del.tail ?t1 ?t2; (case t1 => k_ne)))); (case D3 => (repeat' first | (refine' Del.head ?_; k_all) | (refine' Del.tail ?t1 ?t2; (case t1 => k_ne)))); (case hi => exact rfl); (case hp => assumption); (case hl => assumption); (case hc => assumption); (case its => assumption); (case l => (first | exact Fr.keep (by k_asm) _ _ (by k_asm) | exact Fr.keep (by k_asm) _ _ (Fr.keep (by k_asm) _ _ (by k_asm)) | exact Fr.keep (by k_asm) _ _ (KtsTurn.other (by assumption) _ _ (by assumption) (by assumption)) | (refine' News.get ?N ?m; (case N => k_asm); (case m => k_mem)))); (case s => assumption); (case n1 => omega); (case n2 => omega); (case n3 => omega); (case n4 => omega); (case n5 => omega); (case n6 => omega); (case z => omega); (case i => omega)); k_whole; (all_goals first | (intro h₀' it' l' od' io' lo' h' tk' t' st' kT' kG' F' N' K' hs' e1' e2' ne1' ne2' ne3'; (obtain ⟨⟨es', n', hE', hD'⟩, hit', hpd', hlen', hcnt'⟩ := st'); subst hE'; (obtain ⟨B', X', P', XB', TB', D'⟩ := kG'); (simp only [AllNe, and_true] at ne1' ne2'); (try dsimp only at hpd' hlen' hcnt' hD'); (try k_sweep)) | (intro h₀' od' io' h' tk' t' st' kT' kG' F' N' K'; (obtain ⟨⟨es', n', hE', hD'⟩, hit', hpd', hlen', hcnt'⟩ := st'); subst hE'; (obtain ⟨B', X', P', XB', TB', D'⟩ := kG'); (try dsimp only at hpd' hlen' hcnt' hD'); (try k_sweep)))))
theorem askedB4 {dp un : Nat} {gd : Option (List Code)} {cn : Str} {cs : Scope} {a : Addr} {ccd : Value} {cl : List (Str × Addr)} {outer : List Env} {A₀ : Around} {base g₀ h₀ : Heap} {L : Addr} {m : Str → Option Value} {s : Shared} {R : Result → Shared → Prop} {x dx it l : Nat} {od io lo : Obj} {S : LS} {P : List Value} {Pn : List Int} {bn : Int} {k : Nat} {which value : Int} {tw tv : Tok} (Γ : Gr w p loose mean mg mb A₀ base outer h₀) (T0 : KtsTurn (fsOf outer) g₀ h₀) (F : Fr h₀ L s.heap m) (hk : cs.kind = .function) (hdp : dp + 60 < recursionLimit) (hun : un + 300 < cLine) (N : News h₀ L s.heap [(x, instObj 255 dx), (dx, od), (it, io)]) (hS : LoopSt it l od io lo S P k) (hits : ItemsIn h₀ P) (hl : s.heap.get? l = some lo) (hs : ∀ es n, lo.data ≠ .dict es n) (h1 : x ≠ dx) (h2 : x ≠ it) (h3 : dx ≠ it) (hlx : l ≠ x) (hld : l ≠ dx) (hli : l ≠ it) (hsz : k ≤ 1000) (hidx : -1 ≤ S.idx)
   (hP : RowNums s.heap P Pn) (hb : 0 < S.idx → ItemAt s.heap S.bef bn) (hbr : ∃ t : Nat, S.bef = .ref t)
   (ret : ∀ h₀' (it' l' : Nat) od' io' lo' S' h' tk' v, LoopSt it' l' od' io' lo' S' P k → LoopKeep S S' → S'.lcv = S.lcv → IsAns v (askAns S.idx S.depth bn Pn k which) → KtsTurn (fsOf outer) g₀ h₀' → Gr w p loose mean mg mb A₀ base outer h₀' → Fr h₀' L h' m → News h₀' L h' [(x, instObj 255 dx), (dx, od'), (it', io')] → KeepsF [x, dx, it] (L :: fsOf outer) s.heap h' →
     h'.get? l' = some lo' → (∀ es n, lo'.data ≠ .dict es n) → ((it' = it ∧ l' = l ∧ lo' = lo) ∨ (s.heap.get? it' = none ∧ s.heap.get? l' = none ∧ it' ≠ l')) → R (.ok (.ret v)) { s with heap := h', toks := tk' }) (hw : which = 4) : codeAny (model PySem.Challenge.rw_bb0046_01.row.prog w) (ktrTop dp un gd cn cs L a ccd cl outer) (.call (.ref 391) ⟨[.ref x, .int which tw, .int value tv], []⟩) R s := by
  obtain ⟨⟨es, n, rfl, hD⟩, hit, hpd, hlen, hcnt⟩ := hS
  obtain ⟨iterable, itor, again, depth, idx, len, aft, cur, bef, lcv⟩ := S
  dsimp only at hit hpd hD ret hcnt hidx hb
  subst hit
  refine' enterS Γ F N ?kA ?kF ?kK ?k6 ?k7 ?k8 ?k9 ?kB ?_ ?c2 ?c3 ?c4 ?c5
  case kA => exact rfl
  case kF => exact rfl
  case kK => assumption
  case k6 => k_is
  case k7 => k_is
  case k8 => k_room
  case k9 => first | exact BindsTo.of_eq rfl | exact binds_K (by k_in) rfl (by k_is) rfl rfl rfl
  case c5 => decide
  case kB => exact locs rfl
  case c2 => exact rfl
  case c3 => exact rfl
  case c4 => exact rfl
  intro g' L' h' FG' F' N' Γ' G'
  obtain ⟨B', X', T', XB', TB', D'⟩ := Γ'
  try dsimp only
  try k_fold
  obtain ⟨mf, FX, hv1, hv2, hv3⟩ := frNamed F' (fun m => m (Str.ofString "loop") = some (.ref x) ∧ m (Str.ofString "which") = some (.int which tw) ∧ m (Str.ofString "value") = some (.int value tv)) ⟨by kernel_rfl, by kernel_rfl, by kernel_rfl⟩
  clear F'
  have F' := FX
  clear FX
  have hl' : g'.get? l = some lo := G' _ _ hl (by simp only [List.map_cons, List.map_nil, List.mem_cons, List.not_mem_nil, or_false, not_or]; exact ⟨hlx, hld, hli⟩)
  have hnf := notFrame D' hl' hs
  have hits' := hits.mono FG'.keep
  subst hw
  k_steps
  all_goals
    (rename KtsTurn (fsOf _) g' _ => kT')
    (rename KtsTurn _ h₀ _ => kT)
    (rename Fr _ L _ m => kF)
    (rename News _ L _ _ => kN)
    (rename Fr _ L' _ _ => kF')
    (rename LoopD _ _ => kD)
    first
    | exact ret _ _ _ _ _ _ _ _ _ _ ⟨⟨_, _, rfl, kD⟩, rfl, by assumption, .inl rfl, hcnt⟩ ⟨rfl, rfl, rfl, rfl, rfl⟩ rfl ⟨_, rfl⟩ (T0.trans kT) ⟨by assumption, by assumption, by assumption, XB', TB', by assumption⟩ kF kN (keepsF_of G' kT' kF') (Fr.keep kF' _ _ (kT'.other _ _ hl' hnf)) hs (.inl ⟨rfl, rfl, rfl⟩)
    | exact ret _ _ _ _ _ _ _ _ _ _ ⟨⟨_, _, rfl, kD⟩, rfl, by assumption, .inl rfl, hcnt⟩ ⟨rfl, rfl, rfl, rfl, rfl⟩ rfl ⟨_, rfl⟩ (T0.trans kT) ⟨by assumption, by assumption, by assumption, XB', TB', by assumption⟩ kF (nw_sub kN fun p hp => List.mem_cons_of_mem _ hp) (keepsF_of G' kT' kF') (News.get kN (by k_mem)) (by assumption) (.inr ⟨fresh_back G' F' N' (by assumption), fresh_back G' F' N' (by assumption), by assumption⟩)
theorem askedB5 {dp un : Nat} {gd : Option (List Code)} {cn : Str} {cs : Scope} {a : Addr} {ccd : Value} {cl : List (Str × Addr)} {outer : List Env} {A₀ : Around} {base g₀ h₀ : Heap} {L : Addr} {m : Str → Option Value} {s : Shared} {R : Result → Shared → Prop} {x dx it l : Nat} {od io lo : Obj} {S : LS} {P : List Value} {Pn : List Int} {bn : Int} {k : Nat} {which value : Int} {tw tv : Tok} (Γ : Gr w p loose mean mg mb A₀ base outer h₀) (T0 : KtsTurn (fsOf outer) g₀ h₀) (F : Fr h₀ L s.heap m) (hk : cs.kind = .function) (hdp : dp + 60 < recursionLimit) (hun : un + 300 < cLine) (N : News h₀ L s.heap [(x, instObj 255 dx), (dx, od), (it, io)]) (hS : LoopSt it l od io lo S P k) (hits : ItemsIn h₀ P) (hl : s.heap.get? l = some lo) (hs : ∀ es n, lo.data ≠ .dict es n) (h1 : x ≠ dx) (h2 : x ≠ it) (h3 : dx ≠ it) (hlx : l ≠ x) (hld : l ≠ dx) (hli : l ≠ it) (hsz : k ≤ 1000) (hidx : -1 ≤ S.idx)
   (hP : RowNums s.heap P Pn) (hb : 0 < S.idx → ItemAt s.heap S.bef bn) (hbr : ∃ t : Nat, S.bef = .ref t)
   (ret : ∀ h₀' (it' l' : Nat) od' io' lo' S' h' tk' v, LoopSt it' l' od' io' lo' S' P k → LoopKeep S S' → S'.lcv = S.lcv → IsAns v (askAns S.idx S.depth bn Pn k which) → KtsTurn (fsOf outer) g₀ h₀' → Gr w p loose mean mg mb A₀ base outer h₀' → Fr h₀' L h' m → News h₀' L h' [(x, instObj 255 dx), (dx, od'), (it', io')] → KeepsF [x, dx, it] (L :: fsOf outer) s.heap h' →
     h'.get? l' = some lo' → (∀ es n, lo'.data ≠ .dict es n) → ((it' = it ∧ l' = l ∧ lo' = lo) ∨ (s.heap.get? it' = none ∧ s.heap.get? l' = none ∧ it' ≠ l')) → R (.ok (.ret v)) { s with heap := h', toks := tk' }) (hw : which = 5) : codeAny (model PySem.Challenge.rw_bb0046_01.row.prog w) (ktrTop dp un gd cn cs L a ccd cl outer) (.call (.ref 391) ⟨[.ref x, .int which tw, .int value tv], []⟩) R s := by
  obtain ⟨⟨es, n, rfl, hD⟩, hit, hpd, hlen, hcnt⟩ := hS
  obtain ⟨iterable, itor, again, depth, idx, len, aft, cur, bef, lcv⟩ := S
  dsimp only at hit hpd hD ret hcnt hidx hb
  subst hit
  refine' enterS Γ F N ?kA ?kF ?kK ?k6 ?k7 ?k8 ?k9 ?kB ?_ ?c2 ?c3 ?c4 ?c5
  case kA => exact rfl
  case kF => exact rfl
  case kK => assumption
  case k6 => k_is
  case k7 => k_is
  case k8 => k_room
  case k9 => first | exact BindsTo.of_eq rfl | exact binds_K (by k_in) rfl (by k_is) rfl rfl rfl
  case c5 => decide
  case kB => exact locs rfl
  case c2 => exact rfl
  case c3 => exact rfl
  case c4 => exact rfl
  intro g' L' h' FG' F' N' Γ' G'
  obtain ⟨B', X', T', XB', TB', D'⟩ := Γ'
  try dsimp only
  try k_fold
  obtain ⟨mf, FX, hv1, hv2, hv3⟩ := frNamed F' (fun m => m (Str.ofString "loop") = some (.ref x) ∧ m (Str.ofString "which") = some (.int which tw) ∧ m (Str.ofString "value") = some (.int value tv)) ⟨by kernel_rfl, by kernel_rfl, by kernel_rfl⟩
  clear F'
  have F' := FX
  clear FX
  have hl' : g'.get? l = some lo := G' _ _ hl (by simp only [List.map_cons, List.map_nil, List.mem_cons, List.not_mem_nil, or_false, not_or]; exact ⟨hlx, hld, hli⟩)
  have hnf := notFrame D' hl' hs
  have hits' := hits.mono FG'.keep
  subst hw
  k_steps
  all_goals
    (rename KtsTurn (fsOf _) g' _ => kT')
    (rename KtsTurn _ h₀ _ => kT)
    (rename Fr _ L _ m => kF)
    (rename News _ L _ _ => kN)
    (rename Fr _ L' _ _ => kF')
    (rename LoopD _ _ => kD)
    first
    | exact ret _ _ _ _ _ _ _ _ _ _ ⟨⟨_, _, rfl, kD⟩, rfl, by assumption, .inl rfl, hcnt⟩ ⟨rfl, rfl, rfl, rfl, rfl⟩ rfl ⟨_, rfl⟩ (T0.trans kT) ⟨by assumption, by assumption, by assumption, XB', TB', by assumption⟩ kF kN (keepsF_of G' kT' kF') (Fr.keep kF' _ _ (kT'.other _ _ hl' hnf)) hs (.inl ⟨rfl, rfl, rfl⟩)
    | exact ret _ _ _ _ _ _ _ _ _ _ ⟨⟨_, _, rfl, kD⟩, rfl, by assumption, .inl rfl, hcnt⟩ ⟨rfl, rfl, rfl, rfl, rfl⟩ rfl ⟨_, rfl⟩ (T0.trans kT) ⟨by assumption, by assumption, by assumption, XB', TB', by assumption⟩ kF (nw_sub kN fun p hp => List.mem_cons_of_mem _ hp) (keepsF_of G' kT' kF') (News.get kN (by k_mem)) (by assumption) (.inr ⟨fresh_back G' F' N' (by assumption), fresh_back G' F' N' (by assumption), by assumption⟩)
theorem askedB6 {dp un : Nat} {gd : Option (List Code)} {cn : Str} {cs : Scope} {a : Addr} {ccd : Value} {cl : List (Str × Addr)} {outer : List Env} {A₀ : Around} {base g₀ h₀ : Heap} {L : Addr} {m : Str → Option Value} {s : Shared} {R : Result → Shared → Prop} {x dx it l : Nat} {od io lo : Obj} {S : LS} {P : List Value} {Pn : List Int} {bn : Int} {k : Nat} {which value : Int} {tw tv : Tok} (Γ : Gr w p loose mean mg mb A₀ base outer h₀) (T0 : KtsTurn (fsOf outer) g₀ h₀) (F : Fr h₀ L s.heap m) (hk : cs.kind = .function) (hdp : dp + 60 < recursionLimit) (hun : un + 300 < cLine) (N : News h₀ L s.heap [(x, instObj 255 dx), (dx, od), (it, io)]) (hS : LoopSt it l od io lo S P k) (hits : ItemsIn h₀ P) (hl : s.heap.get? l = some lo) (hs : ∀ es n, lo.data ≠ .dict es n) (h1 : x ≠ dx) (h2 : x ≠ it) (h3 : dx ≠ it) (hlx : l ≠ x) (hld : l ≠ dx) (hli : l ≠ it) (hsz : k ≤ 1000) (hidx : -1 ≤ S.idx)
   (hP : RowNums s.heap P Pn) (hb : 0 < S.idx → ItemAt s.heap S.bef bn) (hbr : ∃ t : Nat, S.bef = .ref t)
   (ret : ∀ h₀' (it' l' : Nat) od' io' lo' S' h' tk' v, LoopSt it' l' od' io' lo' S' P k → LoopKeep S S' → S'.lcv = S.lcv → IsAns v (askAns S.idx S.depth bn Pn k which) → KtsTurn (fsOf outer) g₀ h₀' → Gr w p loose mean mg mb A₀ base outer h₀' → Fr h₀' L h' m → News h₀' L h' [(x, instObj 255 dx), (dx, od'), (it', io')] → KeepsF [x, dx, it] (L :: fsOf outer) s.heap h' →
     h'.get? l' = some lo' → (∀ es n, lo'.data ≠ .dict es n) → ((it' = it ∧ l' = l ∧ lo' = lo) ∨ (s.heap.get? it' = none ∧ s.heap.get? l' = none ∧ it' ≠ l')) → R (.ok (.ret v)) { s with heap := h', toks := tk' }) (hw : which = 6) : codeAny (model PySem.Challenge.rw_bb0046_01.row.prog w) (ktrTop dp un gd cn cs L a ccd cl outer) (.call (.ref 391) ⟨[.ref x, .int which tw, .int value tv], []⟩) R s := by
  obtain ⟨⟨es, n, rfl, hD⟩, hit, hpd, hlen, hcnt⟩ := hS
  obtain ⟨iterable, itor, again, depth, idx, len, aft, cur, bef, lcv⟩ := S
  dsimp only at hit hpd hD ret hcnt hidx hb
  subst hit
  refine' enterS Γ F N ?kA ?kF ?kK ?k6 ?k7 ?k8 ?k9 ?kB ?_ ?c2 ?c3 ?c4 ?c5
  case kA => exact rfl
  case kF => exact rfl
  case kK => assumption
  case k6 => k_is
  case k7 => k_is
  case k8 => k_room
  case k9 => first | exact BindsTo.of_eq rfl | exact binds_K (by k_in) rfl (by k_is) rfl rfl rfl
  case c5 => decide
  case kB => exact locs rfl
  case c2 => exact rfl
  case c3 => exact rfl
  case c4 => exact rfl
  intro g' L' h' FG' F' N' Γ' G'
  obtain ⟨B', X', T', XB', TB', D'⟩ := Γ'
  try dsimp only
  try k_fold
  obtain ⟨mf, FX, hv1, hv2, hv3⟩ := frNamed F' (fun m => m (Str.ofString "loop") = some (.ref x) ∧ m (Str.ofString "which") = some (.int which tw) ∧ m (Str.ofString "value") = some (.int value tv)) ⟨by kernel_rfl, by kernel_rfl, by kernel_rfl⟩
  clear F'
  have F' := FX
  clear FX
  have hl' : g'.get? l = some lo := G' _ _ hl (by simp only [List.map_cons, List.map_nil, List.mem_cons, List.not_mem_nil, or_false, not_or]; exact ⟨hlx, hld, hli⟩)
  have hnf := notFrame D' hl' hs
  have hits' := hits.mono FG'.keep
  subst hw
  k_steps
  all_goals
    (rename KtsTurn (fsOf _) g' _ => kT')
    (rename KtsTurn _ h₀ _ => kT)
    (rename Fr _ L _ m => kF)
    (rename News _ L _ _ => kN)
    (rename Fr _ L' _ _ => kF')
    (rename LoopD _ _ => kD)
    first
    | exact ret _ _ _ _ _ _ _ _ _ _ ⟨⟨_, _, rfl, kD⟩, rfl, by assumption, .inl rfl, hcnt⟩ ⟨rfl, rfl, rfl, rfl, rfl⟩ rfl ⟨_, rfl⟩ (T0.trans kT) ⟨by assumption, by assumption, by assumption, XB', TB', by assumption⟩ kF kN (keepsF_of G' kT' kF') (Fr.keep kF' _ _ (kT'.other _ _ hl' hnf)) hs (.inl ⟨rfl, rfl, rfl⟩)
    | exact ret _ _ _ _ _ _ _ _ _ _ ⟨⟨_, _, rfl, kD⟩, rfl, by assumption, .inl rfl, hcnt⟩ ⟨rfl, rfl, rfl, rfl, rfl⟩ rfl ⟨_, rfl⟩ (T0.trans kT) ⟨by assumption, by assumption, by assumption, XB', TB', by assumption⟩ kF (nw_sub kN fun p hp => List.mem_cons_of_mem _ hp) (keepsF_of G' kT' kF') (News.get kN (by k_mem)) (by assumption) (.inr ⟨fresh_back G' F' N' (by assumption), fresh_back G' F' N' (by assumption), by assumption⟩)
theorem askedB11 {dp un : Nat} {gd : Option (List Code)} {cn : Str} {cs : Scope} {a : Addr} {ccd : Value} {cl : List (Str × Addr)} {outer : List Env} {A₀ : Around} {base g₀ h₀ : Heap} {L : Addr} {m : Str → Option Value} {s : Shared} {R : Result → Shared → Prop} {x dx it l : Nat} {od io lo : Obj} {S : LS} {P : List Value} {Pn : List Int} {bn : Int} {k : Nat} {which value : Int} {tw tv : Tok} (Γ : Gr w p loose mean mg mb A₀ base outer h₀) (T0 : KtsTurn (fsOf outer) g₀ h₀) (F : Fr h₀ L s.heap m) (hk : cs.kind = .function) (hdp : dp + 60 < recursionLimit) (hun : un + 300 < cLine) (N : News h₀ L s.heap [(x, instObj 255 dx), (dx, od), (it, io)]) (hS : LoopSt it l od io lo S P k) (hits : ItemsIn h₀ P) (hl : s.heap.get? l = some lo) (hs : ∀ es n, lo.data ≠ .dict es n) (h1 : x ≠ dx) (h2 : x ≠ it) (h3 : dx ≠ it) (hlx : l ≠ x) (hld : l ≠ dx) (hli : l ≠ it) (hsz : k ≤ 1000) (hidx : -1 ≤ S.idx)
   (hP : RowNums s.heap P Pn) (hb : 0 < S.idx → ItemAt s.heap S.bef bn) (hbr : ∃ t : Nat, S.bef = .ref t)
   (ret : ∀ h₀' (it' l' : Nat) od' io' lo' S' h' tk' v, LoopSt it' l' od' io' lo' S' P k → LoopKeep S S' → S'.lcv = S.lcv → IsAns v (askAns S.idx S.depth bn Pn k which) → KtsTurn (fsOf outer) g₀ h₀' → Gr w p loose mean mg mb A₀ base outer h₀' → Fr h₀' L h' m → News h₀' L h' [(x, instObj 255 dx), (dx, od'), (it', io')] → KeepsF [x, dx, it] (L :: fsOf outer) s.heap h' →
     h'.get? l' = some lo' → (∀ es n, lo'.data ≠ .dict es n) → ((it' = it ∧ l' = l ∧ lo' = lo) ∨ (s.heap.get? it' = none ∧ s.heap.get? l' = none ∧ it' ≠ l')) → R (.ok (.ret v)) { s with heap := h', toks := tk' }) (hw : which = 11) : codeAny (model PySem.Challenge.rw_bb0046_01.row.prog w) (ktrTop dp un gd cn cs L a ccd cl outer) (.call (.ref 391) ⟨[.ref x, .int which tw, .int value tv], []⟩) R s := by
  obtain ⟨⟨es, n, rfl, hD⟩, hit, hpd, hlen, hcnt⟩ := hS
  obtain ⟨iterable, itor, again, depth, idx, len, aft, cur, bef, lcv⟩ := S
  dsimp only at hit hpd hD ret hcnt hidx hb
  subst hit
  refine' enterS Γ F N ?kA ?kF ?kK ?k6 ?k7 ?k8 ?k9 ?kB ?_ ?c2 ?c3 ?c4 ?c5
  case kA => exact rfl
  case kF => exact rfl
  case kK => assumption
  case k6 => k_is
  case k7 => k_is
  case k8 => k_room
  case k9 => first | exact BindsTo.of_eq rfl | exact binds_K (by k_in) rfl (by k_is) rfl rfl rfl
  case c5 => decide
  case kB => exact locs rfl
  case c2 => exact rfl
  case c3 => exact rfl
  case c4 => exact rfl
  intro g' L' h' FG' F' N' Γ' G'
  obtain ⟨B', X', T', XB', TB', D'⟩ := Γ'
  try dsimp only
  try k_fold
  obtain ⟨mf, FX, hv1, hv2, hv3⟩ := frNamed F' (fun m => m (Str.ofString "loop") = some (.ref x) ∧ m (Str.ofString "which") = some (.int which tw) ∧ m (Str.ofString "value") = some (.int value tv)) ⟨by kernel_rfl, by kernel_rfl, by kernel_rfl⟩
  clear F'
  have F' := FX
  clear FX
  have hl' : g'.get? l = some lo := G' _ _ hl (by simp only [List.map_cons, List.map_nil, List.mem_cons, List.not_mem_nil, or_false, not_or]; exact ⟨hlx, hld, hli⟩)
  have hnf := notFrame D' hl' hs
  have hits' := hits.mono FG'.keep
  subst hw
  k_steps
  all_goals
    (rename KtsTurn (fsOf _) g' _ => kT')
    (rename KtsTurn _ h₀ _ => kT)
    (rename Fr _ L _ m => kF)
    (rename News _ L _ _ => kN)
    (rename Fr _ L' _ _ => kF')
    (rename LoopD _ _ => kD)
    first
    | exact ret _ _ _ _ _ _ _ _ _ _ ⟨⟨_, _, rfl, kD⟩, rfl, by assumption, .inl rfl, hcnt⟩ ⟨rfl, rfl, rfl, rfl, rfl⟩ rfl ⟨_, rfl⟩ (T0.trans kT) ⟨by assumption, by assumption, by assumption, XB', TB', by assumption⟩ kF kN (keepsF_of G' kT' kF') (Fr.keep kF' _ _ (kT'.other _ _ hl' hnf)) hs (.inl ⟨rfl, rfl, rfl⟩)
    | exact ret _ _ _ _ _ _ _ _ _ _ ⟨⟨_, _, rfl, kD⟩, rfl, by assumption, .inl rfl, hcnt⟩ ⟨rfl, rfl, rfl, rfl, rfl⟩ rfl ⟨_, rfl⟩ (T0.trans kT) ⟨by assumption, by assumption, by assumption, XB', TB', by assumption⟩ kF (nw_sub kN fun p hp => List.mem_cons_of_mem _ hp) (keepsF_of G' kT' kF') (News.get kN (by k_mem)) (by assumption) (.inr ⟨fresh_back G' F' N' (by assumption), fresh_back G' F' N' (by assumption), by assumption⟩)
end
end

/-! ## ME -/
/-- the law's list of the last asked value -/
def LastObj : Option Int → Obj → Prop
  | none, o => ∃ ep, o = listOf #[] ep
  | some v, o => ∃ t ep, o = listOf #[.int v t] ep
def ahead (ns : List Int) (at_ : Int) : Ans := if at_ < 0 then .s "any" else if at_ = 0 then .s "none" else .i (ns.getD (at_ - 1).toNat 0)
def behind (ns : List Int) (at_ : Int) : Ans := if at_ + 1 < ns.length then .i (ns.getD (at_ + 1).toNat 0) else .s "none"
def dueAns (ns : List Int) (at_ deep : Int) (which : Int) : Ans :=
  if which = 0 then .i (at_ + 1) else if which = 1 then .i at_ else if which = 2 then .b (at_ == 0) else if which = 3 then .b (at_ + 1 == (ns.length : Int)) else if which = 4 then .i ns.length
  else if which = 5 then .i (ns.length - at_) else if which = 6 then .i (ns.length - at_ - 1) else if which = 7 then .i (deep * 10 + 10 + deep)
  else if which = 8 then ahead ns at_ else if which = 9 then behind ns at_ else if which = 10 then .s (abc (at_ % 3)) else .i ns.length
theorem RowNums.length {h : Heap} : ∀ {vs : List Value} {ns : List Int}, RowNums h vs ns → vs.length = ns.length
  | _, _, .nil => rfl
  | _, _, .cons _ r => by rw [List.length_cons, List.length_cons, r.length]
theorem RowNums.at {h : Heap} : ∀ {vs : List Value} {ns : List Int} (i : Nat), RowNums h vs ns → i < ns.length → ∃ v, vs[i]? = some v ∧ ItemAt h v (ns.getD i 0)
  | _, _, _, .nil, hi => by cases hi
  | _, _, 0, .cons a _, _ => ⟨_, rfl, a⟩
  | _, _, i + 1, .cons _ r, hi => by
    obtain ⟨v, e, q⟩ := r.at i (Nat.lt_of_succ_lt_succ hi)
    exact ⟨v, by rw [List.getElem?_cons_succ]; exact e, by simpa using q⟩
section
local macro_rules | `(tactic| ke_room) => `(tactic| k_units)
local macro_rules | `(tactic| units_room) => `(tactic| k_units)
local macro_rules | `(tactic| walk_at "call builtin:list.clear") => `(tactic| (k_here; (with_reducible show wpAny _ _ (call (Value.builtin _) [Value.ref _]) _ _ _); k_dflt ((first | with_reducible refine' kl_clear0 ?F ?N ?U ?_ | refine' kl_clear0 ?F ?N ?U ?_); (case F => k_asm); (case N => k_asm); (case U => k_upd)); k_whole; intro h' F' N'; (try k_sweep)))
section
local macro_rules | `(tactic| walk_at "subscriptTail") => `(tactic| (k_here; (with_reducible show wpAny _ _ (subscriptTail _ _ (Value.ref _) (Value.int _ _)) _ _ _); (with_unfolding_all (first | with_reducible refine' k_itemA ?t ?h0 ?z ?k ?_ ?k6 | refine' k_itemA ?t ?h0 ?z ?k ?_ ?k6); (case t => (first | exact Fr.keep (by k_asm) _ _ (by k_asm) | exact Fr.keep (by k_asm) _ _ (Fr.keep (by k_asm) _ _ (by k_asm)) | exact Fr.keep (by k_asm) _ _ (KtsTurn.other (by assumption) _ _ (by assumption) (by assumption)) | ((first | with_reducible refine' News.get ?N ?m | refine' News.get ?N ?m); (case N => k_asm); (case m => k_mem)))); (case h0 => omega); (case z => (simp only [List.length_cons, List.length_nil]; omega)); (case k => (simp only [List.length_cons, List.length_nil]; omega)); (case k6 => with_unfolding_all rfl); k_whole); intro x' hx'))
local macro_rules | `(tactic| walk_at "subscriptTail Name BinOp ref int") => `(tactic| (k_here; (with_reducible show wpAny _ _ (subscriptTail _ _ (Value.ref _) (Value.int _ _)) _ _ _); (with_unfolding_all (first | with_reducible refine' k_itemA ?t ?h0 ?z ?k ?_ ?k6 | refine' k_itemA ?t ?h0 ?z ?k ?_ ?k6); (case t => (first | exact Fr.keep (by k_asm) _ _ (by k_asm) | exact Fr.keep (by k_asm) _ _ (Fr.keep (by k_asm) _ _ (by k_asm)) | exact Fr.keep (by k_asm) _ _ (KtsTurn.other (by assumption) _ _ (by assumption) (by assumption)) | ((first | with_reducible refine' News.get ?N ?m | refine' News.get ?N ?m); (case N => k_asm); (case m => k_mem)))); (case h0 => omega); (case z => (simp only [List.length_cons, List.length_nil]; omega)); (case k => (simp only [List.length_cons, List.length_nil]; omega)); (case k6 => with_unfolding_all rfl); k_whole); intro x' hx'))
local macro_rules | `(tactic| walk_at "subscriptTail Name Name ref int") => `(tactic| (k_here; (with_reducible show wpAny _ _ (subscriptTail _ _ (Value.ref _) (Value.int _ _)) _ _ _); (with_unfolding_all (first | with_reducible refine' k_itemA ?t ?h0 ?z ?k ?_ ?k6 | refine' k_itemA ?t ?h0 ?z ?k ?_ ?k6); (case t => (first | exact Fr.keep (by k_asm) _ _ (by k_asm) | exact Fr.keep (by k_asm) _ _ (Fr.keep (by k_asm) _ _ (by k_asm)) | exact Fr.keep (by k_asm) _ _ (KtsTurn.other (by assumption) _ _ (by assumption) (by assumption)) | ((first | with_reducible refine' News.get ?N ?m | refine' News.get ?N ?m); (case N => k_asm); (case m => k_mem)))); (case h0 => omega); (case z => (simp only [List.length_cons, List.length_nil]; omega)); (case k => (simp only [List.length_cons, List.length_nil]; omega)); (case k6 => with_unfolding_all rfl); k_whole); intro x' hx'))
local macro_rules | `(tactic| walk_at "subscriptTail") => `(tactic| (k_here; (with_reducible show wpAny _ _ (subscriptTail _ _ (Value.ref _) (Value.int _ _)) _ _ _); (with_unfolding_all (first | with_reducible refine' k_itemL ?t ?h0 ?z ?x ?_ ?k6 | refine' k_itemL ?t ?h0 ?z ?x ?_ ?k6); (case x => with_reducible assumption); (case t => (first | exact Fr.keep (by k_asm) _ _ (by k_asm) | exact Fr.keep (by k_asm) _ _ (Fr.keep (by k_asm) _ _ (by k_asm)) | exact Fr.keep (by k_asm) _ _ (KtsTurn.other (by assumption) _ _ (by assumption) (by assumption)) | ((first | with_reducible refine' News.get ?N ?m | refine' News.get ?N ?m); (case N => k_asm); (case m => k_mem)))); (case h0 => omega); (case z => omega); (case k6 => with_unfolding_all rfl); k_whole)))
local macro_rules | `(tactic| walk_at "subscriptTail Name BinOp ref int") => `(tactic| (k_here; (with_reducible show wpAny _ _ (subscriptTail _ _ (Value.ref _) (Value.int _ _)) _ _ _); (with_unfolding_all (first | with_reducible refine' k_itemL ?t ?h0 ?z ?x ?_ ?k6 | refine' k_itemL ?t ?h0 ?z ?x ?_ ?k6); (case x => with_reducible assumption); (case t => (first | exact Fr.keep (by k_asm) _ _ (by k_asm) | exact Fr.keep (by k_asm) _ _ (Fr.keep (by k_asm) _ _ (by k_asm)) | exact Fr.keep (by k_asm) _ _ (KtsTurn.other (by assumption) _ _ (by assumption) (by assumption)) | ((first | with_reducible refine' News.get ?N ?m | refine' News.get ?N ?m); (case N => k_asm); (case m => k_mem)))); (case h0 => omega); (case z => omega); (case k6 => with_unfolding_all rfl); k_whole)))
local macro_rules | `(tactic| walk_at "subscriptTail Name Name ref int") => `(tactic| (k_here; (with_reducible show wpAny _ _ (subscriptTail _ _ (Value.ref _) (Value.int _ _)) _ _ _); (with_unfolding_all (first | with_reducible refine' k_itemL ?t ?h0 ?z ?x ?_ ?k6 | refine' k_itemL ?t ?h0 ?z ?x ?_ ?k6); (case x => with_reducible assumption); (case t => (first | exact Fr.keep (by k_asm) _ _ (by k_asm) | exact Fr.keep (by k_asm) _ _ (Fr.keep (by k_asm) _ _ (by k_asm)) | exact Fr.keep (by k_asm) _ _ (KtsTurn.other (by assumption) _ _ (by assumption) (by assumption)) | ((first | with_reducible refine' News.get ?N ?m | refine' News.get ?N ?m); (case N => k_asm); (case m => k_mem)))); (case h0 => omega); (case z => omega); (case k6 => with_unfolding_all rfl); k_whole)))
local macro_rules | `(tactic| walk_at "ite") => `(tactic| (k_here; first
  | (refine PySem.W.ite_pos (by ((try simp only [beq_iff_eq, decide_eq_true_eq, ge_iff_le, gt_iff_lt]); omega)) ?_)
  | (refine PySem.W.ite_neg (by ((try simp only [beq_iff_eq, decide_eq_true_eq, ge_iff_le, gt_iff_lt]); omega)) ?_)))
theorem reset_ME : True := by
  w_top off
  trivial
section
variable {w : World} {p : Program} {loose : List Str} {mean : ExcName → Option Value} {mg mb : Str → Option Value}
theorem due12 {dp un : Nat} {gd : Option (List Code)} {cn : Str} {cs : Scope} {a : Addr} {ccd : Value} {cl : List (Str × Addr)} {outer : List Env} {A₀ : Around} {base h₀ : Heap} {L : Addr} {m : Str → Option Value} {s : Shared} {Q E : Value → Shared → Prop} {lr la : Nat} {ola lo : Obj} {at_ deep value : Int} {t1 t2 t3 t4 : Tok} {last : Option Int}
   {vs : List Value} {ep : Nat} (B : Below A₀ base outer h₀) (F : Fr h₀ L s.heap m) (X : (hd.heap_39 w.params).In h₀) (T : Top p loose mean mg mb h₀) (hk : cs.kind = .function) (hdp : dp + 20 < recursionLimit) (hun : un + 150 < cLine) (N : News h₀ L s.heap [(la, ola)]) (hola : LastObj last ola) (hlr : s.heap.get? lr = some (listOf vs.toArray ep)) (hne : lr ≠ la) (hlen : vs.length ≤ 1000)
   (ret : ∀ ola' h' tk', LastObj (some value) ola' → Fr h₀ L h' m → News h₀ L h' [(la, ola')] → Keeps [la] s.heap h' → Q (.bool (decide (last ≠ some value))) { s with heap := h', toks := tk' }) :
   wpAny (model PySem.Challenge.rw_bb0046_01.row.prog w) (ktrTop dp un gd cn cs L a ccd cl outer) (call (.ref 405) [.ref lr, .int at_ t1, .int deep t2, .int 12 t3, .int value t4, .ref la]) Q E s := by
  refine wpAny_call ?_
  refine' code_defG ?k1 ?k2 ?k3 ?k4 ?k5 ?kA ?kF ?kK ?k6 ?k7 ?k8 ?k9 ?kB ?_ ?c2 ?c3 ?c4 ?c5
  case kA => exact rfl
  case kF => exact rfl
  case kK => assumption
  case k1 => k_asm
  case k2 => k_asm
  case k3 => k_asm
  case k4 => exact N
  case k5 => k_asm
  case k6 => k_is
  case k7 => k_is
  case k8 => k_room
  case k9 => first | exact BindsTo.of_eq rfl | exact binds_K (by k_in) rfl (by k_is) rfl rfl rfl
  case c5 => decide
  case kB => exact locs rfl
  case c2 => exact rfl
  case c3 => exact rfl
  case c4 => exact rfl
  intro g' L' h' FG' F' N' B' X' T' G'
  try dsimp only
  try k_fold
  have hl' : g'.get? lr = some (listOf vs.toArray ep) := G' _ _ hlr (by simp only [List.map_cons, List.map_nil, List.mem_cons, List.not_mem_nil, or_false, not_or]; exact hne)
  cases last with
  | none =>
    obtain ⟨ep2, rfl⟩ := hola
    k_steps
    (rename Fr h₀ _ _ _ => kF)
    (rename News h₀ _ _ _ => kN)
    have e : (!decide (([] : List Int) = [value])) = decide ((none : Option Int) ≠ some value) := by simp
    rw [e]
    exact ret _ _ _ ⟨_, _, rfl⟩ kF (nw_one kN (by k_mem)) (Keeps.of_sub G' (by k_asm))
  | some v =>
    obtain ⟨t, ep2, rfl⟩ := hola
    k_steps
    (rename Fr h₀ _ _ _ => kF)
    (rename News h₀ _ _ _ => kN)
    have e : (!decide ([v] = [value])) = decide ((some v : Option Int) ≠ some value) := by simp
    rw [e]
    exact ret _ _ _ ⟨_, _, rfl⟩ kF (nw_one kN (by k_mem)) (Keeps.of_sub G' (by k_asm))
theorem dueN {dp un : Nat} {gd : Option (List Code)} {cn : Str} {cs : Scope} {a : Addr} {ccd : Value} {cl : List (Str × Addr)} {outer : List Env} {A₀ : Around} {base h₀ : Heap} {L : Addr} {m : Str → Option Value} {s : Shared} {Q E : Value → Shared → Prop} {lr la : Nat} {ola lo : Obj} {at_ deep which value : Int} {t1 t2 t3 t4 : Tok} {ns : List Int}
   {vs : List Value} {ep : Nat} (B : Below A₀ base outer h₀) (F : Fr h₀ L s.heap m) (X : (hd.heap_39 w.params).In h₀) (T : Top p loose mean mg mb h₀) (hk : cs.kind = .function) (hdp : dp + 20 < recursionLimit) (hun : un + 150 < cLine) (hlr : s.heap.get? lr = some (listOf vs.toArray ep)) (hR : RowNums s.heap vs ns) (hlen : ns.length ≤ 1000)
   (hw0 : 0 ≤ which) (hw : which < 12) (ha0 : -1 ≤ at_) (ha1 : at_ < ns.length)
   (ret : ∀ h' tk' v, IsAns v (dueAns ns at_ deep which) → Fr h₀ L h' m → Keeps [] s.heap h' → Q v { s with heap := h', toks := tk' }) :
   wpAny (model PySem.Challenge.rw_bb0046_01.row.prog w) (ktrTop dp un gd cn cs L a ccd cl outer) (call (.ref 405) [.ref lr, .int at_ t1, .int deep t2, .int which t3, .int value t4, .ref la]) Q E s := by
  have N : News h₀ L s.heap [] := News.nil
  refine wpAny_call ?_
  refine' code_defG ?k1 ?k2 ?k3 ?k4 ?k5 ?kA ?kF ?kK ?k6 ?k7 ?k8 ?k9 ?kB ?_ ?c2 ?c3 ?c4 ?c5
  case kA => exact rfl
  case kF => exact rfl
  case kK => assumption
  case k1 => k_asm
  case k2 => k_asm
  case k3 => k_asm
  case k4 => exact N
  case k5 => k_asm
  case k6 => k_is
  case k7 => k_is
  case k8 => k_room
  case k9 => first | exact BindsTo.of_eq rfl | exact binds_K (by k_in) rfl (by k_is) rfl rfl rfl
  case c5 => decide
  case kB => exact locs rfl
  case c2 => exact rfl
  case c3 => exact rfl
  case c4 => exact rfl
  intro g' L' h' FG' F' N' B' X' T' G'
  try dsimp only
  try k_fold
  have hl' : g'.get? lr = some (listOf vs.toArray ep) := G' _ _ hlr List.not_mem_nil
  have hRg : RowNums g' vs ns := hR.mono fun t its n ht => G' _ _ ht List.not_mem_nil
  have hvl := hRg.length
  have hlen' : vs.length ≤ 1000 := by omega
  have hA : 0 < at_ → ∃ t lb tk, vs[(at_ - 1).toNat]? = some (.ref t) ∧ g'.get? t = some (tupOf #[.int (ns.getD (at_ - 1).toNat 0) tk, .ref lb] 0) := fun h => by
    obtain ⟨v, e, t, lb, tk, rfl, _, q⟩ := hRg.at (at_ - 1).toNat (by omega)
    exact ⟨t, lb, tk, e, q⟩
  have hB : at_ + 1 < ns.length → ∃ t lb tk, vs[(at_ + 1).toNat]? = some (.ref t) ∧ g'.get? t = some (tupOf #[.int (ns.getD (at_ + 1).toNat 0) tk, .ref lb] 0) := fun h => by
    obtain ⟨v, e, t, lb, tk, rfl, _, q⟩ := hRg.at (at_ + 1).toNat (by omega)
    exact ⟨t, lb, tk, e, q⟩
  obtain ⟨Mid, hMid⟩ : ∃ Mid : Shared → Prop, Mid = fun s' => ∃ va vb m' h2 tk2, s' = { s with heap := h2, toks := tk2 } ∧ Fr g' L' h2 m' ∧ m' "at" = some (.int at_ t1) ∧ m' "deep" = some (.int deep t2) ∧ m' "which" = some (.int which t3) ∧ (∃ tm, m' "many" = some (.int (vs.length : Int) tm)) ∧ m' "ahead" = some va ∧ m' "behind" = some vb ∧ IsAns va (ahead ns at_) ∧ IsAns vb (behind ns at_) := ⟨_, rfl⟩
  refine execs_split Mid 5 _ ?_ ?_
  · simp only [List.take_succ_cons, List.take_zero]
    have eA : ∀ t, 0 < at_ → IsAns (.int (ns.getD (at_ - 1).toNat 0) t) (ahead ns at_) := fun t h => by
      unfold ahead; rw [if_neg (by omega), if_neg (by omega)]; exact ⟨_, rfl⟩
    have eA0 : ∀ t, at_ = 0 → IsAns (.str "none" t) (ahead ns at_) := fun t h => by
      unfold ahead; rw [if_neg (by omega), if_pos h]; exact ⟨_, rfl⟩
    have eA1 : ∀ t, at_ < 0 → IsAns (.str "any" t) (ahead ns at_) := fun t h => by
      unfold ahead; rw [if_pos h]; exact ⟨_, rfl⟩
    have eB : ∀ t, at_ + 1 < ns.length → IsAns (.int (ns.getD (at_ + 1).toNat 0) t) (behind ns at_) := fun t h => by
      unfold behind; rw [if_pos h]; exact ⟨_, rfl⟩
    have eB0 : ∀ t, ¬ at_ + 1 < ns.length → IsAns (.str "none" t) (behind ns at_) := fun t h => by
      unfold behind; rw [if_neg h]; exact ⟨_, rfl⟩
    by_cases c1 : at_ + 1 < ns.length
    · obtain ⟨tb, lb, tkb, hbx, hbt⟩ := hB c1
      by_cases c2 : 0 < at_
      · obtain ⟨ta, la', tka, hax, hat⟩ := hA c2
        k_steps
        all_goals (rename Fr g' L' _ _ => kF)
        all_goals rw [hMid]
        all_goals exact ⟨_, _, _, _, _, rfl, kF, rfl, rfl, rfl, ⟨_, rfl⟩, rfl, rfl, eA _ c2, eB _ c1⟩
      · k_steps
        all_goals (rename Fr g' L' _ _ => kF)
        all_goals rw [hMid]
        all_goals first | exact ⟨_, _, _, _, _, rfl, kF, rfl, rfl, rfl, ⟨_, rfl⟩, rfl, rfl, eA1 _ (by omega), eB _ c1⟩ | exact ⟨_, _, _, _, _, rfl, kF, rfl, rfl, rfl, ⟨_, rfl⟩, rfl, rfl, eA0 _ (by omega), eB _ c1⟩
    · by_cases c2 : 0 < at_
      · obtain ⟨ta, la', tka, hax, hat⟩ := hA c2
        k_steps
        all_goals (rename Fr g' L' _ _ => kF)
        all_goals rw [hMid]
        all_goals exact ⟨_, _, _, _, _, rfl, kF, rfl, rfl, rfl, ⟨_, rfl⟩, rfl, rfl, eA _ c2, eB0 _ c1⟩
      · k_steps
        all_goals (rename Fr g' L' _ _ => kF)
        all_goals rw [hMid]
        all_goals first | exact ⟨_, _, _, _, _, rfl, kF, rfl, rfl, rfl, ⟨_, rfl⟩, rfl, rfl, eA1 _ (by omega), eB0 _ c1⟩ | exact ⟨_, _, _, _, _, rfl, kF, rfl, rfl, rfl, ⟨_, rfl⟩, rfl, rfl, eA0 _ (by omega), eB0 _ c1⟩
  · simp only [List.drop_succ_cons, List.drop_zero]
    clear F' N'
    intro s' hs'
    rw [hMid] at hs'
    obtain ⟨va, vb, m', h2, tk2, rfl, F', q1, q2, q3, ⟨tm, q4⟩, q5, q6, iA, iB⟩ := hs'
    have N' : News g' L' h2 [] := News.nil
    k_steps
    (rename Fr g' L' _ _ => kF')
    (rename Fr h₀ L _ m => kF)
    (rename _ = some _ => hx)
    rw [hvl] at hx
    have e3 : at_.fmod 3 = at_ % 3 := Int.fmod_eq_emod_of_nonneg at_ (by decide)
    rw [e3] at hx
    refine ret _ _ _ ?_ kF (Keeps.of_sub G' kF')
    have hc : which = 0 ∨ which = 1 ∨ which = 2 ∨ which = 3 ∨ which = 4 ∨ which = 5 ∨ which = 6 ∨ which = 7 ∨ which = 8 ∨ which = 9 ∨ which = 10 ∨ which = 11 := by omega
    rcases hc with rfl | rfl | rfl | rfl | rfl | rfl | rfl | rfl | rfl | rfl | rfl | rfl
    all_goals
      have e := Option.some.inj hx
      rw [← e]
    all_goals first
      | exact ⟨_, rfl⟩
      | exact rfl
      | exact iA
      | exact iB
      | skip
    have hm : at_ % 3 = 0 ∨ at_ % 3 = 1 ∨ at_ % 3 = 2 := by omega
    have hq : Txt.item "abc" (at_ % 3) = abc (at_ % 3) := by
      rcases hm with q | q | q <;> rw [q] <;> rfl
    rw [hq]
    exact ⟨_, rfl⟩
end

/-! ## MG -/
theorem missing_cls {w : World} : ∃ nm q N bs hdct sn sub ab col dd k0 k1 k2 k3 k5 newId oc od es ep sl, (hd.heap_39 w.params).lookup 86 = some (excClassObj nm q 86 N bs [.type "object"] hdct sn sub ab col dd k0 k1 k2 k3 k5 newId) ∧ (hd.heap_39 w.params).lookup N = some ⟨oc, od, .dict es ep, sl⟩ ∧ StrKeys es ∧ nsFind es "__eq__" = none ∧ nsFind es "__ne__" = none := by
  refine ⟨_, _, _, _, _, _, _, _, _, _, _, _, _, _, _, _, _, _, _, _, _, by k_is, by k_is, ?_, ?_, ?_⟩
  · intro e he
    simp at he
    rcases he with rfl | rfl | rfl | rfl | rfl | rfl | rfl
    all_goals exact ⟨_, _, rfl⟩
  · kernel_rfl
  · kernel_rfl
section
variable {prog : Program} {w : World} {A : Around} {E : Value → Shared → Prop} {h : Heap} {g : Array GenState} {d : Drawn} {t : Nat} {os : OsState} {y : Addr} {its : Array Value} {k : Nat}
theorem missing_inst (X : (hd.heap_39 w.params).In h) : h.CmpInst 92 86 [.type "object"] := by
  obtain ⟨nm, q, N, bs, hdct, sn, sub, ab, col, dd, k0, k1, k2, k3, k5, newId, oc, od, es, ep, sl, a1, a2, a3, a4, a5⟩ := missing_cls (w := w)
  obtain ⟨oc', od', dt', sl', e⟩ : ∃ oc od dt sl, (hd.heap_39 w.params).lookup 92 = some ⟨.ref oc, od, dt, sl⟩ ∧ oc = 86 := ⟨_, _, _, _, by k_is, rfl⟩
  exact ⟨_, nm, q, N, bs, hdct, sn, sub, ab, col, dd, k0, k1, k2, k3, k5, newId, nsFind es, X _ _ e.1, by rw [e.2], X _ _ a1, ⟨_, _, _, X _ _ a2, rfl, a3, fun _ => rfl⟩, a4, a5⟩
theorem tup_ne_missing (X : (hd.heap_39 w.params).In h) (hy : h.get? y = some (tupOf its k)) {Q : Option Value → Shared → Prop} (hq : Q none ⟨h, g, d, t, os⟩) :
    wpAny (model prog w) A (tryCompare (.ref y) "__ne__" (.ref 92)) Q E ⟨h, g, d, t, os⟩ := by
  obtain ⟨o, nm, q, N, bs, hdct, sn, sub, ab, col, dd, k0, k1, k2, k3, k5, newId, mN, hx, hc, hC, hn, _, hne⟩ := missing_inst X
  refine wpAny_tryCompare_declines (T := "tuple") ⟨_, hy, rfl⟩ F.slot_tuple_ne (wpAny_call_entry F.slot_tuple_ne ⟨_, hy, rfl⟩ F.entry_tuple_ne ?_ (F.args_tuple_ne_2 _ _))
  unfold Builtin.«tuple.__ne__»
  wp_walk using wpAny_loadPart' hy, wpAny_loadPart' hx
  rw [hc]
  refine wpAny_isSubtype_exc hC ?_
  rw [show (Value.ref 86 :: [Value.type "object"]).contains (.type "tuple") = false by decide]
  exact wpAny_pure ⟨_, rfl, rfl, hq⟩
theorem ne_missing_tup (X : (hd.heap_39 w.params).In h) (hy : h.get? y = some (tupOf its k)) (hu : A.units + 1 < cLine) {Q : Value → Shared → Prop} (hq : Q (.bool true) ⟨h, g, d, t, os⟩) :
    wpAny (model prog w) A (compareOp .NotEq (.ref 92) (.ref y)) Q E ⟨h, g, d, t, os⟩ := by
  have XI := missing_inst X
  obtain ⟨ox, nm, q, N, bs, hdct, sn, sub, ab, col, dd, k0, k1, k2, k3, k5, newId, mN, hx, hc, hC, hn, _, hne⟩ := id XI
  have hu0 : A.units < cLine := Nat.lt_of_succ_lt hu
  have hxy : (92 : Addr) ≠ y := fun e => by
    rw [← e, hx] at hy
    rw [Option.some.inj hy] at hc; cases hc
  show wpAny _ _ (richCompare .NotEq (.ref 92) (.ref y)) _ _ _
  simp only [richCompare, PySem.cmpInfo_NotEq, oneThing_ref]
  repeat (first | with_reducible refine wpAny_cRoomFor hu0 ?_ | (with_reducible refine wpAny_loadPart_at hx ?_; rw [hc]) | (with_reducible refine wpAny_loadPart_at hy ?_) | with_reducible refine tryCompare_ne_other PySem.F.cmp_object XI hy hxy hu ?_ | with_reducible refine tup_ne_missing X hy ?_ | with_reducible refine wpAny_isSame_ref_other hxy hx hy (XI.noTuple hx) ?_ | wp_step)
  have LS := looks_subIn (M := model prog w) X (show subIn (hd.heap_39 w.params) (.type "tuple") (.ref 86) = some false from by k_is)
  show wpAny _ _ (isSubtype (.type "tuple") (.ref 86)) _ _ _
  refine LS.at ?_
  repeat (first | with_reducible refine wpAny_cRoomFor hu0 ?_ | (with_reducible refine wpAny_loadPart_at hx ?_; rw [hc]) | (with_reducible refine wpAny_loadPart_at hy ?_) | with_reducible refine tryCompare_ne_other PySem.F.cmp_object XI hy hxy hu ?_ | with_reducible refine tup_ne_missing X hy ?_ | with_reducible refine wpAny_isSame_ref_other hxy hx hy (XI.noTuple hx) ?_ | wp_step)
  exact hq
theorem ne_tup1 {s : Shared} {a b : Addr} {v1 v2 : Int} {t1 t2 : Tok} {k1 k2 : Nat} (ha : s.heap.get? a = some (tupOf #[.int v1 t1] k1)) (hb : s.heap.get? b = some (tupOf #[.int v2 t2] k2)) (hu : A.units + 64 < cLine) {Q : Value → Shared → Prop} (hq : Q (.bool (!decide (v1 = v2))) s) :
    wpAny (model prog w) A (compareOp .NotEq (.ref a) (.ref b)) Q E s := by
  refine ne_dataH (reads_tuple_at ha rfl rfl (.cons (Reads.int _ _) .nil)) (reads_tuple_at hb rfl rfl (.cons (Reads.int _ _) .nil)) ?_ ?_ hu ?_
  · rfl
  · rfl
  · simp only [PyData.eqv, PyData.eqvAll, Bool.and_true]
    exact hq
end
end

/-! ## MF -/
section
local macro_rules | `(tactic| walk_at "compareOp NotEq ref ref") => `(tactic| (k_here; (with_reducible show wpAny _ _ (compareOp CmpOp.NotEq (Value.ref _) (Value.ref _)) _ _ _); k_dflt ((first | with_reducible refine' ne_tup1 ?a ?b ?u ?_ | refine' ne_tup1 ?a ?b ?u ?_); (case a => (first | exact Fr.keep (by k_asm) _ _ (by k_asm) | exact Fr.keep (by k_asm) _ _ (Fr.keep (by k_asm) _ _ (by k_asm)) | exact Fr.keep (by k_asm) _ _ (KtsTurn.other (by assumption) _ _ (by assumption) (by assumption)) | ((first | with_reducible refine' News.get ?N ?m | refine' News.get ?N ?m); (case N => k_asm); (case m => k_mem)))); (case b => (first | exact Fr.keep (by k_asm) _ _ (by k_asm) | exact Fr.keep (by k_asm) _ _ (Fr.keep (by k_asm) _ _ (by k_asm)) | exact Fr.keep (by k_asm) _ _ (KtsTurn.other (by assumption) _ _ (by assumption) (by assumption)) | ((first | with_reducible refine' News.get ?N ?m | refine' News.get ?N ?m); (case N => k_asm); (case m => k_mem)))); (case u => ((try simp only [units_in1, units_deeper, Around.mark_units, units_caller]); (try dsimp only [ktrTop]); omega))); k_whole))
local macro_rules | `(tactic| walk_at "compareOp NotEq ref ref") => `(tactic| (k_here; (with_reducible show wpAny _ _ (compareOp CmpOp.NotEq (Value.ref 92) (Value.ref _)) _ _ _); k_dflt ((first | with_reducible refine' ne_missing_tup ?X ?y ?u ?_ | refine' ne_missing_tup ?X ?y ?u ?_); (case X => k_in); (case y => (first | exact Fr.keep (by k_asm) _ _ (by k_asm) | exact Fr.keep (by k_asm) _ _ (Fr.keep (by k_asm) _ _ (by k_asm)) | exact Fr.keep (by k_asm) _ _ (KtsTurn.other (by assumption) _ _ (by assumption) (by assumption)) | ((first | with_reducible refine' News.get ?N ?m | refine' News.get ?N ?m); (case N => k_asm); (case m => k_mem)))); (case u => ((try simp only [units_in1, units_deeper, Around.mark_units, units_caller]); (try dsimp only [ktrTop]); omega))); k_whole))
theorem reset_MF : True := by
  w_top off
  trivial
section
variable {w : World} {p : Program} {loose : List Str} {mean : ExcName → Option Value} {mg mb : Str → Option Value}
theorem askedF {dp un : Nat} {gd : Option (List Code)} {cn : Str} {cs : Scope} {a : Addr} {ccd : Value} {cl : List (Str × Addr)} {outer : List Env} {A₀ : Around} {base h₀ : Heap} {L : Addr} {m : Str → Option Value} {s : Shared} {Q E : Value → Shared → Prop} {x dx it l : Nat} {od io lo : Obj} {S : LS} {P : List Value} {k : Nat} {value : Int} {tw tv : Tok} {last : Option Int}
   (B : Below A₀ base outer h₀) (F : Fr h₀ L s.heap m) (X : (hd.heap_39 w.params).In h₀) (T : Top p loose mean mg mb h₀) (hk : cs.kind = .function) (hdp : dp + 60 < recursionLimit) (hun : un + 300 < cLine)
   (N : News h₀ L s.heap [(x, instObj 255 dx), (dx, od), (it, io)]) (hS : LoopSt it l od io lo S P k) (h1 : x ≠ dx) (h2 : x ≠ it) (h3 : dx ≠ it) (hlc : LcvOk s.heap S.lcv last)
   (ret : ∀ (tq : Nat) tt od' h' tk', LoopSt it l od' io lo { S with lcv := .ref tq } P k → tq ≠ 92 → h'.get? tq = some (tupOf #[.int value tt] 0) → (S.lcv = .ref tq ∨ s.heap.get? tq = none) → Fr h₀ L h' m → News h₀ L h' [(x, instObj 255 dx), (dx, od'), (it, io)] → Keeps [x, dx, it] s.heap h' → Q (.bool (decide (last ≠ some value))) { s with heap := h', toks := tk' }) :
   wpAny (model PySem.Challenge.rw_bb0046_01.row.prog w) (ktrTop dp un gd cn cs L a ccd cl outer) (call (.ref 391) [.ref x, .int 12 tw, .int value tv]) Q E s := by
  have htri := tri_notTup (x := x) (dx := dx) hS
  obtain ⟨⟨es, n, rfl, hD⟩, hit, hpd, hlen, hcnt⟩ := hS
  obtain ⟨iterable, itor, again, depth, idx, len, aft, cur, bef, lcv⟩ := S
  dsimp only at hit hpd hD ret hcnt hlc
  subst hit
  refine wpAny_call ?_
  refine' code_defG ?k1 ?k2 ?k3 ?k4 ?k5 ?kA ?kF ?kK ?k6 ?k7 ?k8 ?k9 ?kB ?_ ?c2 ?c3 ?c4 ?c5
  case kA => exact rfl
  case kF => exact rfl
  case kK => assumption
  case k1 => k_asm
  case k2 => k_asm
  case k3 => k_asm
  case k4 => exact N
  case k5 => k_asm
  case k6 => k_is
  case k7 => k_is
  case k8 => k_room
  case k9 => first | exact BindsTo.of_eq rfl | exact binds_K (by k_in) rfl (by k_is) rfl rfl rfl
  case c5 => decide
  case kB => exact locs rfl
  case c2 => exact rfl
  case c3 => exact rfl
  case c4 => exact rfl
  intro g' L' h' FG' F' N' B' X' T' G'
  try dsimp only
  try k_fold
  have n92 : ∀ {q : Nat} {o : Obj} {news : List (Addr × Obj)} {h2 : Heap}, News g' L' h2 news → (q, o) ∈ news → q ≠ 92 := fun N2 hm e => by
    obtain ⟨o, ho, _⟩ := missing_at X'
    have := (N2 _ hm).2.2
    rw [e] at this
    rw [show g'.get? 92 = none from this] at ho; cases ho
  cases last with
  | none =>
    obtain rfl : lcv = .ref 92 := hlc
    k_steps
    (rename News g' _ _ _ => kG)
    (rename News h₀ L _ _ => kN)
    (rename Fr h₀ L _ m => kF)
    (rename Fr g' L' _ _ => kF')
    (rename LoopD _ _ => kD)
    (rename _ ∧ _ => kL)
    rw [show (true : Bool) = decide ((none : Option Int) ≠ some value) by simp]
    refine ret _ _ _ _ _ ⟨⟨_, _, rfl, kD⟩, rfl, hpd, hlen.turn rfl rfl rfl, hcnt⟩ (n92 kG (.head _)) (News.get kN (.head _)) (.inr (fresh_of G' kG (.head _) ?_)) kF (nw_cons kN (by k_mem) (nw_two kN (by k_mem) (by k_mem))) (Keeps.of_sub G' kF')
    simp only [List.map_cons, List.map_nil, List.mem_cons, List.not_mem_nil, or_false, not_or]
    exact ⟨Nat.ne_of_gt kL.1, Nat.ne_of_gt kL.2.1, Nat.ne_of_gt kL.2.2⟩
  | some v =>
    obtain ⟨t0, tt, rfl, hn0, ht0⟩ := hlc
    have hg0 : g'.get? t0 = some (tupOf #[.int v tt] 0) := G' _ _ ht0 (tup_off N htri ht0)
    k_steps
    · (rename v = value => e)
      (rename News h₀ L _ _ => kN)
      (rename Fr h₀ L _ m => kF)
      (rename Fr g' L' _ _ => kF')
      subst e
      rw [show (false : Bool) = decide ((some v : Option Int) ≠ some v) by simp]
      exact ret t0 tt _ _ _ ⟨⟨_, _, rfl, hD⟩, rfl, hpd, hlen, hcnt⟩ hn0 (Fr.keep kF' _ _ hg0) (.inl rfl) kF (nw_cons kN (by k_mem) (nw_two kN (by k_mem) (by k_mem))) (Keeps.of_sub G' kF')
    · (rename ¬ v = value => e)
      (rename News g' _ _ _ => kG)
      (rename News h₀ L _ _ => kN)
      (rename Fr h₀ L _ m => kF)
      (rename Fr g' L' _ _ => kF')
      (rename LoopD _ _ => kD)
      (rename _ ∧ _ => kL)
      rw [show (true : Bool) = decide ((some v : Option Int) ≠ some value) by simpa using e]
      refine ret _ _ _ _ _ ⟨⟨_, _, rfl, kD⟩, rfl, hpd, hlen.turn rfl rfl rfl, hcnt⟩ (n92 kG (.head _)) (News.get kN (.head _)) (.inr (fresh_of G' kG (.head _) ?_)) kF (nw_cons kN (by k_mem) (nw_two kN (by k_mem) (by k_mem))) (Keeps.of_sub G' kF')
      simp only [List.map_cons, List.map_nil, List.mem_cons, List.not_mem_nil, or_false, not_or]
      exact ⟨Nat.ne_of_gt kL.1, Nat.ne_of_gt kL.2.1, Nat.ne_of_gt kL.2.2⟩
end

/-! ## MH -/
section
variable {w : World} {p : Program} {loose : List Str} {mean : ExcName → Option Value} {mg mb : Str → Option Value}
theorem asked_spec {dp un : Nat} {gd : Option (List Code)} {cn : Str} {cs : Scope} {a : Addr} {ccd : Value} {cl : List (Str × Addr)} {outer : List Env} {A₀ : Around} {base g₀ h₀ : Heap} {L : Addr} {m : Str → Option Value} {s : Shared} {R : Result → Shared → Prop} {x dx it l : Nat} {od io lo : Obj} {S : LS} {P : List Value} {Pn : List Int} {bn : Int} {k : Nat} {which value : Int} {tw tv : Tok} (Γ : Gr w p loose mean mg mb A₀ base outer h₀) (T0 : KtsTurn (fsOf outer) g₀ h₀) (F : Fr h₀ L s.heap m) (hk : cs.kind = .function) (hdp : dp + 60 < recursionLimit) (hun : un + 300 < cLine) (N : News h₀ L s.heap [(x, instObj 255 dx), (dx, od), (it, io)]) (hS : LoopSt it l od io lo S P k) (hits : ItemsIn h₀ P) (hl : s.heap.get? l = some lo) (hs : ∀ es n, lo.data ≠ .dict es n) (h1 : x ≠ dx) (h2 : x ≠ it) (h3 : dx ≠ it) (hlx : l ≠ x) (hld : l ≠ dx) (hli : l ≠ it) (hsz : k ≤ 1000) (hidx : -1 ≤ S.idx)
   (hP : RowNums s.heap P Pn) (hb : 0 < S.idx → ItemAt s.heap S.bef bn) (hbr : ∃ t : Nat, S.bef = .ref t)
   (ret : ∀ h₀' (it' l' : Nat) od' io' lo' S' h' tk' v, LoopSt it' l' od' io' lo' S' P k → LoopKeep S S' → S'.lcv = S.lcv → IsAns v (askAns S.idx S.depth bn Pn k which) → KtsTurn (fsOf outer) g₀ h₀' → Gr w p loose mean mg mb A₀ base outer h₀' → Fr h₀' L h' m → News h₀' L h' [(x, instObj 255 dx), (dx, od'), (it', io')] → KeepsF [x, dx, it] (L :: fsOf outer) s.heap h' →
     h'.get? l' = some lo' → (∀ es n, lo'.data ≠ .dict es n) → ((it' = it ∧ l' = l ∧ lo' = lo) ∨ (s.heap.get? it' = none ∧ s.heap.get? l' = none ∧ it' ≠ l')) → R (.ok (.ret v)) { s with heap := h', toks := tk' }) (hw0 : 0 ≤ which) (hw : which < 12) (h0 : (which = 8 ∨ which = 10) → 0 ≤ S.idx) : codeAny (model PySem.Challenge.rw_bb0046_01.row.prog w) (ktrTop dp un gd cn cs L a ccd cl outer) (.call (.ref 391) ⟨[.ref x, .int which tw, .int value tv], []⟩) R s := by
  have hc : (which = 0 ∨ which = 1 ∨ which = 2 ∨ which = 7) ∨ (which = 3 ∨ which = 9) ∨ which = 4 ∨ which = 5 ∨ which = 6 ∨ which = 11 ∨ which = 8 ∨ which = 10 := by omega
  rcases hc with hc | hc | hc | hc | hc | hc | hc | hc
  · exact askedA Γ T0 F hk hdp hun N hS hits hl hs h1 h2 h3 hlx hld hli hsz hidx hP hb hbr ret hc
  · exact askedC Γ T0 F hk hdp hun N hS hits hl hs h1 h2 h3 hlx hld hli hsz hidx hP hb hbr ret hc
  · exact askedB4 Γ T0 F hk hdp hun N hS hits hl hs h1 h2 h3 hlx hld hli hsz hidx hP hb hbr ret hc
  · exact askedB5 Γ T0 F hk hdp hun N hS hits hl hs h1 h2 h3 hlx hld hli hsz hidx hP hb hbr ret hc
  · exact askedB6 Γ T0 F hk hdp hun N hS hits hl hs h1 h2 h3 hlx hld hli hsz hidx hP hb hbr ret hc
  · exact askedB11 Γ T0 F hk hdp hun N hS hits hl hs h1 h2 h3 hlx hld hli hsz hidx hP hb hbr ret hc
  · exact askedD Γ T0 F hk hdp hun N hS hits hl hs h1 h2 h3 hlx hld hli hsz hidx hP hb hbr ret hc (h0 (.inl hc))
  · exact askedE Γ T0 F hk hdp hun N hS hits hl hs h1 h2 h3 hlx hld hli hsz hidx hP hb hbr ret hc (h0 (.inr hc))

/-- what the law awaits is what the loop answers -/
theorem ask_due {ns : List Int} {at_ deep bn : Int} {which : Int} (h0 : -1 ≤ at_) (h1 : at_ < ns.length) (hb : 0 < at_ → bn = ns.getD (at_ - 1).toNat 0) (hw : (which = 8 ∨ which = 10) → 0 ≤ at_) :
    askAns at_ deep bn (ns.drop (at_ + 1).toNat) ns.length which = dueAns ns at_ deep which := by
  have e3 : (ns.drop (at_ + 1).toNat).isEmpty = (at_ + 1 == (ns.length : Int)) := by
    rw [Bool.eq_iff_iff, List.isEmpty_iff, List.drop_eq_nil_iff, beq_iff_eq]; omega
  have e6 : (ns.length : Int) - (at_ + 1) = ns.length - at_ - 1 := by omega
  have e7 : (deep + 1) * 10 + deep = deep * 10 + 10 + deep := by omega
  have e9 : (match ns.drop (at_ + 1).toNat with | [] => Ans.s "none" | n :: _ => .i n) = behind ns at_ := by
    unfold behind
    by_cases c : at_ + 1 < ns.length
    · have hl : (at_ + 1).toNat < ns.length := by omega
      rw [if_pos c, List.drop_eq_getElem_cons hl, List.getD_eq_getElem?_getD, List.getElem?_eq_getElem hl]; rfl
    · rw [if_neg c, List.drop_eq_nil_of_le (by omega)]
  unfold askAns dueAns
  rw [e3, e6, e7]
  by_cases c8 : which = 8
  · subst c8
    have h8 := hw (.inl rfl)
    show (if at_ = 0 then Ans.s "none" else .i bn) = ahead ns at_
    unfold ahead
    have n0 : ¬ at_ < 0 := by omega
    by_cases z : at_ = 0
    · simp only [z, if_true, Int.lt_irrefl, if_false]
    · have hz : 0 < at_ := by omega
      simp only [z, n0, if_false, hb hz]
  · by_cases c9 : which = 9
    · subst c9
      exact e9
    · simp only [c8, c9, if_false]
end

/-! ## MI -/
theorem fresh_ground {h₀ h : Heap} {L q : Nat} {m : Str → Option Value} {news : List (Addr × Obj)} (F : Fr h₀ L h m) (N : News h₀ L h news) (hq : h.get? q = none) : AllNe q news ∧ q ≠ L ∧ h₀.get? q = none := by
  refine ⟨allNe_of hq N, fun e => ?_, ?_⟩
  · obtain ⟨oL, es, ep, hL, _⟩ := F.ns
    rw [← e, hq] at hL; cases hL
  · cases e : h₀.get? q with
    | none => rfl
    | some o => have := F.keep _ _ e; rw [hq] at this; cases this
section
variable {w : World} {p : Program} {loose : List Str} {mean : ExcName → Option Value} {mg mb : Str → Option Value}
theorem call_take {dp un : Nat} {gd : Option (List Code)} {cn : Str} {cs : Scope} {a : Addr} {ccd : Value} {cl : List (Str × Addr)} {outer : List Env} {A₀ : Around} {base h₀ : Heap} {L : Addr} {m : Str → Option Value} {s : Shared} {Q E : Value → Shared → Prop} {d n : Nat} {many : Int} {tm : Tok} {o1 o2 : Obj} {news r1 r2 : List (Addr × Obj)}
   (B : Below A₀ base outer h₀) (F : Fr h₀ L s.heap m) (X : (hd.heap_39 w.params).In h₀) (T : Top p loose mean mg mb h₀) (hk : cs.kind = .function) (N : News h₀ L s.heap news) (D1 : Del d o1 news r1) (D2 : Del n o2 r1 r2) (hD : DrawsObj n o1 o2) (hdn : d ≠ n) (hm : 0 < many) (hm2 : many ≤ 13)
   (hdp : dp + 50 < recursionLimit) (hun : un + 100 < cLine)
   (ret : ∀ found t' o1' o2' h' tk', 0 ≤ found → found < many → DrawsObj n o1' o2' → Fr h₀ L h' m → News h₀ L h' ((d, o1') :: (n, o2') :: r2) → Keeps [d, n] s.heap h' → Q (.int found t') { s with heap := h', toks := tk' }) :
   wpAny (model PySem.Challenge.rw_bb0046_01.row.prog w) (ktrTop dp un gd cn cs L a ccd cl outer) (call (.ref 377) [.ref d, .int many tm]) Q E s := by
  obtain ⟨m1, q1⟩ := D1.mem
  obtain ⟨m2, q2⟩ := D2.mem
  refine take_spec B F X (nw_two N m1 (q1 _ m2).1) T hk hD hdn hm hm2 hdp hun fun found t' o1' o2' h' tk' a1 a2 a3 a4 a5 a6 => ret found t' o1' o2' h' tk' a1 a2 a3 a4 (nw_after N a5 a6 fun q hq => ⟨(q1 _ (q2 _ hq).1).1, ?_⟩) a6
  simp only [List.mem_cons, List.not_mem_nil, or_false, not_or]
  exact ⟨(q1 _ (q2 _ hq).1).2, (q2 _ hq).2⟩
theorem call_due12 {dp un : Nat} {gd : Option (List Code)} {cn : Str} {cs : Scope} {a : Addr} {ccd : Value} {cl : List (Str × Addr)} {outer : List Env} {A₀ : Around} {base h₀ : Heap} {L : Addr} {m : Str → Option Value} {s : Shared} {Q E : Value → Shared → Prop} {lr la : Nat} {ola lo : Obj} {at_ deep value : Int} {t1 t2 t3 t4 : Tok} {last : Option Int}
   {vs : List Value} {ep : Nat} {news r1 : List (Addr × Obj)} (B : Below A₀ base outer h₀) (F : Fr h₀ L s.heap m) (X : (hd.heap_39 w.params).In h₀) (T : Top p loose mean mg mb h₀) (hk : cs.kind = .function) (hdp : dp + 20 < recursionLimit) (hun : un + 150 < cLine) (N : News h₀ L s.heap news) (D1 : Del la ola news r1) (hola : LastObj last ola) (hlr : s.heap.get? lr = some (listOf vs.toArray ep)) (hne : lr ≠ la) (hlen : vs.length ≤ 1000)
   (ret : ∀ ola' h' tk', LastObj (some value) ola' → Fr h₀ L h' m → News h₀ L h' ((la, ola') :: r1) → Keeps [la] s.heap h' → Q (.bool (decide (last ≠ some value))) { s with heap := h', toks := tk' }) :
   wpAny (model PySem.Challenge.rw_bb0046_01.row.prog w) (ktrTop dp un gd cn cs L a ccd cl outer) (call (.ref 405) [.ref lr, .int at_ t1, .int deep t2, .int 12 t3, .int value t4, .ref la]) Q E s := by
  obtain ⟨m1, q1⟩ := D1.mem
  refine due12 (lo := lo) B F X T hk hdp hun (nw_one N m1) hola hlr hne hlen fun ola' h' tk' a1 a2 a3 a4 => ret ola' h' tk' a1 a2 (nw_after N a3 a4 fun q hq => ⟨(q1 _ hq).1, ?_⟩) a4
  simp only [List.mem_cons, List.not_mem_nil, or_false]
  exact (q1 _ hq).2
theorem call_dueN {dp un : Nat} {gd : Option (List Code)} {cn : Str} {cs : Scope} {a : Addr} {ccd : Value} {cl : List (Str × Addr)} {outer : List Env} {A₀ : Around} {base h₀ : Heap} {L : Addr} {m : Str → Option Value} {s : Shared} {Q E : Value → Shared → Prop} {lr la : Nat} {at_ deep which value : Int} {t1 t2 t3 t4 : Tok} {ns : List Int}
   {vs : List Value} {ep : Nat} {news : List (Addr × Obj)} (B : Below A₀ base outer h₀) (F : Fr h₀ L s.heap m) (X : (hd.heap_39 w.params).In h₀) (T : Top p loose mean mg mb h₀) (hk : cs.kind = .function) (hdp : dp + 20 < recursionLimit) (hun : un + 150 < cLine) (N : News h₀ L s.heap news) (hlr : s.heap.get? lr = some (listOf vs.toArray ep)) (hR : RowNums s.heap vs ns) (hlen : ns.length ≤ 1000)
   (hw0 : 0 ≤ which) (hw : which < 12) (ha0 : -1 ≤ at_) (ha1 : at_ < ns.length)
   (ret : ∀ h' tk' v, IsAns v (dueAns ns at_ deep which) → Fr h₀ L h' m → News h₀ L h' news → Keeps [] s.heap h' → Q v { s with heap := h', toks := tk' }) :
   wpAny (model PySem.Challenge.rw_bb0046_01.row.prog w) (ktrTop dp un gd cn cs L a ccd cl outer) (call (.ref 405) [.ref lr, .int at_ t1, .int deep t2, .int which t3, .int value t4, .ref la]) Q E s :=
  dueN (lo := default) (ola := default) B F X T hk hdp hun hlr hR hlen hw0 hw ha0 ha1 fun h' tk' v a1 a2 a3 => ret h' tk' v a1 a2 (fun q hq => ⟨a3 _ _ (N q hq).1 List.not_mem_nil, (N q hq).2⟩) a3
theorem call_asked12 {dp un : Nat} {gd : Option (List Code)} {cn : Str} {cs : Scope} {a : Addr} {ccd : Value} {cl : List (Str × Addr)} {outer : List Env} {A₀ : Around} {base h₀ : Heap} {L : Addr} {m : Str → Option Value} {s : Shared} {Q E : Value → Shared → Prop} {x dx it l : Nat} {od io lo : Obj} {S : LS} {P : List Value} {k : Nat} {value : Int} {tw tv : Tok} {last : Option Int} {news r1 r2 r3 : List (Addr × Obj)}
   (B : Below A₀ base outer h₀) (F : Fr h₀ L s.heap m) (X : (hd.heap_39 w.params).In h₀) (T : Top p loose mean mg mb h₀) (hk : cs.kind = .function) (hdp : dp + 60 < recursionLimit) (hun : un + 300 < cLine)
   (N : News h₀ L s.heap news) (D1 : Del x (instObj 255 dx) news r1) (D2 : Del dx od r1 r2) (D3 : Del it io r2 r3) (hS : LoopSt it l od io lo S P k) (h1 : x ≠ dx) (h2 : x ≠ it) (h3 : dx ≠ it) (hlc : LcvOk s.heap S.lcv last)
   (ret : ∀ (tq : Nat) tt od' h' tk', LoopSt it l od' io lo { S with lcv := .ref tq } P k → tq ≠ 92 → h'.get? tq = some (tupOf #[.int value tt] 0) → (S.lcv = .ref tq ∨ (AllNe tq news ∧ tq ≠ L ∧ h₀.get? tq = none)) → Fr h₀ L h' m → News h₀ L h' ((x, instObj 255 dx) :: (dx, od') :: (it, io) :: r3) → Keeps [x, dx, it] s.heap h' → Q (.bool (decide (last ≠ some value))) { s with heap := h', toks := tk' }) :
   wpAny (model PySem.Challenge.rw_bb0046_01.row.prog w) (ktrTop dp un gd cn cs L a ccd cl outer) (call (.ref 391) [.ref x, .int 12 tw, .int value tv]) Q E s := by
  obtain ⟨m1, q1⟩ := D1.mem
  obtain ⟨m2, q2⟩ := D2.mem
  obtain ⟨m3, q3⟩ := D3.mem
  refine askedF B F X T hk hdp hun (nw_cons N m1 (nw_two N (q1 _ m2).1 (q1 _ (q2 _ m3).1).1)) hS h1 h2 h3 hlc fun tq tt od' h' tk' a1 a2 a3 a4 a5 a6 a7 => ret tq tt od' h' tk' a1 a2 a3 (a4.imp id (fresh_ground F N)) a5 (nw_after N a6 a7 fun q hq => ⟨(q1 _ (q2 _ (q3 _ hq).1).1).1, ?_⟩) a7
  simp only [List.mem_cons, List.not_mem_nil, or_false, not_or]
  exact ⟨(q1 _ (q2 _ (q3 _ hq).1).1).2, (q2 _ (q3 _ hq).1).2, (q3 _ hq).2⟩
theorem call_asked {dp un : Nat} {gd : Option (List Code)} {cn : Str} {cs : Scope} {a : Addr} {ccd : Value} {cl : List (Str × Addr)} {outer : List Env} {A₀ : Around} {base g₀ h₀ : Heap} {L : Addr} {m : Str → Option Value} {s : Shared} {Q E : Value → Shared → Prop} {x dx it l : Nat} {od io lo : Obj} {S : LS} {P : List Value} {Pn : List Int} {bn : Int} {k : Nat} {which value : Int} {tw tv : Tok} {news r1 r2 r3 : List (Addr × Obj)}
   (Γ : Gr w p loose mean mg mb A₀ base outer h₀) (T0 : KtsTurn (fsOf outer) g₀ h₀) (F : Fr h₀ L s.heap m) (hk : cs.kind = .function) (hdp : dp + 60 < recursionLimit) (hun : un + 300 < cLine)
   (N : News h₀ L s.heap news) (D1 : Del x (instObj 255 dx) news r1) (D2 : Del dx od r1 r2) (D3 : Del it io r2 r3) (hS : LoopSt it l od io lo S P k) (hits : ItemsIn h₀ P) (hl : s.heap.get? l = some lo) (hs : ∀ es n, lo.data ≠ .dict es n) (h1 : x ≠ dx) (h2 : x ≠ it) (h3 : dx ≠ it) (hlx : l ≠ x) (hld : l ≠ dx) (hli : l ≠ it) (hsz : k ≤ 1000) (hidx : -1 ≤ S.idx)
   (hP : RowNums s.heap P Pn) (hb : 0 < S.idx → ItemAt s.heap S.bef bn) (hbr : ∃ t : Nat, S.bef = .ref t) (hw0 : 0 ≤ which) (hw : which < 12) (h0 : (which = 8 ∨ which = 10) → 0 ≤ S.idx)
   (ret : ∀ h₀' (it' l' : Nat) od' io' lo' S' h' tk' v, LoopSt it' l' od' io' lo' S' P k → LoopKeep S S' → S'.lcv = S.lcv → IsAns v (askAns S.idx S.depth bn Pn k which) → KtsTurn (fsOf outer) g₀ h₀' → KtsTurn (fsOf outer) h₀ h₀' → Gr w p loose mean mg mb A₀ base outer h₀' → Fr h₀' L h' m → News h₀' L h' ((x, instObj 255 dx) :: (dx, od') :: (it', io') :: r3) → KeepsF [x, dx, it] (L :: fsOf outer) s.heap h' →
     h'.get? l' = some lo' → (∀ es n, lo'.data ≠ .dict es n) → ((it' = it ∧ l' = l ∧ lo' = lo) ∨ (AllNe it' news ∧ AllNe l' news ∧ it' ≠ L ∧ l' ≠ L ∧ h₀'.get? it' = none ∧ h₀'.get? l' = none ∧ it' ≠ l')) → Q v { s with heap := h', toks := tk' }) :
   wpAny (model PySem.Challenge.rw_bb0046_01.row.prog w) (ktrTop dp un gd cn cs L a ccd cl outer) (call (.ref 391) [.ref x, .int which tw, .int value tv]) Q E s := by
  obtain ⟨m1, q1⟩ := D1.mem
  obtain ⟨m2, q2⟩ := D2.mem
  obtain ⟨m3, q3⟩ := D3.mem
  refine wpAny_call (asked_spec (g₀ := h₀) Γ KtsTurn.refl F hk hdp hun (nw_cons N m1 (nw_two N (q1 _ m2).1 (q1 _ (q2 _ m3).1).1)) hS hits hl hs h1 h2 h3 hlx hld hli hsz hidx hP hb hbr (fun h₀' it' l' od' io' lo' S' h' tk' v a1 a2 a3 a4 a5 a6 a7 a8 a9 b1 b2 b3 => ?_) hw0 hw h0)
  refine ret h₀' it' l' od' io' lo' S' h' tk' v a1 a2 a3 a4 (T0.trans a5) a5 a6 a7 (nwF_after N Γ.D a5 a8 a9 fun q hq => ⟨(q1 _ (q2 _ (q3 _ hq).1).1).1, ?_⟩) a9 b1 b2 (b3.imp id fun ⟨z1, z2, z3⟩ => let ⟨u1, u2, u3⟩ := fresh_ground F N z1; let ⟨v1, v2, v3⟩ := fresh_ground F N z2; ⟨u1, v1, u2, v2, a5.none_ _ u3, a5.none_ _ v3, z3⟩)
  simp only [List.mem_cons, List.not_mem_nil, or_false, not_or]
  exact ⟨(q1 _ (q2 _ (q3 _ hq).1).1).2, (q2 _ (q3 _ hq).1).2, (q3 _ hq).2⟩
end

/-! ## MJ -/
section
open PySem.Spec
theorem allNe_mem {d : Nat} {news : List (Addr × Obj)} : AllNe d news → ∀ p ∈ news, p.1 ≠ d := by
  induction news with
  | nil => intro _ p hp; cases hp
  | cons q r ih =>
    intro h p hp
    rcases List.mem_cons.mp hp with e | hp
    · rw [e]; exact h.1
    · exact ih h.2 p hp
theorem allNe_mk {d : Nat} {news : List (Addr × Obj)} : (∀ p ∈ news, p.1 ≠ d) → AllNe d news := by
  induction news with
  | nil => intro _; trivial
  | cons q r ih => intro h; exact ⟨h q (.head _), ih fun p hp => h p (.tail _ hp)⟩
/-- an object that stands in the ground or in the ledger -/
def Known (g : Heap) (news : List (Addr × Obj)) (b : Addr) (o : Obj) : Prop := g.get? b = some o ∨ (b, o) ∈ news
theorem Known.at {g h : Heap} {L : Addr} {m : Str → Option Value} {news : List (Addr × Obj)} {b : Addr} {o : Obj} (K : Known g news b o) (F : Fr g L h m) (N : News g L h news) : h.get? b = some o := K.elim (F.keep _ _) fun q => (N _ q).1
theorem Known.mono {g : Heap} {news news' : List (Addr × Obj)} {b : Addr} {o : Obj} (K : Known g news b o) (hs : ∀ p ∈ news, p ∈ news') : Known g news' b o := K.imp id fun q => hs _ q
section
variable {prog : Program} {w : World} {A : Around} {s : Shared} {env : Env} {x : Str} {px : Pos} {body : List Stmt} {r : Addr} {n : Int} {t u v : Tok} {g : Heap} {m : Str → Option Value} {news : List (Addr × Obj)} {Q : Flow → Shared → Prop} {E : Value → Shared → Prop}
theorem iter_turn {h h₁ : Heap} {L I : Addr} {o o' : Obj} (F : Fr g L h m) (N : News g L h ((I, o) :: news)) (hn : AllNe I news) (hs : Heap.SameBut I h h₁) (ho : h₁.get? I = some o') : Fr g L h₁ m ∧ News g L h₁ ((I, o') :: news) := by
  obtain ⟨hI, hIL, hI0⟩ := N _ (.head _)
  refine ⟨⟨?_, fun b o e => (hs.2 b fun z => by rw [z, hI0] at e; cases e).trans (F.keep b o e), F.above⟩, fun p hp => ?_⟩
  · exact F.ns.sameBut hs fun z => hIL z.symm
  · rcases List.mem_cons.mp hp with rfl | hp
    · exact ⟨ho, hIL, hI0⟩
    · exact ⟨(hs.2 _ (allNe_mem hn p hp)).trans (N p (.tail _ hp)).1, (N p (.tail _ hp)).2⟩
theorem range_loop (hh : A.handled = none) (hx : env.kindOf x = some .local) (hp : (env.scope.kind == .class || (env.scope.kind == .module && env.locals != env.globals)) = false)
    (hr : IsRange s.heap r 0 n 1 t u v) (h0 : 0 ≤ n) (hn : n ≤ 1000) (F : Fr g env.locals s.heap m) (N : News g env.locals s.heap news)
    (Inv : Nat → Heap → (Str → Option Value) → List (Addr × Obj) → Prop) (hI : Inv 0 g m news)
    (step : ∀ (I : Nat) oI (i : Nat) tk g m news h₁ tk₁, i < n.toNat → Inv i g m news → AllNe I news → oI.cls = .type "range_iterator" → Fr g env.locals h₁ (fun y => if y = x then some (.int i tk) else m y) → News g env.locals h₁ ((I, oI) :: news) →
      wpAny (model prog w) A (execs body env) (fun f s₃ => match f with
        | .next | .cont => ∃ h' tk' g' m' news', s₃ = { s with heap := h', toks := tk' } ∧ Fr g' env.locals h' m' ∧ News g' env.locals h' ((I, oI) :: news') ∧ AllNe I news' ∧ Inv (i + 1) g' m' news'
        | .brk => False
        | .ret v => Q (.ret v) s₃) E { s with heap := h₁, toks := tk₁ })
    (fin : ∀ g m news h' tk', Inv n.toNat g m news → Fr g env.locals h' m → News g env.locals h' news → Q .next { s with heap := h', toks := tk' })
    (hE : PassesOwn (model prog w) A env E := by passes_own) :
    wpAny (model prog w) A (pyIter (.ref r)) (fun it s₂ => codeAny (model prog w) A (.forLoop (.Name x px) it body [] env) (fun r s' => match r with | .ok f => Q f s' | .error e => cameBackBy (model prog w) A env E e s') s₂) E s := by
  have hsz : Builtin.Range.rangeSize 0 n 1 = n := by rw [rangeSize_nat]; omega
  refine wpAny_pyIter_range hr (small_one (by omega) (by omega) (by omega) (by omega)) ?_
  rw [hsz]
  have hnone : s.heap.get? s.heap.objs.size = none := Heap.get?_none_of_le (Nat.le_refl _)
  refine codeAny_forLoop
    (fun k s' => ∃ h' tk g m news i, s' = { s with heap := h', toks := tk } ∧ Fr g env.locals h' m ∧ News g env.locals h' ((s.heap.objs.size, { cls := .type "range_iterator", dict := none, data := .fields #[rawInt ((i : Nat) : Int), rawInt (n - (i : Nat)), rawInt 1], slots := #[] }) :: news) ∧ AllNe s.heap.objs.size news ∧ Inv i g m news ∧ i ≤ n.toNat ∧ k = n.toNat + 1 - i) ?_ (n.toNat + 1)
    ⟨_, s.toks, g, m, news, 0, rfl, F.push _, by simpa using News.push F N _ rfl, allNe_of (h := s.heap) hnone N, hI, Nat.zero_le _, rfl⟩
  rintro k s' ⟨h', tk, g, m, news, i, rfl, F, N, hne, hJ, hi, rfl⟩
  have hit : IsRangeIter h' s.heap.objs.size (i : Int) (n - (i : Nat)) 1 := (N _ (.head _)).1
  by_cases hlt : i < n.toNat
  · refine wpAny_pyNext_range_item hit (by omega) fun h₁ hit₁ hs₁ => ?_
    obtain ⟨F₁, N₁⟩ := iter_turn F N hne hs₁ hit₁
    refine wpAny_assign_Name (wpAny_storeName_local hx F₁.ns (fun h₂ hn₂ hs₂ => ?_) hp)
    refine wpAny_mono (wpAny_passesOwn hE (step _ _ i _ g m news h₂ _ hlt hJ hne rfl (F₁.set hn₂ hs₂) (N₁.set hs₂))) (fun f s₃ h₃ => ?_) fun _ _ e => e
    have e1 : ((i : Nat) : Int) + 1 = ((i + 1 : Nat) : Int) := by push_cast; rfl
    have e2 : n - (i : Nat) - 1 = n - ((i + 1 : Nat) : Int) := by push_cast; omega
    rw [e1, e2] at h₃
    cases f with
    | next =>
      obtain ⟨h₃', tk₃, g', m', news', rfl, F', N', ne', J'⟩ := h₃
      exact ⟨n.toNat + 1 - (i + 1), by omega, h₃', tk₃, g', m', news', i + 1, rfl, F', N', ne', J', hlt, rfl⟩
    | cont =>
      obtain ⟨h₃', tk₃, g', m', news', rfl, F', N', ne', J'⟩ := h₃
      exact ⟨n.toNat + 1 - (i + 1), by omega, h₃', tk₃, g', m', news', i + 1, rfl, F', N', ne', J', hlt, rfl⟩
    | brk => exact h₃.elim
    | ret v => exact h₃
  · have hin : i = n.toNat := by omega
    subst hin
    refine wpAny_pyNext_range_end hh hit (by omega) fun h₁ he₁ => wpAny_execs_nil ?_
    obtain ⟨hI', hIL, hI0⟩ := N _ (.head _)
    refine fin g m news h₁ tk hJ ⟨F.ns.extBut he₁ fun z => hIL z.symm, fun b o e => he₁ b o (fun z => by rw [z, hI0] at e; cases e) (F.keep b o e), F.above⟩ fun p hp => ⟨he₁ _ _ (allNe_mem hne p hp) (N p (.tail _ hp)).1, (N p (.tail _ hp)).2⟩
end
end

/-! ## MKA -/
/-- the ledger's addresses are all apart -/
def Dist : List (Addr × Obj) → Prop
  | [] => True
  | p :: r => AllNe p.1 r ∧ Dist r
structure AskM (m : Str → Option Value) (d x lr la : Nat) (at_ deep : Int) (t1 t2 : Tok) : Prop where
  draws : m "draws" = some (.ref d)
  loop : m "loop" = some (.ref x)
  row : m "row" = some (.ref lr)
  at_ : m "at" = some (.int at_ t1)
  deep : m "deep" = some (.int deep t2)
  last : m "last" = some (.ref la)

def LcvK (g : Heap) (fz : List (Addr × Obj)) (lcv : Value) : Option Int → Prop
  | none => lcv = .ref 92
  | some v => ∃ (tv : Nat) (t : Tok), lcv = .ref tv ∧ tv ≠ 92 ∧ Known g fz tv (tupOf #[.int v t] 0)
theorem LcvK.at {g h : Heap} {L : Addr} {m : Str → Option Value} {fz news : List (Addr × Obj)} (F : Fr g L h m) (N : News g L h news) (hs : ∀ q ∈ fz, q ∈ news) {lcv : Value} : ∀ {last : Option Int}, LcvK g fz lcv last → LcvOk h lcv last
  | none, q => q
  | some _, ⟨tv, t, a, b, c⟩ => ⟨tv, t, a, b, (c.mono hs).at F N⟩
/-- what holds of the frame of `_law_asks` ahead of every turn -/
structure AskI (w : World) (p : Program) (loose : List Str) (mean : ExcName → Option Value) (mg mb : Str → Option Value) (A : Around) (base : Heap) (fr : List Env) (ge hs : Heap) (vs : List Value) (ns : List Int) (S₀ : LS) (P : List Value) (d x lr la n dx it₀ l₀ : Nat) (lo₀ : Obj) (at_ deep : Int) (t1 t2 : Tok)
    (it l : Nat) (od io lo o1 o2 ola : Obj) (S : LS) (last : Option Int) (fz : List (Addr × Obj)) (g : Heap) (m : Str → Option Value) (news : List (Addr × Obj)) : Prop where
  m : AskM m d x lr la at_ deep t1 t2
  turn : KtsTurn (fsOf fr) ge g
  gr : Gr w p loose mean mg mb A base fr g
  led : news = (d, o1) :: (n, o2) :: (x, instObj 255 dx) :: (dx, od) :: (it, io) :: (la, ola) :: fz
  dist : Dist news
  draws : DrawsObj n o1 o2
  lst : LastObj last ola
  st : LoopSt it l od io lo S P vs.length
  keep : LoopKeep S₀ S
  kl : Known g fz l lo
  nd : ∀ es n, lo.data ≠ .dict es n
  lne : AllNe l [(d, o1), (n, o2), (x, instObj 255 dx), (dx, od), (it, io), (la, ola)]
  lcv : LcvK g fz S.lcv last
  dom : ∀ b o, hs.get? b = some o → b ≠ it₀ → (∃ o', g.get? b = some o') ∨ b ∈ news.map (·.1)
  old : (it = it₀ ∧ l = l₀ ∧ lo = lo₀) ∨ ((∀ o, hs.get? it = some o → it = it₀) ∧ (∀ o, hs.get? l = some o → l = it₀))
  oldv : S.lcv = S₀.lcv ∨ ∃ tq : Nat, S.lcv = .ref tq ∧ ∀ o, hs.get? tq = some o → tq = it₀

theorem nw_tl {h₀ h : Heap} {L : Addr} {q : Addr × Obj} {r : List (Addr × Obj)} (N : News h₀ L h (q :: r)) : News h₀ L h r := fun z hz => N z (.tail _ hz)
theorem post_key {M : Model} {A : Around} {t : Sem Flow} {E : Value → Shared → Prop} {s : Shared} {P : Flow → Shared → Prop} (Next : Shared → Prop) (hP : ∀ s₃, Next s₃ → P .next s₃) (h : ∀ Post : Flow → Shared → Prop, (∀ s₃, Next s₃ → Post .next s₃) → wpAny M A t Post E s) : wpAny M A t P E s := h P hP
theorem allNe_sub {d : Nat} {a b : List (Addr × Obj)} (h : AllNe d a) (hs : ∀ p ∈ b, p ∈ a) : AllNe d b := allNe_mk fun p hp => allNe_mem h p (hs p hp)
theorem RowNums.drop {h : Heap} : ∀ {vs : List Value} {ns : List Int} (i : Nat), RowNums h vs ns → RowNums h (vs.drop i) (ns.drop i)
  | _, _, 0, r => r
  | _, _, _ + 1, .nil => .nil
  | _, _, i + 1, .cons _ r => r.drop i
theorem RowNums.items {h : Heap} : ∀ {vs : List Value} {ns : List Int}, RowNums h vs ns → ItemsIn h vs
  | _, _, .nil => fun v hv => by cases hv
  | _, _, .cons ⟨t, lb, tk, e, n, q⟩ r => fun v hv => by
    rcases List.mem_cons.mp hv with rfl | hv
    · exact ⟨t, _, e, n, q, fun _ _ z => by cases z⟩
    · exact r.items v hv
section
variable {w : World} {p : Program} {loose : List Str} {mean : ExcName → Option Value} {mg mb : Str → Option Value} {A : Around} {base : Heap} {fr : List Env} {ge hs g h' : Heap} {vs : List Value} {ns : List Int} {S₀ S : LS} {P : List Value} {d x lr la n dx it₀ l₀ it l : Nat} {od io lo o1 o2 ola lo₀ : Obj} {at_ deep : Int} {t1 t2 : Tok} {last : Option Int} {fz : List (Addr × Obj)} {m m' : Str → Option Value} {news : List (Addr × Obj)} {L I : Nat}
theorem AskI.turn0 {o13 o23 : Obj} (J : AskI w p loose mean mg mb A base fr ge hs vs ns S₀ P d x lr la n dx it₀ l₀ lo₀ at_ deep t1 t2 it l od io lo o1 o2 ola S last fz g m news) (M : AskM m' d x lr la at_ deep t1 t2) (hD : DrawsObj n o13 o23) :
    AskI w p loose mean mg mb A base fr ge hs vs ns S₀ P d x lr la n dx it₀ l₀ lo₀ at_ deep t1 t2 it l od io lo o13 o23 ola S last fz g m' ((d, o13) :: (n, o23) :: (x, instObj 255 dx) :: (dx, od) :: (it, io) :: (la, ola) :: fz) := by
  obtain ⟨_, a2, a3, rfl, a5, a6, a7, a8, a9, b1, b2, b3, b4, b5, b6, b7⟩ := J
  exact ⟨M, a2, a3, rfl, a5, hD, a7, a8, a9, b1, b2, b3, b4, b5, b6, b7⟩
theorem AskI.turn12 {o13 o23 od' ola' : Obj} {value : Int} {tq : Nat} {tt : Tok} (J : AskI w p loose mean mg mb A base fr ge hs vs ns S₀ P d x lr la n dx it₀ l₀ lo₀ at_ deep t1 t2 it l od io lo o1 o2 ola S last fz g m news) (F : Fr g L h' m') (M : AskM m' d x lr la at_ deep t1 t2) (hD : DrawsObj n o13 o23)
    (hL : LastObj (some value) ola') (hS : LoopSt it l od' io lo { S with lcv := .ref tq } P vs.length) (n92 : tq ≠ 92) (ht : h'.get? tq = some (tupOf #[.int value tt] 0)) (hI : AllNe I ((d, o1) :: (n, o2) :: (x, instObj 255 dx) :: (dx, od) :: (it, io) :: (la, ola) :: fz))
    (hor : S.lcv = .ref tq ∨ (tq ≠ I ∧ AllNe tq ((d, o1) :: (n, o2) :: (x, instObj 255 dx) :: (dx, od) :: (it, io) :: (la, ola) :: fz) ∧ tq ≠ L ∧ g.get? tq = none))
    (N : News g L h' ((d, o13) :: (n, o23) :: (x, instObj 255 dx) :: (dx, od') :: (it, io) :: (la, ola') :: fz)) :
    ∃ fz', News g L h' ((d, o13) :: (n, o23) :: (x, instObj 255 dx) :: (dx, od') :: (it, io) :: (la, ola') :: fz') ∧ AllNe I ((d, o13) :: (n, o23) :: (x, instObj 255 dx) :: (dx, od') :: (it, io) :: (la, ola') :: fz') ∧
      AskI w p loose mean mg mb A base fr ge hs vs ns S₀ P d x lr la n dx it₀ l₀ lo₀ at_ deep t1 t2 it l od' io lo o13 o23 ola' { S with lcv := .ref tq } (some value) fz' g m' ((d, o13) :: (n, o23) :: (x, instObj 255 dx) :: (dx, od') :: (it, io) :: (la, ola') :: fz') := by
  obtain ⟨_, a2, a3, rfl, a5, a6, a7, a8, a9, b1, b2, b3, b4, b5, b6, b7⟩ := J
  rcases hor with hor | ⟨hqI, hqN, hqL, hqg⟩
  · refine ⟨fz, N, hI, ⟨M, a2, a3, rfl, a5, hD, hL, hS, ⟨a9.idx, a9.depth, a9.again, a9.cur, a9.bef⟩, b1, b2, b3, ?_, b5, b6, ?_⟩⟩
    · cases last with
      | none => exact absurd (Value.ref.inj (hor.symm.trans b4)) n92
      | some v =>
        obtain ⟨tv, t, e1, e2, e3⟩ := b4
        obtain rfl : tq = tv := Value.ref.inj (hor.symm.trans e1)
        have e4 := (e3.mono (news' := ((d, o13) :: (n, o23) :: (x, instObj 255 dx) :: (dx, od') :: (it, io) :: (la, ola') :: fz)) fun q hq => by simp [hq]).at F N
        rw [ht] at e4
        rw [← Option.some.inj e4] at e3
        exact ⟨tq, tt, rfl, n92, e3⟩
    · rcases b7 with z | ⟨tq', z1, z2⟩
      · exact .inl (by show Value.ref tq = _; rw [← hor]; exact z)
      · exact .inr ⟨tq', by show Value.ref tq = _; rw [← hor]; exact z1, z2⟩
  · refine ⟨(tq, tupOf #[.int value tt] 0) :: fz, ?_, ?_, ⟨M, a2, a3, rfl, ?_, hD, hL, hS, ⟨a9.idx, a9.depth, a9.again, a9.cur, a9.bef⟩, b1.mono fun q hq => .tail _ hq, b2, b3, ⟨tq, tt, rfl, n92, .inr (.head _)⟩, ?_, b6, .inr ⟨tq, rfl, fun o ho => ?_⟩⟩⟩
    · intro q hq
      rcases List.mem_cons.mp hq with rfl | hq
      · exact N _ (.head _)
      rcases List.mem_cons.mp hq with rfl | hq
      · exact N _ (.tail _ (.head _))
      rcases List.mem_cons.mp hq with rfl | hq
      · exact N _ (.tail _ (.tail _ (.head _)))
      rcases List.mem_cons.mp hq with rfl | hq
      · exact N _ (.tail _ (.tail _ (.tail _ (.head _))))
      rcases List.mem_cons.mp hq with rfl | hq
      · exact N _ (.tail _ (.tail _ (.tail _ (.tail _ (.head _)))))
      rcases List.mem_cons.mp hq with rfl | hq
      · exact N _ (.tail _ (.tail _ (.tail _ (.tail _ (.tail _ (.head _))))))
      rcases List.mem_cons.mp hq with rfl | hq
      · exact ⟨ht, hqL, hqg⟩
      · exact N _ (.tail _ (.tail _ (.tail _ (.tail _ (.tail _ (.tail _ hq))))))
    · simp only [AllNe] at hI ⊢
      obtain ⟨c1, c2, c3, c4, c5, c6, c7⟩ := hI
      exact ⟨c1, c2, c3, c4, c5, c6, hqI, c7⟩
    · simp only [Dist, AllNe] at a5 hqN ⊢
      obtain ⟨⟨c1, c2, c3, c4, c5, c6⟩, ⟨d1, d2, d3, d4, d5⟩, ⟨e1, e2, e3, e4⟩, ⟨f1, f2, f3⟩, ⟨g1, g2⟩, h1, h2⟩ := a5
      obtain ⟨r1, r2, r3, r4, r5, r6, r7⟩ := hqN
      exact ⟨⟨c1, c2, c3, c4, c5, r1.symm, c6⟩, ⟨d1, d2, d3, d4, r2.symm, d5⟩, ⟨e1, e2, e3, r3.symm, e4⟩, ⟨f1, f2, r4.symm, f3⟩, ⟨g1, r5.symm, g2⟩, ⟨r6.symm, h1⟩, r7, h2⟩
    · intro b o hb hne
      refine (b5 b o hb hne).imp id fun hm => ?_
      simp only [List.map_cons, List.mem_cons] at hm ⊢
      rcases hm with z | z | z | z | z | z | z <;> simp [z]
    · rcases Nat.decEq tq it₀ with z | z
      · rcases b5 tq o ho z with ⟨o', q⟩ | q
        · rw [hqg] at q; cases q
        · obtain ⟨r, hr, e⟩ := List.mem_map.mp q
          exact absurd e (allNe_mem hqN r hr)
      · exact z
theorem AskI.turnN {o13 o23 od' io' lo' : Obj} {S' : LS} {it' l' : Nat} {g₂ : Heap} (J : AskI w p loose mean mg mb A base fr ge hs vs ns S₀ P d x lr la n dx it₀ l₀ lo₀ at_ deep t1 t2 it l od io lo o1 o2 ola S last fz g m news) (F : Fr g₂ L h' m') (M : AskM m' d x lr la at_ deep t1 t2) (hD : DrawsObj n o13 o23)
    (T : KtsTurn (fsOf fr) g g₂) (Γ : Gr w p loose mean mg mb A base fr g₂) (hS : LoopSt it' l' od' io' lo' S' P vs.length) (LK : LoopKeep S S') (elc : S'.lcv = S.lcv) (hl : h'.get? l' = some lo') (hnd : ∀ es n, lo'.data ≠ .dict es n) (hI : AllNe I ((d, o1) :: (n, o2) :: (x, instObj 255 dx) :: (dx, od) :: (it, io) :: (la, ola) :: fz))
    (hor : (it' = it ∧ l' = l ∧ lo' = lo) ∨ (it' ≠ I ∧ l' ≠ I ∧ AllNe it' ((d, o1) :: (n, o2) :: (x, instObj 255 dx) :: (dx, od) :: (it, io) :: (la, ola) :: fz) ∧ AllNe l' ((d, o1) :: (n, o2) :: (x, instObj 255 dx) :: (dx, od) :: (it, io) :: (la, ola) :: fz) ∧ l' ≠ L ∧ g₂.get? it' = none ∧ g₂.get? l' = none ∧ it' ≠ l'))
    (N : News g₂ L h' ((d, o13) :: (n, o23) :: (x, instObj 255 dx) :: (dx, od') :: (it', io') :: (la, ola) :: fz)) :
    ∃ fz', News g₂ L h' ((d, o13) :: (n, o23) :: (x, instObj 255 dx) :: (dx, od') :: (it', io') :: (la, ola) :: fz') ∧ AllNe I ((d, o13) :: (n, o23) :: (x, instObj 255 dx) :: (dx, od') :: (it', io') :: (la, ola) :: fz') ∧
      AskI w p loose mean mg mb A base fr ge hs vs ns S₀ P d x lr la n dx it₀ l₀ lo₀ at_ deep t1 t2 it' l' od' io' lo' o13 o23 ola S' last fz' g₂ m' ((d, o13) :: (n, o23) :: (x, instObj 255 dx) :: (dx, od') :: (it', io') :: (la, ola) :: fz') := by
  obtain ⟨_, a2, a3, rfl, a5, a6, a7, a8, a9, b1, b2, b3, b4, b5, b6, b7⟩ := J
  have kn : ∀ {b : Addr} {o : Obj}, (∀ es n, o.data ≠ .dict es n) → Known g fz b o → Known g₂ fz b o := fun hn k => k.imp (fun e => T.other _ _ e (notFrame a3.D e hn)) id
  have lcn : ∀ {fz'}, (∀ q ∈ fz, q ∈ fz') → LcvK g₂ fz' S'.lcv last := fun {fz'} hsub => by
    rw [elc]
    cases last with
    | none => exact b4
    | some v =>
      obtain ⟨tv, t, e1, e2, e3⟩ := b4
      exact ⟨tv, t, e1, e2, (kn (fun _ _ z => by cases z) e3).mono hsub⟩
  have lk : LoopKeep S₀ S' := ⟨LK.idx.trans a9.idx, LK.depth.trans a9.depth, LK.again.trans a9.again, LK.cur.trans a9.cur, LK.bef.trans a9.bef⟩
  have ov : S'.lcv = S₀.lcv ∨ ∃ tq : Nat, S'.lcv = .ref tq ∧ ∀ o, hs.get? tq = some o → tq = it₀ := by rw [elc]; exact b7
  have dom0 : ∀ b o, hs.get? b = some o → b ≠ it₀ → (∃ o', g₂.get? b = some o') ∨ (b ∈ List.map (fun x => x.1) ((d, o13) :: (n, o23) :: (x, instObj 255 dx) :: (dx, od') :: (la, ola) :: fz)) ∨ b = it := fun b o hb hne => by
    rcases b5 b o hb hne with ⟨o', q⟩ | hm
    · obtain ⟨sl, z⟩ := T.up q
      exact .inl ⟨_, z⟩
    · refine .inr ?_
      simp only [List.map_cons, List.mem_cons] at hm ⊢
      rcases hm with z | z | z | z | z | z | z <;> simp [z]
  rcases hor with ⟨rfl, rfl, rfl⟩ | ⟨hqI, hlI, hq, hl2, hlL, hqg, hlg, hql⟩
  · refine ⟨fz, N, hI, ⟨M, a2.trans T, Γ, rfl, a5, hD, a7, hS, lk, kn b2 b1, b2, b3, lcn fun _ z => z, ?_, b6, ov⟩⟩
    intro b o hb hne
    refine (dom0 b o hb hne).imp id fun hm => ?_
    simp only [List.map_cons, List.mem_cons] at hm ⊢
    rcases hm with (z | z | z | z | z | z) | z <;> simp [z]
  · simp only [AllNe] at hI hq hl2
    obtain ⟨i1, i2, i3, i4, i5, i6, i7⟩ := hI
    obtain ⟨r1, r2, r3, r4, r5, r6, r7⟩ := hq
    obtain ⟨s1, s2, s3, s4, s5, s6, s7⟩ := hl2
    have noh : ∀ {q : Nat}, g₂.get? q = none → q ≠ d → q ≠ n → q ≠ x → q ≠ dx → q ≠ la → AllNe q fz → q ≠ it → ∀ o, hs.get? q = some o → q = it₀ := fun {q} hn h1 h2 h3 h4 h5 h6 h7 o ho => by
      rcases Nat.decEq q it₀ with z | z
      · rcases dom0 q o ho z with ⟨o', e⟩ | e | e
        · rw [hn] at e; cases e
        · simp only [List.map_cons, List.mem_cons] at e
          rcases e with e | e | e | e | e | e
          · exact absurd e h1
          · exact absurd e h2
          · exact absurd e h3
          · exact absurd e h4
          · exact absurd e h5
          · obtain ⟨r, hr, e⟩ := List.mem_map.mp e
            exact absurd e (allNe_mem h6 r hr)
        · exact absurd e h7
      · exact z
    refine ⟨(l', lo') :: fz, ?_, ?_, ⟨M, a2.trans T, Γ, rfl, ?_, hD, a7, hS, lk, .inr (.head _), hnd, ?_, lcn fun _ z => .tail _ z, ?_, .inr ⟨?_, ?_⟩, ov⟩⟩
    · intro q hq
      rcases List.mem_cons.mp hq with rfl | hq
      · exact N _ (.head _)
      rcases List.mem_cons.mp hq with rfl | hq
      · exact N _ (.tail _ (.head _))
      rcases List.mem_cons.mp hq with rfl | hq
      · exact N _ (.tail _ (.tail _ (.head _)))
      rcases List.mem_cons.mp hq with rfl | hq
      · exact N _ (.tail _ (.tail _ (.tail _ (.head _))))
      rcases List.mem_cons.mp hq with rfl | hq
      · exact N _ (.tail _ (.tail _ (.tail _ (.tail _ (.head _)))))
      rcases List.mem_cons.mp hq with rfl | hq
      · exact N _ (.tail _ (.tail _ (.tail _ (.tail _ (.tail _ (.head _))))))
      rcases List.mem_cons.mp hq with rfl | hq
      · exact ⟨hl, hlL, hlg⟩
      · exact N _ (.tail _ (.tail _ (.tail _ (.tail _ (.tail _ (.tail _ hq))))))
    · simp only [AllNe]
      exact ⟨i1, i2, i3, i4, hqI, i6, hlI, i7⟩
    · simp only [Dist, AllNe] at a5 ⊢
      obtain ⟨⟨c1, c2, c3, c4, c5, c6⟩, ⟨d1, d2, d3, d4, d5⟩, ⟨e1, e2, e3, e4⟩, ⟨f1, f2, f3⟩, ⟨g1, g2⟩, h1, h2⟩ := a5
      exact ⟨⟨c1, c2, c3, r1.symm, c5, s1.symm, c6⟩, ⟨d1, d2, r2.symm, d4, s2.symm, d5⟩, ⟨e1, r3.symm, e3, s3.symm, e4⟩, ⟨r4.symm, f2, s4.symm, f3⟩, ⟨r6, hql.symm, r7⟩, ⟨s6.symm, h1⟩, s7, h2⟩
    · simp only [AllNe, and_true]
      exact ⟨s1, s2, s3, s4, hql, s6⟩
    · intro b o hb hne
      rcases dom0 b o hb hne with z | hm | z
      · exact .inl z
      · right
        simp only [List.map_cons, List.mem_cons] at hm ⊢
        rcases hm with z | z | z | z | z | z <;> simp [z]
      · exfalso
        rcases b6 with ⟨e, _, _⟩ | ⟨e, _⟩
        · exact hne (z.trans e)
        · exact hne (z.trans (e o (z ▸ hb)))
    · exact noh hqg r1.symm r2.symm r3.symm r4.symm r6.symm r7 r5.symm
    · exact noh hlg s1.symm s2.symm s3.symm s4.symm s6.symm s7 s5.symm
end
end

/-! ## MK -/
section
local macro_rules | `(tactic| k_all) => `(tactic| first | exact List.forall_mem_nil _ | ((first | with_reducible refine' List.forall_mem_cons.mpr ⟨?a, ?b⟩ | refine' List.forall_mem_cons.mpr ⟨?a, ?b⟩); (case a => k_ne); (case b => k_all)) | ((first | with_reducible refine' allNe_mem ?a | refine' allNe_mem ?a); (case a => with_reducible assumption)))
local macro_rules | `(tactic| walk_at "call ref") => `(tactic| (k_here; (with_reducible show wpAny _ _ (call (Value.ref 377) _) _ _ _); k_dflt ((first | with_reducible refine' call_take ?B ?F ?X ?T ?kk ?N ?D1 ?D2 ?hD ?dn ?m1 ?m2 ?dp ?un ?_ | refine' call_take ?B ?F ?X ?T ?kk ?N ?D1 ?D2 ?hD ?dn ?m1 ?m2 ?dp ?un ?_); (case B => k_asm); (case F => k_asm); (case X => k_asm); (case T => k_asm); (case kk => exact rfl); (case N => k_asm); (case hD => k_asm); (case D1 => (repeat' ((with_reducible show Del _ _ _ _); first | ((first | with_reducible refine' Del.head ?_ | refine' Del.head ?_); k_all) | ((first | with_reducible refine' Del.tail (by k_ne) ?_ | refine' Del.tail (by k_ne) ?_))))); (case D2 => (repeat' ((with_reducible show Del _ _ _ _); first | ((first | with_reducible refine' Del.head ?_ | refine' Del.head ?_); k_all) | ((first | with_reducible refine' Del.tail (by k_ne) ?_ | refine' Del.tail (by k_ne) ?_))))); (case dn => k_ne); (case m1 => decide); (case m2 => decide); (case dp => ((try dsimp only [ktrTop]); omega)); (case un => ((try simp only [units_in1, units_deeper, Around.mark_units, units_caller]); (try dsimp only [ktrTop]); omega))); k_whole; intro found' t' o1' o2' h' tk' f0' f1' hD' F' N' K'; (try k_sweep)))
local macro_rules | `(tactic| walk_at "call ref") => `(tactic| (k_here; (with_reducible show wpAny _ _ (call (Value.ref 405) [_, _, _, Value.int _ _, _, _]) _ _ _); k_dflt ((first | with_reducible refine' call_dueN ?B ?F ?X ?T ?kk ?dp ?un ?N ?hl ?hR ?hz ?w0 ?w1 ?a0 ?a1 ?_ | refine' call_dueN ?B ?F ?X ?T ?kk ?dp ?un ?N ?hl ?hR ?hz ?w0 ?w1 ?a0 ?a1 ?_); (case B => k_asm); (case F => k_asm); (case X => k_asm); (case T => k_asm); (case kk => exact rfl); (case N => k_asm); (case hl => exact Fr.keep (by k_asm) _ _ (by with_reducible assumption)); (case hR => exact RowNums.mono (fun _ _ _ z => Fr.keep (by k_asm) _ _ z) (by with_reducible assumption)); (case hz => omega); (case w0 => omega); (case w1 => omega); (case a0 => omega); (case a1 => omega); (case dp => ((try dsimp only [ktrTop]); omega)); (case un => ((try simp only [units_in1, units_deeper, Around.mark_units, units_caller]); (try dsimp only [ktrTop]); omega))); k_whole; intro h' tk' v' hv' F' N' K'; (try k_sweep)))
local macro_rules | `(tactic| walk_at "call ref") => `(tactic| (k_here; (with_reducible show wpAny _ _ (call (Value.ref 391) [_, Value.int _ _, _]) _ _ _); k_dflt ((first | with_reducible refine' call_asked ?G ?T0 ?F ?kk ?dp ?un ?N ?D1 ?D2 ?D3 ?st ?hits ?hl ?nd ?n1 ?n2 ?n3 ?n4 ?n5 ?n6 ?hz ?hix ?hP ?hb ?hbr ?w0 ?w1 ?w2 ?_ | refine' call_asked ?G ?T0 ?F ?kk ?dp ?un ?N ?D1 ?D2 ?D3 ?st ?hits ?hl ?nd ?n1 ?n2 ?n3 ?n4 ?n5 ?n6 ?hz ?hix ?hP ?hb ?hbr ?w0 ?w1 ?w2 ?_); (case G => with_reducible assumption); (case T0 => exact KtsTurn.refl); (case F => k_asm); (case kk => exact rfl); (case N => k_asm); (case st => with_reducible assumption); (case hits => with_reducible assumption); (case hl => ((first | with_reducible refine' Known.at (Known.mono ?La ?Lb) ?Lc ?Ld | refine' Known.at (Known.mono ?La ?Lb) ?Lc ?Ld); (case La => with_reducible assumption); (case Lc => k_asm); (case Ld => k_asm); (case Lb => (intro q hq; simp [hq])))); (case nd => with_reducible assumption); (case D1 => (repeat' ((with_reducible show Del _ _ _ _); first | ((first | with_reducible refine' Del.head ?_ | refine' Del.head ?_); k_all) | ((first | with_reducible refine' Del.tail (by k_ne) ?_ | refine' Del.tail (by k_ne) ?_))))); (case D2 => (repeat' ((with_reducible show Del _ _ _ _); first | ((first | with_reducible refine' Del.head ?_ | refine' Del.head ?_); k_all) | ((first | with_reducible refine' Del.tail (by k_ne) ?_ | refine' Del.tail (by k_ne) ?_))))); (case D3 => (repeat' ((with_reducible show Del _ _ _ _); first | ((first | with_reducible refine' Del.head ?_ | refine' Del.head ?_); k_all) | ((first | with_reducible refine' Del.tail (by k_ne) ?_ | refine' Del.tail (by k_ne) ?_))))); (case n1 => k_ne); (case n2 => k_ne); (case n3 => k_ne); (case n4 => k_ne); (case n5 => k_ne); (case n6 => k_ne); (case hz => omega); (case hix => with_reducible assumption); (case hP => exact RowNums.mono (fun _ _ _ z => Fr.keep (by k_asm) _ _ z) (by with_reducible assumption)); (case hb => (intro hz; (first | with_reducible refine' ItemAt.mono (fun _ _ _ z => Fr.keep (by k_asm) _ _ z) ?Lb | refine' ItemAt.mono (fun _ _ _ z => Fr.keep (by k_asm) _ _ z) ?Lb); (case Lb => (rename _ → ItemAt _ _ _ => hbb; exact hbb hz)))); (case hbr => with_reducible assumption); (case w0 => omega); (case w1 => omega); (case w2 => with_reducible assumption); (case dp => ((try dsimp only [ktrTop]); omega)); (case un => ((try simp only [units_in1, units_deeper, Around.mark_units, units_caller]); (try dsimp only [ktrTop]); omega))); k_whole; intro g' it' l' od' io' lo' S' h' tk' v' st' lk' lc' hv' T0' T1' G' F' N' K' hl' nd' or'; (obtain ⟨B', X', P', XB', TB', D'⟩ := G')))
local macro_rules | `(tactic| walk_at "call ref") => `(tactic| (k_here; (with_reducible show wpAny _ _ (call (Value.ref 405) [_, _, _, Value.int 12 _, _, _]) _ _ _); k_dflt ((first | with_reducible refine' call_due12 (lo := default) ?B ?F ?X ?T ?kk ?dp ?un ?N ?D1 ?hL ?hr ?ne ?z ?_ | refine' call_due12 (lo := default) ?B ?F ?X ?T ?kk ?dp ?un ?N ?D1 ?hL ?hr ?ne ?z ?_); (case B => k_asm); (case F => k_asm); (case X => k_asm); (case T => k_asm); (case kk => exact rfl); (case N => k_asm); (case hL => k_asm); (case D1 => (repeat' ((with_reducible show Del _ _ _ _); first | ((first | with_reducible refine' Del.head ?_ | refine' Del.head ?_); k_all) | ((first | with_reducible refine' Del.tail (by k_ne) ?_ | refine' Del.tail (by k_ne) ?_))))); (case hr => exact Fr.keep (by k_asm) _ _ (by with_reducible assumption)); (case ne => k_ne); (case z => omega); (case dp => ((try dsimp only [ktrTop]); omega)); (case un => ((try simp only [units_in1, units_deeper, Around.mark_units, units_caller]); (try dsimp only [ktrTop]); omega))); k_whole; intro ola' h' tk' hL' F' N' K'; (try k_sweep)))
local macro_rules | `(tactic| walk_at "call ref") => `(tactic| (k_here; (with_reducible show wpAny _ _ (call (Value.ref 391) [_, Value.int 12 _, _]) _ _ _); k_dflt ((first | with_reducible refine' call_asked12 ?B ?F ?X ?T ?kk ?dp ?un ?N ?D1 ?D2 ?D3 ?st ?n1 ?n2 ?n3 ?lc ?_ | refine' call_asked12 ?B ?F ?X ?T ?kk ?dp ?un ?N ?D1 ?D2 ?D3 ?st ?n1 ?n2 ?n3 ?lc ?_); (case B => k_asm); (case F => k_asm); (case X => k_asm); (case T => k_asm); (case kk => exact rfl); (case N => k_asm); (case st => with_reducible assumption); (case D1 => (repeat' ((with_reducible show Del _ _ _ _); first | ((first | with_reducible refine' Del.head ?_ | refine' Del.head ?_); k_all) | ((first | with_reducible refine' Del.tail (by k_ne) ?_ | refine' Del.tail (by k_ne) ?_))))); (case D2 => (repeat' ((with_reducible show Del _ _ _ _); first | ((first | with_reducible refine' Del.head ?_ | refine' Del.head ?_); k_all) | ((first | with_reducible refine' Del.tail (by k_ne) ?_ | refine' Del.tail (by k_ne) ?_))))); (case D3 => (repeat' ((with_reducible show Del _ _ _ _); first | ((first | with_reducible refine' Del.head ?_ | refine' Del.head ?_); k_all) | ((first | with_reducible refine' Del.tail (by k_ne) ?_ | refine' Del.tail (by k_ne) ?_))))); (case n1 => k_ne); (case n2 => k_ne); (case n3 => k_ne); (case lc => ((first | with_reducible refine' LcvK.at ?La ?Lb ?Lc ?Ld | refine' LcvK.at ?La ?Lb ?Lc ?Ld); (case Ld => with_reducible assumption); (case La => k_asm); (case Lb => k_asm); (case Lc => (intro q hq; simp [hq])))); (case dp => ((try dsimp only [ktrTop]); omega)); (case un => ((try simp only [units_in1, units_deeper, Around.mark_units, units_caller]); (try dsimp only [ktrTop]); omega))); k_whole; intro tq' tt' od' h' tk' st' n92' tq2' or' F' N' K'; (try k_sweep)))
local macro_rules | `(tactic| k_ne) => `(tactic| (refine neN ?_; (try dsimp only); first | with_reducible assumption | (refine Ne.symm ?_; with_reducible assumption) | omega))
local macro_rules | `(tactic| walk_at "ite") => `(tactic| (k_here; (rename (List.any _ _) = false => hz); (first | (refine PySem.W.ite_pos (by (rw [hz]; exact rfl)) ?_) | (refine PySem.W.ite_neg (by (rw [hz]; exact Bool.false_ne_true)) ?_))))
theorem reset_MK : True := by
  w_top off
  trivial
section
variable {w : World} {p : Program} {loose : List Str} {mean : ExcName → Option Value} {mg mb : Str → Option Value}
theorem asks_spec {dp un : Nat} {gd : Option (List Code)} {cn : Str} {cs : Scope} {a : Addr} {ccd : Value} {cl : List (Str × Addr)} {outer : List Env} {A₀ : Around} {base g₀ h₀ : Heap} {L : Addr} {m : Str → Option Value} {s : Shared} {R : Result → Shared → Prop} {x dx it l d n la lr : Nat} {od io lo o1 o2 ola : Obj} {S : LS} {P : List Value} {at_ deep : Int} {t1 t2 : Tok} {last : Option Int} {vs : List Value} {ns : List Int} {ep : Nat}
   (Γ : Gr w p loose mean mg mb A₀ base outer h₀) (T0 : KtsTurn (fsOf outer) g₀ h₀) (F : Fr h₀ L s.heap m) (hk : cs.kind = .function) (hdp : dp + 90 < recursionLimit) (hun : un + 600 < cLine)
   (N : News h₀ L s.heap [(d, o1), (n, o2), (x, instObj 255 dx), (dx, od), (it, io), (la, ola)]) (hdist : Dist [(d, o1), (n, o2), (x, instObj 255 dx), (dx, od), (it, io), (la, ola)])
   (hD : DrawsObj n o1 o2) (hLa : LastObj last ola) (hS : LoopSt it l od io lo S P vs.length) (hP : P = vs.drop (at_ + 1).toNat) (hidx : S.idx = at_) (hdep : S.depth = deep) (hl : s.heap.get? l = some lo) (hs : ∀ es n, lo.data ≠ .dict es n)
   (hlne : AllNe l [(d, o1), (n, o2), (x, instObj 255 dx), (dx, od), (it, io), (la, ola)]) (hlcv : LcvOk s.heap S.lcv last)
   (hlr : s.heap.get? lr = some (listOf vs.toArray ep)) (hlrne : AllNe lr [(d, o1), (n, o2), (x, instObj 255 dx), (dx, od), (it, io), (la, ola)]) (hR : RowNums s.heap vs ns) (hlen : ns.length ≤ 1000) (ha0 : -1 ≤ at_) (ha1 : at_ < ns.length)
   (hb : 0 < at_ → ItemAt s.heap S.bef (ns.getD (at_ - 1).toNat 0)) (hbr : ∃ t : Nat, S.bef = .ref t)
   (ret : ∀ h₀' (it' l' : Nat) od' io' lo' o1' o2' ola' S' last' h' tk', LoopSt it' l' od' io' lo' S' P vs.length → LoopKeep S S' → DrawsObj n o1' o2' → LastObj last' ola' → LcvOk h' S'.lcv last' → KtsTurn (fsOf outer) g₀ h₀' → Gr w p loose mean mg mb A₀ base outer h₀' → Fr h₀' L h' m →
     News h₀' L h' [(d, o1'), (n, o2'), (x, instObj 255 dx), (dx, od'), (it', io'), (la, ola')] → KeepsF [d, n, x, dx, it, la] (L :: fsOf outer) s.heap h' → h'.get? l' = some lo' → (∀ es n, lo'.data ≠ .dict es n) → Dist [(d, o1'), (n, o2'), (x, instObj 255 dx), (dx, od'), (it', io'), (la, ola')] → AllNe l' [(d, o1'), (n, o2'), (x, instObj 255 dx), (dx, od'), (it', io'), (la, ola')] →
     ((it' = it ∧ l' = l ∧ lo' = lo) ∨ ((∀ o, s.heap.get? it' = some o → it' = it) ∧ (∀ o, s.heap.get? l' = some o → l' = it))) → (S'.lcv = S.lcv ∨ ∃ tq : Nat, S'.lcv = .ref tq ∧ ∀ o, s.heap.get? tq = some o → tq = it) → R (.ok (.ret (.bool true))) { s with heap := h', toks := tk' }) :
   codeAny (model PySem.Challenge.rw_bb0046_01.row.prog w) (ktrTop dp un gd cn cs L a ccd cl outer) (.call (.ref 419) ⟨[.ref d, .ref x, .ref lr, .int at_ t1, .int deep t2, .ref la], []⟩) R s := by
  have hdist' := hdist
  simp only [Dist, AllNe, and_true] at hdist'
  refine' enterS Γ F N ?kA ?kF ?kK ?k6 ?k7 ?k8 ?k9 ?kB ?_ ?c2 ?c3 ?c4 ?c5
  case kA => exact rfl
  case kF => exact rfl
  case kK => assumption
  case k6 => k_is
  case k7 => k_is
  case k8 => k_room
  case k9 => first | exact BindsTo.of_eq rfl | exact binds_K (by k_in) rfl (by k_is) rfl rfl rfl
  case c5 => decide
  case kB => exact locs rfl
  case c2 => exact rfl
  case c3 => exact rfl
  case c4 => exact rfl
  intro g' L' h' FG' F' N' Γ' G'
  obtain ⟨B', X', T', XB', TB', D'⟩ := Γ'
  try dsimp only
  try k_fold
  have off : ∀ {q : Nat}, AllNe q [(d, o1), (n, o2), (x, instObj 255 dx), (dx, od), (it, io), (la, ola)] → q ∉ List.map (fun x => x.1) [(d, o1), (n, o2), (x, instObj 255 dx), (dx, od), (it, io), (la, ola)] := fun h hm => by
    obtain ⟨r, hr, e⟩ := List.mem_map.mp hm
    exact allNe_mem h r hr e
  have hlg : g'.get? l = some lo := G' _ _ hl (off hlne)
  have hlrg : g'.get? lr = some (listOf vs.toArray ep) := G' _ _ hlr (off hlrne)
  have htup : ∀ t its n, s.heap.get? t = some (tupOf its n) → g'.get? t = some (tupOf its n) := fun t its k ht => G' _ _ ht (tup_off N (by
    obtain ⟨es, n', rfl, _⟩ := hS.dict
    obtain ⟨us, hi, _⟩ := hS.pend
    obtain ⟨cur, t, ep', vs', ep2, ns', rfl, rfl, _⟩ := hD
    intro q hq
    simp only [List.mem_cons, List.not_mem_nil, or_false] at hq
    rcases hq with rfl | rfl | rfl | rfl | rfl | rfl
    · exact fun z => absurd (Value.type.inj z) (by decide)
    · exact fun z => absurd (Value.type.inj z) (by decide)
    · intro z; cases z
    · exact fun z => absurd (Value.type.inj z) (by decide)
    · exact hi.notTup
    · cases last with
      | none => obtain ⟨_, rfl⟩ := hLa; exact fun z => absurd (Value.type.inj z) (by decide)
      | some v => obtain ⟨_, _, rfl⟩ := hLa; exact fun z => absurd (Value.type.inj z) (by decide)) ht)
  have hRg : RowNums g' vs ns := hR.mono htup
  have hlcg : LcvK g' [] S.lcv last := by
    cases last with
    | none => exact hlcv
    | some v => obtain ⟨tv, t, e1, e2, e3⟩ := hlcv; exact ⟨tv, t, e1, e2, .inl (htup _ _ _ e3)⟩
  refine wpAny_execs_cons (wpAny_For ?_)
  obtain ⟨⟨q1, q2, q3, q4, q5⟩, ⟨q6, q7, q8, q9⟩, ⟨q10, q11, q12⟩, ⟨q13, q14⟩, q15⟩ := hdist'
  repeat' (first | (k_unfold; (try dsimp only)) | (k_end; wrow_close) | ((fail_if_success (with_reducible show wpAny _ _ (pyIter _) _ _ _)); first | walk1 | (dsimp only; walk1)))
  (rename IsRange _ _ _ _ _ _ _ _ => hr)
  (rename Fr g' L' _ _ => kF)
  (rename News g' L' _ _ => kN)
  (rename DrawsObj _ _ _ => kD)
  clear q1 q2 q3 q4 q5 q6 q7 q8 q9 q10 q11 q12 q13 q14 q15
  have hdist' := hdist
  simp only [Dist, AllNe, and_true] at hdist'
  obtain ⟨Inv, hInv⟩ : ∃ Inv : Nat → Heap → (Str → Option Value) → List (Addr × Obj) → Prop, Inv = fun i g m news => ∃ it2 l2 od2 io2 lo2 o12 o22 ola2 S2 last2 fz, AskI w p loose mean mg mb (ktrTop dp un gd cn cs L a ccd cl outer) base (envX cn cs L a ccd cl :: outer) g' s.heap vs ns S P d x lr la n dx it l lo at_ deep t1 t2 it2 l2 od2 io2 lo2 o12 o22 ola2 S2 last2 fz g m news := ⟨_, rfl⟩
  refine range_loop rfl rfl rfl hr (by omega) (by omega) kF kN Inv ?_ ?_ ?_
  · rw [hInv]
    refine ⟨_, _, _, _, _, _, _, _, _, _, [], ⟨rfl, rfl, rfl, rfl, rfl, rfl⟩, KtsTurn.refl, ⟨B', X', T', XB', TB', D'⟩, rfl, ?_, kD, hLa, hS, ⟨rfl, rfl, rfl, rfl, rfl⟩, .inl hlg, hs, ?_, hlcg, ?_, .inl ⟨rfl, rfl, rfl⟩, .inl rfl⟩
    · simp only [Dist, AllNe, and_true]; exact hdist'
    · exact hlne
    · intro b o hb hne
      by_cases hm : b ∈ List.map (fun x => x.1) [(d, o1), (n, o2), (x, instObj 255 dx), (dx, od), (it, io), (la, ola)]
      · exact .inr hm
      · exact .inl ⟨o, G' _ _ hb hm⟩
  · intro I oI i tk g2 m2 news2 h1 tk1 hi hJ hne hcls F2 N2
    replace F2 : Fr g2 L' h1 _ := F2
    replace N2 : News g2 L' h1 _ := N2
    rw [hInv] at hJ
    obtain ⟨it2, l2, od2, io2, lo2, o12, o22, ola2, S2, last2, fz, J⟩ := hJ
    have hled := J.led
    subst hled
    obtain ⟨B2, X2, P2, XB2, TB2, D2⟩ := J.gr
    have T2 := J.turn
    have hd2 := J.dist
    simp only [Dist, AllNe, and_true] at hd2
    obtain ⟨⟨a1, a2, a3, a4, a5, a6⟩, ⟨b1, b2, b3, b4, b5⟩, ⟨c1, c2, c3, c4⟩, ⟨d1, d2, d3⟩, ⟨e1, e2⟩, f1, f2⟩ := hd2
    simp only [AllNe, and_true] at hne
    obtain ⟨g1, g2', g3, g4, g5, g6, g7⟩ := hne
    obtain ⟨q1, q2, q3, q4, q5, q6⟩ := J.m
    have hDr := J.draws
    refine post_key (fun s₃ => ∃ h' tk' g' m' news', s₃ = { s with heap := h', toks := tk' } ∧ Fr g' L' h' m' ∧ News g' L' h' ((I, oI) :: news') ∧ AllNe I news' ∧ Inv (i + 1) g' m' news') (fun s₃ h => h) (fun Post hpost => ?_)
    obtain ⟨Mid, hMid⟩ : ∃ Mid : Shared → Prop, Mid = fun s' => ∃ which value tw tv m3 h3 tk3 o13 o23, s' = { s with heap := h3, toks := tk3 } ∧ 0 ≤ which ∧ which < 13 ∧ AskM m3 d x lr la at_ deep t1 t2 ∧ m3 "which" = some (.int which tw) ∧ m3 "value" = some (.int value tv) ∧ DrawsObj n o13 o23 ∧ Fr g2 L' h3 m3 ∧ News g2 L' h3 ((d, o13) :: (n, o23) :: (I, oI) :: (x, instObj 255 dx) :: (dx, od2) :: (it2, io2) :: (la, ola2) :: fz) := ⟨_, rfl⟩
    refine execs_split Mid 1 _ ?_ ?_
    · simp only [List.take_succ_cons, List.take_zero]
      clear kF kN
      k_steps
      (rename Fr g2 L' _ _ => kF)
      (rename News g2 L' _ _ => kN)
      (rename DrawsObj _ _ _ => kD)
      show Mid _
      rw [hMid]
      refine' ⟨_, _, _, _, _, _, _, _, _, rfl, ?ka, ?kb, ?kc, ?kd, ?ke, kD, kF, nw_tl kN⟩
      case kd => exact rfl
      case ke => exact rfl
      case ka => assumption
      case kb => assumption
      case kc => exact ⟨q1, q2, q3, q4, q5, q6⟩
    · simp only [List.drop_succ_cons, List.drop_zero]
      clear kF kN F2 N2
      intro s' hs'
      rw [hMid] at hs'
      obtain ⟨which, value, tw, tv, m3, h3, tk3, o13, o23, rfl, w0, w13, ⟨r1, r2, r3, r4, r5, r6⟩, r7, r8, hD3, F3, N3⟩ := hs'
      have hlr2 : g2.get? lr = some (listOf vs.toArray ep) := T2.other _ _ hlrg (notFrame D' hlrg (fun _ _ z => by cases z))
      have hR2 : RowNums g2 vs ns := hRg.mono fun t its k ht => T2.other _ _ ht (notFrame D' ht fun _ _ z => by cases z)
      have hvl := hR.length
      have hlv : vs.length ≤ 1000 := by omega
      have hRP : RowNums g2 P (ns.drop (at_ + 1).toNat) := by rw [hP]; exact hR2.drop _
      have hits2 : ItemsIn g2 P := hRP.items
      have hbg : 0 < at_ → ItemAt g2 S.bef (ns.getD (at_ - 1).toNat 0) := fun z => ((hb z).mono htup).mono fun t its k ht => T2.other _ _ ht (notFrame D' ht fun _ _ z => by cases z)
      clear hlr hlrg hRg hb hR hlcg hlg htup off
      have hln := hlrne
      simp only [AllNe, and_true] at hln
      obtain ⟨k1, k2, k3, k4, k5, k6⟩ := hln
      have hLs := J.lst
      have hSt := J.st
      have hLc := J.lcv
      have hkl := J.kl
      have hnd := J.nd
      have hl2 := J.lne
      simp only [AllNe, and_true] at hl2
      obtain ⟨l1, l2', l3, l4, l5, l6⟩ := hl2
      have hne2 : AllNe I ((d, o12) :: (n, o22) :: (x, instObj 255 dx) :: (dx, od2) :: (it2, io2) :: (la, ola2) :: fz) := by
        simp only [AllNe]; exact ⟨g1, g2', g3, g4, g5, g6, g7⟩
      by_cases c12 : which = 12
      · subst c12
        k_steps
        all_goals first
          | (exfalso; (rename (decide _ != decide _) = true => hx); simp at hx; done)
          | skip
        all_goals
          refine hpost _ ?_
          (rename Fr g2 L' _ _ => kF)
          (rename News g2 L' _ _ => kN)
          (rename LoopSt _ _ _ _ _ _ _ _ => kS)
          (rename LastObj (some value) _ => kL)
          (rename _ ≠ 92 => k92)
          (rename S2.lcv = _ ∨ _ => kor)
          (rename Heap.get? _ _ = some (tupOf _ _) => kt)
          obtain ⟨fz', N', hn', J'⟩ := J.turn12 kF ⟨r1, r2, r3, r4, r5, r6⟩ hD3 kL kS k92 kt hne2 (kor.imp id fun ⟨z1, z2, z3⟩ => by
            have zI := allNe_mem z1 (I, oI) (by simp)
            refine ⟨fun q => zI q.symm, ?_, z2, z3⟩
            simp only [AllNe] at z1 ⊢
            simp only [z1, ne_eq, not_false_eq_true, and_self]) (nw_sub kN fun q hq => by
              simp only [List.mem_cons] at hq ⊢
              rcases hq with e | e | e | e | e | e | e <;> simp [e])
          refine ⟨_, _, g2, _, _, rfl, kF, (fun q hq => ?_), hn', ?_⟩
          · rcases List.mem_cons.mp hq with e | e
            · rw [e]; exact kN _ (by simp)
            · exact N' q e
          · rw [hInv]
            exact ⟨_, _, _, _, _, _, _, _, _, _, _, J'⟩
      · by_cases hq : at_ < 0 ∧ (which = 8 ∨ which = 10)
        · obtain ⟨hq1, rfl | rfl⟩ := hq
          all_goals
            k_steps
            refine hpost _ ?_
            (rename Fr g2 L' _ _ => kF)
            (rename News g2 L' _ _ => kN)
            have J' := J.turn0 ⟨r1, r2, r3, r4, r5, r6⟩ hD3
            refine ⟨_, _, g2, _, (d, o13) :: (n, o23) :: (x, instObj 255 dx) :: (dx, od2) :: (it2, io2) :: (la, ola2) :: fz, rfl, kF, nw_sub kN fun q hq => ?_, hne2, ?_⟩
            · simp only [List.mem_cons] at hq ⊢
              rcases hq with e | e | e | e | e | e | e | e <;> simp [e]
            · rw [hInv]
              exact ⟨_, _, _, _, _, _, _, _, _, _, _, J'⟩
        · have hix : -1 ≤ S2.idx := by rw [J.keep.idx, hidx]; exact ha0
          have eI : S2.idx = at_ := J.keep.idx.trans hidx
          have eD : S2.depth = deep := J.keep.depth.trans hdep
          have h08 : which = 8 ∨ which = 10 → 0 ≤ S2.idx := fun z => by
            rw [eI]
            exact Int.not_lt.mp fun c => hq ⟨c, z⟩
          have hbb : 0 < S2.idx → ItemAt g2 S2.bef (ns.getD (at_ - 1).toNat 0) := fun z => by
            rw [J.keep.bef]; rw [eI] at z; exact hbg z
          have hbr2 : ∃ t : Nat, S2.bef = .ref t := by rw [J.keep.bef]; exact hbr
          have Γ2 := J.gr
          have eq8 : askAns S2.idx S2.depth (ns.getD (at_ - 1).toNat 0) (ns.drop (at_ + 1).toNat) vs.length which = dueAns ns at_ deep which := by
            rw [eI, eD, hvl]
            exact ask_due ha0 ha1 (fun _ => rfl) (fun z => by rw [← eI]; exact h08 z)
          rcases Int.lt_or_le at_ 0 with c | c
          · have hz : (([8, 10] : List Int).any fun x => x == which) = false := by
              have : ¬ (which = 8 ∨ which = 10) := fun z => hq ⟨c, z⟩
              simp; omega
            k_steps
            all_goals
              (rename IsAns _ (askAns _ _ _ _ _ _) => hv2)
              (rename IsAns _ (dueAns _ _ _ _) => hv1)
              rw [eq8] at hv2
              generalize dueAns ns at_ deep which = A at hv1 hv2
              (rename KtsTurn _ g2 _ => kT)
              (rename LoopSt _ _ _ _ _ _ _ _ => kS)
              (rename LoopKeep _ _ => kK)
              (rename _ = S2.lcv => kc)
              (rename _ ∨ _ => kor)
              (rename Heap.get? _ _ = some _ => kl)
              (rename ∀ es n, Obj.data _ ≠ _ => kd)
              cases A
              all_goals first
                | (obtain ⟨_, rfl⟩ := hv1; obtain ⟨_, rfl⟩ := hv2)
                | (obtain rfl := hv1; obtain rfl := hv2)
              all_goals k_steps
              all_goals first
                | (exfalso; (rename _ ≠ _ => hx); exact hx rfl)
                | (exfalso; (rename (_ != _) = true => hx); simp at hx; done)
                | (with_reducible refine hpost _ ?_)
              all_goals
                (rename Fr _ L' _ _ => kF)
                (rename News _ L' _ _ => kN)
                obtain ⟨fz', N', hn', J'⟩ := J.turnN kF ⟨r1, r2, r3, r4, r5, r6⟩ hD3 kT ⟨by assumption, by assumption, by assumption, XB2, TB2, by assumption⟩ kS kK kc kl kd hne2 (kor.imp id fun ⟨z1, z2, z3, z4, z5, z6, z7⟩ => by
                  have zI := allNe_mem z1 (I, oI) (by simp)
                  have zJ := allNe_mem z2 (I, oI) (by simp)
                  simp only [AllNe] at z1 z2
                  refine ⟨fun q => zI q.symm, fun q => zJ q.symm, ?_, ?_, z4, z5, z6, z7⟩
                  · simp only [AllNe]
                    simp only [z1, ne_eq, not_false_eq_true, and_self]
                  · simp only [AllNe]
                    simp only [z2, ne_eq, not_false_eq_true, and_self]) (nw_sub kN fun q hq => by
                    simp only [List.mem_cons] at hq ⊢
                    rcases hq with e | e | e | e | e | e | e <;> simp [e])
                refine ⟨_, _, _, _, _, rfl, kF, (fun q hq => ?_), hn', ?_⟩
                · rcases List.mem_cons.mp hq with e | e
                  · rw [e]; exact kN _ (by simp)
                  · exact N' q e
                · rw [hInv]
                  exact ⟨_, _, _, _, _, _, _, _, _, _, _, J'⟩
          · k_steps
            all_goals
              (rename IsAns _ (askAns _ _ _ _ _ _) => hv2)
              (rename IsAns _ (dueAns _ _ _ _) => hv1)
              rw [eq8] at hv2
              generalize dueAns ns at_ deep which = A at hv1 hv2
              (rename KtsTurn _ g2 _ => kT)
              (rename LoopSt _ _ _ _ _ _ _ _ => kS)
              (rename LoopKeep _ _ => kK)
              (rename _ = S2.lcv => kc)
              (rename _ ∨ _ => kor)
              (rename Heap.get? _ _ = some _ => kl)
              (rename ∀ es n, Obj.data _ ≠ _ => kd)
              cases A
              all_goals first
                | (obtain ⟨_, rfl⟩ := hv1; obtain ⟨_, rfl⟩ := hv2)
                | (obtain rfl := hv1; obtain rfl := hv2)
              all_goals k_steps
              all_goals first
                | (exfalso; (rename _ ≠ _ => hx); exact hx rfl)
                | (exfalso; (rename (_ != _) = true => hx); simp at hx; done)
                | (with_reducible refine hpost _ ?_)
              all_goals
                (rename Fr _ L' _ _ => kF)
                (rename News _ L' _ _ => kN)
                obtain ⟨fz', N', hn', J'⟩ := J.turnN kF ⟨r1, r2, r3, r4, r5, r6⟩ hD3 kT ⟨by assumption, by assumption, by assumption, XB2, TB2, by assumption⟩ kS kK kc kl kd hne2 (kor.imp id fun ⟨z1, z2, z3, z4, z5, z6, z7⟩ => by
                  have zI := allNe_mem z1 (I, oI) (by simp)
                  have zJ := allNe_mem z2 (I, oI) (by simp)
                  simp only [AllNe] at z1 z2
                  refine ⟨fun q => zI q.symm, fun q => zJ q.symm, ?_, ?_, z4, z5, z6, z7⟩
                  · simp only [AllNe]
                    simp only [z1, ne_eq, not_false_eq_true, and_self]
                  · simp only [AllNe]
                    simp only [z2, ne_eq, not_false_eq_true, and_self]) (nw_sub kN fun q hq => by
                    simp only [List.mem_cons] at hq ⊢
                    rcases hq with e | e | e | e | e | e | e <;> simp [e])
                refine ⟨_, _, _, _, _, rfl, kF, (fun q hq => ?_), hn', ?_⟩
                · rcases List.mem_cons.mp hq with e | e
                  · rw [e]; exact kN _ (by simp)
                  · exact N' q e
                · rw [hInv]
                  exact ⟨_, _, _, _, _, _, _, _, _, _, _, J'⟩
  · intro g2 m2 news2 h2 tk2 hJ F2 N2
    rw [hInv] at hJ
    obtain ⟨it2, l2, od2, io2, lo2, o12, o22, ola2, S2, last2, fz, J⟩ := hJ
    obtain ⟨B2, X2, P2, XB2, TB2, D2⟩ := J.gr
    have T2 := J.turn
    have hled := J.led
    subst hled
    have hsub : ∀ q ∈ [(d, o12), (n, o22), (x, instObj 255 dx), (dx, od2), (it2, io2), (la, ola2)], q ∈ (d, o12) :: (n, o22) :: (x, instObj 255 dx) :: (dx, od2) :: (it2, io2) :: (la, ola2) :: fz := fun q hq => by
      simp only [List.mem_cons, List.not_mem_nil, or_false] at hq ⊢
      rcases hq with e | e | e | e | e | e <;> simp [e]
    have hd2 := J.dist
    simp only [Dist, AllNe, and_true] at hd2
    dsimp only
    try k_fold
    k_steps
    (rename KtsTurn _ h₀ _ => kT)
    (rename Fr _ L _ m => kF)
    (rename News _ L _ _ => kN)
    refine ret _ it2 l2 od2 io2 lo2 o12 o22 ola2 S2 last2 _ _ J.st J.keep J.draws J.lst (J.lcv.at F2 N2 fun q hq => by simp [hq]) (T0.trans kT) ⟨by assumption, by assumption, by assumption, XB', TB', by assumption⟩ kF (nw_sub kN hsub) (keepsF_of G' J.turn F2) ((J.kl.mono fun q hq => by simp [hq]).at F2 N2) J.nd ?_ J.lne J.old J.oldv
    simp only [Dist, AllNe, and_true]
    obtain ⟨⟨a1, a2, a3, a4, a5, _⟩, ⟨b1, b2, b3, b4, _⟩, ⟨c1, c2, c3, _⟩, ⟨d1, d2, _⟩, ⟨e1, _⟩, _⟩ := hd2
    exact ⟨⟨a1, a2, a3, a4, a5⟩, ⟨b1, b2, b3, b4⟩, ⟨c1, c2, c3⟩, ⟨d1, d2⟩, e1⟩
end

/-! ## MN -/
/-- a row of the tree: a number, the row below it, the rest -/
inductive Row where
  | nil
  | cons (n : Int) (b r : Row)
namespace Row
def len : Row → Nat
  | .nil => 0
  | .cons _ _ r => r.len + 1
def size : Row → Nat
  | .nil => 0
  | .cons _ b r => 1 + b.size + r.size
def depth : Row → Nat
  | .nil => 0
  | .cons _ b r => max (b.depth + 1) r.depth
def nums : Row → List Int
  | .nil => []
  | .cons n _ r => n :: r.nums
def flat (d : Int) : Row → List (Int × Int)
  | .nil => []
  | .cons n b r => (d, n) :: (b.flat (d + 1) ++ r.flat d)
def snoc : Row → Int → Row → Row
  | .nil, n, b => .cons n b .nil
  | .cons m c r, n, b => .cons m c (r.snoc n b)
theorem size_snoc (n : Int) (b : Row) : ∀ r : Row, (r.snoc n b).size = r.size + 1 + b.size
  | .nil => by simp only [snoc, size]; omega
  | .cons m c r => by simp only [snoc, size, size_snoc n b r]; omega
theorem len_snoc (n : Int) (b : Row) : ∀ r : Row, (r.snoc n b).len = r.len + 1
  | .nil => rfl
  | .cons m c r => by simp only [snoc, len, len_snoc n b r]
theorem depth_snoc (n : Int) (b : Row) (k : Nat) (hb : b.depth + 1 ≤ k) : ∀ r : Row, r.depth ≤ k → (r.snoc n b).depth ≤ k
  | .nil, _ => by simp only [snoc, depth]; omega
  | .cons m c r, h => by
    simp only [depth] at h
    have := depth_snoc n b k hb r (by omega)
    simp only [snoc, depth]; omega
theorem len_size : ∀ r : Row, r.len ≤ r.size
  | .nil => Nat.le_refl _
  | .cons _ _ r => by have := len_size r; simp only [len, size]; omega
theorem nums_length : ∀ r : Row, r.nums.length = r.len
  | .nil => rfl
  | .cons _ _ r => by simp only [nums, len, List.length_cons, nums_length r]
theorem flat_length (d : Int) : ∀ r : Row, (r.flat d).length = r.size
  | .nil => rfl
  | .cons _ b r => by simp only [flat, size, List.length_cons, List.length_append, flat_length (d + 1) b, flat_length d r]; omega
end Row
/-- the row `R` lies in the items `vs`, `P b o` saying that the object `o` stands at `b` -/
inductive RowIn (P : Addr → Obj → Prop) : List Value → Row → Prop
  | nil : RowIn P [] .nil
  | cons {t lb ep : Nat} {tk : Tok} {n : Int} {vb vs : List Value} {b r : Row} : t ≠ 92 → P t (tupOf #[.int n tk, .ref lb] 0) → P lb (listOf vb.toArray ep) → RowIn P vb b → RowIn P vs r → RowIn P (.ref t :: vs) (.cons n b r)
theorem RowIn.mono {P P' : Addr → Obj → Prop} {vs : List Value} {r : Row} (h : RowIn P vs r) (k : ∀ b o, (o.cls = .type "tuple" ∨ o.cls = .type "list") → (∀ es n, o.data ≠ .dict es n) → P b o → P' b o) : RowIn P' vs r := by
  induction h with
  | nil => exact .nil
  | cons h1 h2 h3 _ _ ih1 ih2 => exact .cons h1 (k _ _ (.inl rfl) (fun _ _ z => by cases z) h2) (k _ _ (.inr rfl) (fun _ _ z => by cases z) h3) ih1 ih2
theorem RowIn.length {P : Addr → Obj → Prop} {vs : List Value} {r : Row} (h : RowIn P vs r) : vs.length = r.len := by
  induction h with
  | nil => rfl
  | cons _ _ _ _ _ _ ih => rw [List.length_cons, Row.len, ih]
theorem RowIn.snoc {P : Addr → Obj → Prop} {vs : List Value} {r : Row} {t lb ep : Nat} {tk : Tok} {n : Int} {vb : List Value} {b : Row} (h : RowIn P vs r) (h1 : t ≠ 92) (h2 : P t (tupOf #[.int n tk, .ref lb] 0)) (h3 : P lb (listOf vb.toArray ep)) (h4 : RowIn P vb b) :
    RowIn P (vs ++ [.ref t]) (r.snoc n b) := by
  induction h with
  | nil => exact .cons h1 h2 h3 h4 .nil
  | cons g1 g2 g3 g4 _ _ ih2 => exact .cons g1 g2 g3 g4 ih2
theorem RowIn.nums {h : Heap} {vs : List Value} {r : Row} (x : RowIn (fun b o => h.get? b = some o) vs r) : RowNums h vs r.nums := by
  induction x with
  | nil => exact .nil
  | cons h1 h2 _ _ _ _ ih => exact .cons ⟨_, _, _, rfl, h1, h2⟩ ih

/-! ## Ledgers as lists of addresses -/
theorem allNe_iff {d : Nat} {a : List (Addr × Obj)} : AllNe d a ↔ (d : Addr) ∉ a.map (·.1) := by
  constructor
  · intro h hm
    obtain ⟨r, hr, e⟩ := List.mem_map.mp hm
    exact allNe_mem h r hr e
  · intro h
    exact allNe_mk fun p hp e => h (List.mem_map.mpr ⟨p, hp, e⟩)
theorem dist_iff : ∀ {a : List (Addr × Obj)}, Dist a ↔ (a.map (·.1)).Nodup
  | [] => by simp [Dist]
  | p :: r => by
    rw [Dist, List.map_cons, List.nodup_cons, allNe_iff, dist_iff]
theorem allNe_app {d : Nat} {a b : List (Addr × Obj)} (h : AllNe d a) (h' : AllNe d b) : AllNe d (a ++ b) := allNe_mk fun p hp => (List.mem_append.mp hp).elim (allNe_mem h p) (allNe_mem h' p)
/-- the new entries `b` lie apart from the elder ones `a` -/
def Apart (a b : List (Addr × Obj)) : Prop := ∀ p ∈ a, AllNe p.1 b
theorem Apart.of {h₀ h : Heap} {L : Addr} {a b : List (Addr × Obj)} (N : News h₀ L h a) (hb : ∀ q ∈ b, h.get? q.1 = none) : Apart a b := fun p hp => allNe_mk fun q hq e => by
  have := (N p hp).1
  rw [← e, hb q hq] at this; cases this
theorem Apart.at {a b : List (Addr × Obj)} (h : Apart a b) {d : Nat} {o : Obj} (hm : (d, o) ∈ a) : AllNe d b := h _ hm
theorem dist_app {a b : List (Addr × Obj)} (h : Dist a) (h' : Dist b) (x : Apart a b) : Dist (a ++ b) := by
  rw [dist_iff] at h h' ⊢
  rw [List.map_append, List.nodup_append]
  refine ⟨h, h', fun p' hp q' hq e => ?_⟩
  obtain ⟨p, hp, e1⟩ := List.mem_map.mp hp
  obtain ⟨q, hq, e2⟩ := List.mem_map.mp hq
  exact allNe_mem (x p hp) q hq (by rw [e1, e2, e])
theorem Apart.symm {a b : List (Addr × Obj)} (h : Apart a b) : Apart b a := fun q hq => allNe_mk fun p hp e => allNe_mem (h p hp) q hq e.symm
theorem Apart.ne {a b : List (Addr × Obj)} {x y : Nat} {ox oy : Obj} (h : Apart a b) (hx : (x, ox) ∈ a) (hy : (y, oy) ∈ b) : x ≠ y := fun e => allNe_mem (h _ hx) _ hy e.symm
theorem Apart.tl {a b : List (Addr × Obj)} {x : Nat} {ox : Obj} {q : Addr × Obj} (h : Apart a (q :: b)) (hx : (x, ox) ∈ a) : AllNe x b := (h _ hx).2
theorem allLt_ne {d : Nat} : ∀ {a : List (Addr × Obj)}, AllLt d a → AllNe d a
  | [], _ => trivial
  | _ :: _, h => ⟨Nat.ne_of_lt h.1, allLt_ne h.2⟩
theorem not92 {w : World} {g h : Heap} {L q : Nat} {o : Obj} {news : List (Addr × Obj)} (X : (hd.heap_39 w.params).In g) (N : News g L h news) (hm : (q, o) ∈ news) : q ≠ 92 := fun e => by
  obtain ⟨o', ho, _⟩ := missing_at X
  have := (N _ hm).2.2
  rw [e] at this
  rw [show g.get? 92 = none from this] at ho; cases ho
/-- a part of a call -/
theorem wp_cut {α : Type} {M : Model} {A : Around} {t : Sem α} {E : Value → Shared → Prop} {s : Shared} {Q : α → Shared → Prop} (Mid : α → Shared → Prop) (h1 : wpAny M A t Mid E s) (h2 : ∀ v s', Mid v s' → Q v s') : wpAny M A t Q E s := wpAny_mono h1 h2 fun _ _ e => e
section
variable {prog : Program} {w : World} {A : Around} {E : Value → Shared → Prop} {s : Shared} {h₀ : Heap} {L : Addr} {m : Str → Option Value} {news news' : List (Addr × Obj)} {D : Addr} {vs : List Value} {n : Nat} {x : Value}
theorem k_append {Q : Value → Shared → Prop} (F : Fr h₀ L s.heap m) (N : News h₀ L s.heap news) (U : Upd D (listOf vs.toArray n) (listOf (vs ++ [x]).toArray (n + 1)) news news') (hz : vs.length ≤ 1000)
    (h : ∀ h', Fr h₀ L h' m → News h₀ L h' news' → Q .none { s with heap := h' }) : wpAny (model prog w) A (call (.builtin "list.append") [.ref D, x]) Q E s := by
  refine append_K F N (its := vs.toArray) (n := n) ?_ h (by rw [List.size_toArray, sizeLine_eq]; omega)
  rw [show vs.toArray.push x = (vs ++ [x]).toArray by simp]
  exact U
end

/-! ## MO -/
/-- the most that one item of a row weighs -/
def Wt : Nat → Nat
  | 0 => 1
  | k + 1 => 1 + 4 * Wt k
def TreeSpec (w : World) (p : Program) (loose : List Str) (mean : ExcName → Option Value) (mg mb : Str → Option Value) (k : Nat) : Prop := ∀ {dp un : Nat} {gd : Option (List Code)} {cn : Str} {cs : Scope} {a : Addr} {ccd : Value} {cl : List (Str × Addr)} {outer : List Env} {A₀ : Around} {base h₀ : Heap} {L : Addr} {m : Str → Option Value} {s : Shared} {Q E : Value → Shared → Prop} {d n : Nat} {deep : Int} {td : Tok} {o1 o2 : Obj}
   (B : Below A₀ base outer h₀) (F : Fr h₀ L s.heap m) (X : (hd.heap_39 w.params).In h₀) (T : Top p loose mean mg mb h₀) (hk : cs.kind = .function) (hdeep : deep + k = 2) (hdp : dp + 60 + 5 * k < recursionLimit) (hun : un + 150 + 100 * k < cLine) (N : News h₀ L s.heap [(d, o1), (n, o2)]) (hD : DrawsObj n o1 o2) (hdn : d ≠ n)
   (ret : ∀ (l : Nat) vs ep R o1' o2' fz h' tk', RowIn (fun b o => (b, o) ∈ fz) vs R → R.len ≤ 4 → R.size ≤ 4 * Wt k → R.depth ≤ k + 1 → DrawsObj n o1' o2' → Fr h₀ L h' m → News h₀ L h' ((d, o1') :: (n, o2') :: (l, listOf vs.toArray ep) :: fz) →
     Dist ((d, o1') :: (n, o2') :: (l, listOf vs.toArray ep) :: fz) → (∀ q ∈ (l, listOf vs.toArray ep) :: fz, s.heap.get? q.1 = none) → Keeps [d, n] s.heap h' → Q (.ref l) { s with heap := h', toks := tk' }),
   wpAny (model PySem.Challenge.rw_bb0046_01.row.prog w) (ktrTop dp un gd cn cs L a ccd cl outer) (call (.ref 384) [.ref d, .int deep td]) Q E s
section
variable {w : World} {p : Program} {loose : List Str} {mean : ExcName → Option Value} {mg mb : Str → Option Value}
theorem call_tree {k : Nat} (IH : TreeSpec w p loose mean mg mb k) {dp un : Nat} {gd : Option (List Code)} {cn : Str} {cs : Scope} {a : Addr} {ccd : Value} {cl : List (Str × Addr)} {outer : List Env} {A₀ : Around} {base h₀ : Heap} {L : Addr} {m : Str → Option Value} {s : Shared} {Q E : Value → Shared → Prop} {d n : Nat} {deep : Int} {td : Tok} {o1 o2 : Obj} {news r1 r2 : List (Addr × Obj)}
   (B : Below A₀ base outer h₀) (F : Fr h₀ L s.heap m) (X : (hd.heap_39 w.params).In h₀) (T : Top p loose mean mg mb h₀) (hk : cs.kind = .function) (hdeep : deep + k = 2) (hdp : dp + 60 + 5 * k < recursionLimit) (hun : un + 150 + 100 * k < cLine) (N : News h₀ L s.heap news) (D1 : Del d o1 news r1) (D2 : Del n o2 r1 r2) (hD : DrawsObj n o1 o2) (hdn : d ≠ n)
   (ret : ∀ (l : Nat) vs ep R o1' o2' fz h' tk', RowIn (fun b o => (b, o) ∈ fz) vs R → R.len ≤ 4 → R.size ≤ 4 * Wt k → R.depth ≤ k + 1 → DrawsObj n o1' o2' → Fr h₀ L h' m → News h₀ L h' ((d, o1') :: (n, o2') :: (l, listOf vs.toArray ep) :: (r2 ++ fz)) →
     Dist ((l, listOf vs.toArray ep) :: fz) → Apart news ((l, listOf vs.toArray ep) :: fz) → Keeps [d, n] s.heap h' → Q (.ref l) { s with heap := h', toks := tk' }) :
   wpAny (model PySem.Challenge.rw_bb0046_01.row.prog w) (ktrTop dp un gd cn cs L a ccd cl outer) (call (.ref 384) [.ref d, .int deep td]) Q E s := by
  obtain ⟨m1, q1⟩ := D1.mem
  obtain ⟨m2, q2⟩ := D2.mem
  refine IH B F X T hk hdeep hdp hun (nw_two N m1 (q1 _ m2).1) hD hdn fun l vs ep R o1' o2' fz h' tk' a1 a2 a3 a4 a5 a6 a7 a8 a9 b1 => ret l vs ep R o1' o2' fz h' tk' a1 a2 a3 a4 a5 a6 (fun q hq => ?_) a8.2.2 (Apart.of N a9) b1
  have hr : ∀ q ∈ r2, h'.get? q.1 = some q.2 ∧ q.1 ≠ L ∧ h₀.get? q.1 = none := fun q hq => by
    obtain ⟨z1, z2⟩ := q2 _ hq
    obtain ⟨z3, z4⟩ := q1 _ z1
    exact ⟨b1 _ _ (N _ z3).1 (by simp only [List.mem_cons, List.not_mem_nil, or_false, not_or]; exact ⟨z4, z2⟩), (N _ z3).2⟩
  rcases List.mem_cons.mp hq with rfl | hq
  · exact a7 _ (.head _)
  rcases List.mem_cons.mp hq with rfl | hq
  · exact a7 _ (.tail _ (.head _))
  rcases List.mem_cons.mp hq with rfl | hq
  · exact a7 _ (.tail _ (.tail _ (.head _)))
  rcases List.mem_append.mp hq with hq | hq
  · exact hr q hq
  · exact a7 _ (.tail _ (.tail _ (.tail _ hq)))
end

theorem tree_turn {g h : Heap} {L d n l I lf q eb ep : Nat} {o1 o2 oI : Obj} {vb vs : List Value} {fz fzz : List (Addr × Obj)} {x : Int} {tx : Tok} {b R : Row} {k i : Nat} (kN : News g L h ((q, tupOf #[.int x tx, .ref l] 0) :: (d, o1) :: (n, o2) :: (l, listOf vb.toArray eb) :: (I, oI) :: (lf, listOf (vs ++ [Value.ref q]).toArray (ep + 1)) :: fzz))
    (n92 : q ≠ 92) (kL : AllLt q ((d, o1) :: (n, o2) :: (l, listOf vb.toArray eb) :: (I, oI) :: (lf, listOf (vs ++ [Value.ref q]).toArray (ep + 1)) :: fzz)) (a1 : n ≠ d) (a2 : lf ≠ d) (b1 : lf ≠ n) (e1 : d ≠ I) (e2 : n ≠ I) (e3 : lf ≠ I)
    (s : AllNe l ((d, o1) :: (n, o2) :: (I, oI) :: (lf, listOf (vs ++ [Value.ref q]).toArray (ep + 1)) :: fzz)) (f1 : AllNe d fzz) (f2 : AllNe n fzz) (f3 : AllNe I fzz) (f4 : AllNe lf fzz) (df : Dist fzz) (hsub : ∀ z ∈ fz, z ∈ fzz)
    (hb : RowIn (fun b o => (b, o) ∈ fzz) vb b) (hR : RowIn (fun b o => (b, o) ∈ fz) vs R) (hl : R.len = i) (hs : R.size ≤ i * Wt k) (hd : R.depth ≤ k + 1) (hbs : 1 + b.size ≤ Wt k) (hbd : b.depth ≤ k) :
    ∃ ff, News g L h ((I, oI) :: (d, o1) :: (n, o2) :: (lf, listOf (vs ++ [Value.ref q]).toArray (ep + 1)) :: ff) ∧ AllNe I ((d, o1) :: (n, o2) :: (lf, listOf (vs ++ [Value.ref q]).toArray (ep + 1)) :: ff) ∧ Dist ((d, o1) :: (n, o2) :: (lf, listOf (vs ++ [Value.ref q]).toArray (ep + 1)) :: ff) ∧
      RowIn (fun b o => (b, o) ∈ ff) (vs ++ [Value.ref q]) (R.snoc x b) ∧ (R.snoc x b).len = i + 1 ∧ (R.snoc x b).size ≤ (i + 1) * Wt k ∧ (R.snoc x b).depth ≤ k + 1 := by
  simp only [AllNe] at s
  obtain ⟨s1, s2, s3, s4, s5⟩ := s
  have kq := allLt_ne kL
  simp only [AllNe] at kq
  obtain ⟨k1, k2, k3, k4, k5, k6⟩ := kq
  refine ⟨(q, tupOf #[.int x tx, .ref l] 0) :: (l, listOf vb.toArray eb) :: fzz, nw_sub kN fun z hz => ?_, ?_, ?_, ?_, ?_, ?_, ?_⟩
  · simp only [List.mem_cons] at hz ⊢
    rcases hz with e | e | e | e | e | e | e <;> simp [e]
  · exact ⟨e1, e2, e3, k4.symm, s3.symm, f3⟩
  · exact ⟨⟨a1, a2, k1.symm, s1.symm, f1⟩, ⟨b1, k2.symm, s2.symm, f2⟩, ⟨k5.symm, s4.symm, f4⟩, ⟨k3, k6⟩, s5, df⟩
  · refine RowIn.snoc (lb := l) (ep := eb) (tk := tx) (vb := vb) (hR.mono fun _ _ _ _ z => .tail _ (.tail _ (hsub _ z))) n92 (.head _) (.tail _ (.head _)) (hb.mono fun _ _ _ _ z => .tail _ (.tail _ z))
  · rw [Row.len_snoc, hl]
  · rw [Row.size_snoc, Nat.succ_mul]; omega
  · exact Row.depth_snoc x b (k + 1) (by omega) R hd
section
local macro_rules | `(tactic| k_ne) => `(tactic| (refine neN ?_; (try dsimp only); first | with_reducible assumption | (refine Ne.symm ?_; with_reducible assumption) | exact Apart.ne (by assumption) (by k_mem) (by k_mem) | exact (Apart.ne (by assumption) (by k_mem) (by k_mem)).symm | omega))
local macro_rules | `(tactic| k_all) => `(tactic| first | exact List.forall_mem_nil _ | ((first | with_reducible refine' List.forall_mem_cons.mpr ⟨?a, ?b⟩ | refine' List.forall_mem_cons.mpr ⟨?a, ?b⟩); (case a => k_ne); (case b => k_all)) | ((first | with_reducible refine' allNe_mem ?a | refine' allNe_mem ?a); (case a => first | with_reducible assumption | exact allNe_app (by with_reducible assumption) (Apart.tl (by assumption) (by k_mem)))))
local macro_rules | `(tactic| walk_at "call builtin:list.append") => `(tactic| (k_here; (with_reducible show wpAny _ _ (call (Value.builtin _) [Value.ref _, _]) _ _ _); k_dflt ((first | with_reducible refine' k_append ?F ?N ?U ?z ?_ | refine' k_append ?F ?N ?U ?z ?_); (case F => k_asm); (case N => k_asm); (case U => k_upd); (case z => omega)); k_whole; intro h' F' N'; (try k_sweep)))
section
local macro_rules | `(tactic| walk_at "call ref") => `(tactic| (k_here; (with_reducible show wpAny _ _ (call (Value.ref 384) _) _ _ _); k_dflt ((first | with_reducible refine' call_tree ?IH ?B ?F ?X ?T ?kk ?de ?dp ?un ?N ?D1 ?D2 ?hD ?dn ?_ | refine' call_tree ?IH ?B ?F ?X ?T ?kk ?de ?dp ?un ?N ?D1 ?D2 ?hD ?dn ?_); (case IH => with_reducible assumption); (case B => k_asm); (case F => k_asm); (case X => k_asm); (case T => k_asm); (case kk => exact rfl); (case N => k_asm); (case hD => k_asm); (case D1 => (repeat' ((with_reducible show Del _ _ _ _); first | ((first | with_reducible refine' Del.head ?_ | refine' Del.head ?_); k_all) | ((first | with_reducible refine' Del.tail (by k_ne) ?_ | refine' Del.tail (by k_ne) ?_))))); (case D2 => (repeat' ((with_reducible show Del _ _ _ _); first | ((first | with_reducible refine' Del.head ?_ | refine' Del.head ?_); k_all) | ((first | with_reducible refine' Del.tail (by k_ne) ?_ | refine' Del.tail (by k_ne) ?_))))); (case dn => k_ne); (case de => omega); (case dp => ((try dsimp only [ktrTop]); omega)); (case un => ((try simp only [units_in1, units_deeper, Around.mark_units, units_caller]); (try dsimp only [ktrTop]); omega))); k_whole; intro l' vs' ep' R' o1' o2' fz' h' tk' hR' hl' hs' hd' hD' F' N' d' x' K'; (dsimp only [List.cons_append] at N'); (try k_sweep)))
theorem reset_MO : True := by
  w_top off
  trivial
section
variable {w : World} {p : Program} {loose : List Str} {mean : ExcName → Option Value} {mg mb : Str → Option Value}
theorem tree_step (k : Nat) (IH : k = 0 ∨ ∃ j, k = j + 1 ∧ TreeSpec w p loose mean mg mb j) : TreeSpec w p loose mean mg mb k := by
  intro dp un gd cn cs a ccd cl outer A₀ base h₀ L m s Q E d n deep td o1 o2 B F X T hk hdeep hdp hun N hD hdn ret
  refine wpAny_call ?_
  refine' code_defG ?k1 ?k2 ?k3 ?k4 ?k5 ?kA ?kF ?kK ?k6 ?k7 ?k8 ?k9 ?kB ?_ ?c2 ?c3 ?c4 ?c5
  case kA => exact rfl
  case kF => exact rfl
  case kK => assumption
  case k1 => k_asm
  case k2 => k_asm
  case k3 => k_asm
  case k4 => exact N
  case k5 => k_asm
  case k6 => k_is
  case k7 => k_is
  case k8 => k_room
  case k9 => first | exact BindsTo.of_eq rfl | exact binds_K (by k_in) rfl (by k_is) rfl rfl rfl
  case c5 => decide
  case kB => exact locs rfl
  case c2 => exact rfl
  case c3 => exact rfl
  case c4 => exact rfl
  intro g' L' h' FG' F' N' B' X' T' G'
  try dsimp only
  try k_fold
  obtain ⟨Mid, hMid⟩ : ∃ Mid : Shared → Prop, Mid = fun s' => ∃ m' h2 tk2 lf, s' = { s with heap := h2, toks := tk2 } ∧ Fr g' L' h2 m' ∧ News g' L' h2 [(d, o1), (n, o2), (lf, listOf #[] 0)] ∧ lf ≠ d ∧ lf ≠ n ∧ m' "draws" = some (.ref d) ∧ m' "deep" = some (.int deep td) ∧ m' "found" = some (.ref lf) := ⟨_, rfl⟩
  refine execs_split Mid 1 _ ?_ ?_
  · simp only [List.take_succ_cons, List.take_zero]
    k_steps
    (rename Fr g' L' _ _ => kF)
    (rename News g' L' _ _ => kN)
    (rename _ ∧ _ => kL)
    show Mid _
    rw [hMid]
    exact ⟨_, _, _, _, rfl, kF, nw_sub kN (fun q hq => by
      simp only [List.mem_cons, List.not_mem_nil, or_false] at hq ⊢
      rcases hq with e | e | e <;> simp [e]), Nat.ne_of_gt kL.1, Nat.ne_of_gt kL.2, rfl, rfl, rfl⟩
  · simp only [List.drop_succ_cons, List.drop_zero]
    clear F' N'
    intro s' hs'
    rw [hMid] at hs'
    obtain ⟨m1, h1, tk1, lf, rfl, F1, N1, hfd, hfn, md, mdp, mf⟩ := hs'
    refine wpAny_execs_cons (wpAny_For ?_)
    obtain ⟨Mid2, hMid2⟩ : ∃ Mid2 : Value → Shared → Prop, Mid2 = fun v s' => ∃ (r : Addr) (cnt : Int) (o1' o2' : Obj) (h3 : Heap) (tk3 : Nat) (t u v' : Tok), v = .ref r ∧ s' = { s with heap := h3, toks := tk3 } ∧ 0 ≤ cnt ∧ cnt ≤ 4 ∧ IsRange h3 r 0 cnt 1 t u v' ∧ DrawsObj n o1' o2' ∧ Fr g' L' h3 m1 ∧ News g' L' h3 [(d, o1'), (n, o2'), (lf, listOf #[] 0)] := ⟨_, rfl⟩
    refine wp_cut Mid2 ?_ ?_
    · k_steps
      all_goals
        (rename IsRange _ _ _ _ _ _ _ _ => hr)
        (rename Fr g' L' _ _ => kF)
        (rename News g' L' _ _ => kN)
        (rename DrawsObj _ _ _ => kD)
        rw [hMid2]
        exact ⟨_, _, _, _, _, _, _, _, _, rfl, rfl, by omega, by omega, hr, kD, kF, kN⟩
    · intro v s' hv
      rw [hMid2] at hv
      obtain ⟨r, cnt, o13, o23, h3, tk3, t, u, v', rfl, rfl, hc0, hc4, hr, kD, kF, kN⟩ := hv
      clear F1 N1
      obtain ⟨Inv, hInv⟩ : ∃ Inv : Nat → Heap → (Str → Option Value) → List (Addr × Obj) → Prop, Inv = fun i g m news => ∃ o1 o2 vs ep R fz, g' = g ∧ m "draws" = some (.ref d) ∧ m "deep" = some (.int deep td) ∧ m "found" = some (.ref lf) ∧ news = (d, o1) :: (n, o2) :: (lf, listOf vs.toArray ep) :: fz ∧ Dist news ∧ DrawsObj n o1 o2 ∧
        RowIn (fun b o => (b, o) ∈ fz) vs R ∧ R.len = i ∧ R.size ≤ i * Wt k ∧ R.depth ≤ k + 1 := ⟨_, rfl⟩
      refine range_loop rfl rfl rfl hr hc0 (by omega) kF kN Inv ?_ ?_ ?_
      · rw [hInv]
        refine ⟨_, _, [], 0, .nil, [], rfl, md, mdp, mf, rfl, ?_, kD, .nil, rfl, Nat.zero_le _, Nat.zero_le _⟩
        simp only [Dist, AllNe, and_true]
        exact ⟨⟨hdn.symm, hfd⟩, hfn⟩
      · intro I oI i tk g2 m2 news2 h1 tk1 hi hJ hne hcls F2 N2
        replace F2 : Fr g2 L' h1 _ := F2
        replace N2 : News g2 L' h1 _ := N2
        rw [hInv] at hJ
        obtain ⟨o14, o24, vs, ep, R, fz, hgg, q1, q2, q3, rfl, hd2, hDr, hRo, hRl, hRs, hRd⟩ := hJ
        subst hgg
        simp only [Dist, AllNe, and_true] at hd2
        obtain ⟨⟨a1, a2, a3⟩, ⟨b1, b2⟩, c1, c2⟩ := hd2
        simp only [AllNe, and_true] at hne
        obtain ⟨e1, e2, e3, e4⟩ := hne
        have hvl := hRo.length
        have hw1 : 1 ≤ Wt k := by cases k <;> simp only [Wt] <;> omega
        have hmul : (i + 1) * Wt k = i * Wt k + Wt k := Nat.succ_mul _ _
        refine post_key (fun s₃ => ∃ h' tk' gg m' news', s₃ = { s with heap := h', toks := tk' } ∧ Fr gg L' h' m' ∧ News gg L' h' ((I, oI) :: news') ∧ AllNe I news' ∧ Inv (i + 1) gg m' news') (fun s₃ h => h) (fun Post hpost => ?_)
        clear kF kN
        rcases IH with rfl | ⟨j, rfl, IH⟩
        · k_steps
          (rename DrawsObj _ _ _ => kD)
          (rename Fr g' L' _ _ => kF)
          (rename News g' L' _ _ => kN)
          (rename _ ∧ _ => kL)
          have kL' := kL
          clear kL
          (rename _ ∧ _ ∧ _ ∧ _ ∧ AllLt _ _ => kL0)
          have TT := tree_turn (k := 0) (b := .nil) (vb := []) (eb := 0) kN (not92 X' kN (.head _)) kL' a1 a2 b1 e1 e2 e3 (by simp only [AllNe]; exact ⟨Nat.ne_of_lt kL0.2.1, Nat.ne_of_lt kL0.2.2.1, Nat.ne_of_lt kL0.1, Nat.ne_of_lt kL0.2.2.2.1, allLt_ne kL0.2.2.2.2⟩) a3 b2 e4 c1 c2 (fun _ z => z) .nil hRo hRl hRs hRd hw1 (Nat.zero_le _)
          obtain ⟨ff, r1, r2, r3, r4, r5, r6, r7⟩ := TT
          refine hpost _ ⟨_, _, g', _, _, rfl, kF, r1, r2, ?_⟩
          rw [hInv]
          exact ⟨_, _, _, _, _, _, rfl, q1, q2, q3, rfl, r3, kD, r4, r5, r6, r7⟩
        · k_steps
          · (rename Apart _ _ => kA)
            (rename Dist (_ :: _) => kDi)
            (rename RowIn _ _ _ => kR)
            (rename Row.size _ ≤ 4 * Wt _ => kS)
            (rename Row.depth _ ≤ j + 1 => kDp)
            (rename DrawsObj _ _ _ => kD)
            (rename Fr g' L' _ _ => kF)
            (rename News g' L' _ _ => kN)
            (rename _ ∧ _ => kL)
            have kL' := kL
            have ks := kA.symm _ (.head _)
            simp only [AllNe] at ks
            obtain ⟨s1, s2, s3, s4, s5⟩ := ks
            have TT := tree_turn (k := j + 1) kN (not92 X' kN (.head _)) kL' a1 a2 b1 e1 e2 e3 (by simp only [AllNe]; exact ⟨s1, s2, s3, s4, allNe_app s5 kDi.1⟩) (allNe_app a3 (kA.tl (by k_mem))) (allNe_app b2 (kA.tl (by k_mem))) (allNe_app e4 (kA.tl (by k_mem))) (allNe_app c1 (kA.tl (by k_mem)))
              (dist_app c2 kDi.2 fun p hp => (kA p (by simp [hp])).2) (fun _ z => List.mem_append_left _ z) (kR.mono fun _ _ _ _ z => List.mem_append_right _ z) hRo hRl hRs hRd (by simp only [Wt]; omega) (by omega)
            obtain ⟨ff, r1, r2, r3, r4, r5, r6, r7⟩ := TT
            refine hpost _ ⟨_, _, g', _, _, rfl, kF, r1, r2, ?_⟩
            rw [hInv]
            exact ⟨_, _, _, _, _, _, rfl, q1, q2, q3, rfl, r3, kD, r4, r5, r6, r7⟩
          · skip
            (rename DrawsObj _ _ _ => kD)
            (rename Fr g' L' _ _ => kF)
            (rename News g' L' _ _ => kN)
            (rename _ ∧ _ => kL)
            have kL' := kL
            clear kL
            (rename _ ∧ _ ∧ _ ∧ _ ∧ AllLt _ _ => kL0)
            have TT := tree_turn (k := j + 1) (b := .nil) (vb := []) (eb := 0) kN (not92 X' kN (.head _)) kL' a1 a2 b1 e1 e2 e3 (by simp only [AllNe]; exact ⟨Nat.ne_of_lt kL0.1, Nat.ne_of_lt kL0.2.1, Nat.ne_of_lt kL0.2.2.1, Nat.ne_of_lt kL0.2.2.2.1, allLt_ne kL0.2.2.2.2⟩) a3 b2 e4 c1 c2 (fun _ z => z) .nil hRo hRl hRs hRd hw1 (Nat.zero_le _)
            obtain ⟨ff, r1, r2, r3, r4, r5, r6, r7⟩ := TT
            refine hpost _ ⟨_, _, g', _, _, rfl, kF, r1, r2, ?_⟩
            rw [hInv]
            exact ⟨_, _, _, _, _, _, rfl, q1, q2, q3, rfl, r3, kD, r4, r5, r6, r7⟩
      · intro g2 m2 news2 h2 tk2 hJ F2 N2
        replace F2 : Fr g2 L' h2 m2 := F2
        replace N2 : News g2 L' h2 news2 := N2
        rw [hInv] at hJ
        obtain ⟨o14, o24, vs, ep, R, fz, hgg, q1, q2, q3, rfl, hd2, hDr, hRo, hRl, hRs, hRd⟩ := hJ
        subst hgg
        have hd3 := hd2
        simp only [Dist, AllNe, and_true] at hd2
        obtain ⟨⟨a1, a2, a3⟩, ⟨b1, b2⟩, c1, c2⟩ := hd2
        dsimp only
        try k_fold
        clear kF kN
        k_steps
        (rename Fr h₀ L _ m => kF)
        (rename News h₀ L _ _ => kN)
        have hm4 : cnt.toNat * Wt k ≤ 4 * Wt k := Nat.mul_le_mul_right _ (by omega)
        refine ret lf vs ep R o14 o24 fz _ _ hRo (by omega) (by omega) hRd hDr kF kN hd3 (fun q hq => fresh_of G' N2 (.tail _ (.tail _ hq)) ?_) (Keeps.of_sub G' F2)
        simp only [List.map_cons, List.map_nil, List.mem_cons, List.not_mem_nil, or_false, not_or]
        rcases List.mem_cons.mp hq with rfl | hq
        · exact ⟨a2, b1⟩
        · exact ⟨allNe_mem a3 q hq, allNe_mem b2 q hq⟩
theorem tree_spec : ∀ k : Nat, TreeSpec w p loose mean mg mb k
  | 0 => tree_step 0 (.inl rfl)
  | k + 1 => tree_step (k + 1) (.inr ⟨k, rfl, tree_spec k⟩)
end

/-! ## MP -/
/-- pairs of numbers, each a tuple -/
inductive OutIn (P : Addr → Obj → Prop) : List Value → List (Int × Int) → Prop
  | nil : OutIn P [] []
  | cons {t : Nat} {a b : Int} {ta tb : Tok} {vs : List Value} {xs : List (Int × Int)} : P t (tupOf #[.int a ta, .int b tb] 0) → OutIn P vs xs → OutIn P (.ref t :: vs) ((a, b) :: xs)
theorem OutIn.mono {P P' : Addr → Obj → Prop} {vs : List Value} {xs : List (Int × Int)} (h : OutIn P vs xs) (k : ∀ b its n, P b (tupOf its n) → P' b (tupOf its n)) : OutIn P' vs xs := by
  induction h with
  | nil => exact .nil
  | cons h1 _ ih => exact .cons (k _ _ _ h1) ih
theorem OutIn.app {P : Addr → Obj → Prop} {vs ws : List Value} {xs ys : List (Int × Int)} (h : OutIn P vs xs) (h' : OutIn P ws ys) : OutIn P (vs ++ ws) (xs ++ ys) := by
  induction h with
  | nil => exact h'
  | cons h1 _ ih => exact .cons h1 ih
theorem OutIn.length {P : Addr → Obj → Prop} {vs : List Value} {xs : List (Int × Int)} (h : OutIn P vs xs) : vs.length = xs.length := by
  induction h with
  | nil => rfl
  | cons _ _ ih => rw [List.length_cons, List.length_cons, ih]
namespace Row
def upto : Row → Nat → Row
  | .nil, _ => .nil
  | .cons _ _ _, 0 => .nil
  | .cons n b r, i + 1 => .cons n b (r.upto i)
theorem upto_zero : ∀ r : Row, r.upto 0 = .nil
  | .nil => rfl
  | .cons _ _ _ => rfl
theorem upto_len : ∀ r : Row, r.upto r.len = r
  | .nil => rfl
  | .cons n b r => by simp only [len, upto, upto_len r]
theorem size_upto : ∀ (r : Row) (i : Nat), (r.upto i).size ≤ r.size
  | .nil, _ => Nat.le_refl _
  | .cons _ _ _, 0 => Nat.zero_le _
  | .cons n b r, i + 1 => by simp only [upto, size]; have := size_upto r i; omega
end Row
theorem RowIn.refs {P : Addr → Obj → Prop} {vs : List Value} {r : Row} (h : RowIn P vs r) : ∀ v ∈ vs, ∃ t : Nat, v = .ref t := by
  induction h with
  | nil => intro v hv; cases hv
  | cons _ _ _ _ _ _ ih =>
    intro v hv
    rcases List.mem_cons.mp hv with rfl | hv
    · exact ⟨_, rfl⟩
    · exact ih v hv
/-- the row's item at a place -/
theorem RowIn.at {P : Addr → Obj → Prop} {vs : List Value} {r : Row} (h : RowIn P vs r) : ∀ {i : Nat} {v : Value}, vs[i]? = some v → ∃ (t lb ep : Nat) (tk : Tok) (n : Int) (vb : List Value) (b : Row), v = .ref t ∧ t ≠ 92 ∧ P t (tupOf #[.int n tk, .ref lb] 0) ∧ P lb (listOf vb.toArray ep) ∧ RowIn P vb b ∧
    b.depth + 1 ≤ r.depth ∧ b.size + 1 + (r.upto i).size ≤ r.size ∧ r.nums[i]? = some n ∧ r.upto (i + 1) = (r.upto i).snoc n b ∧ ∀ d, (r.upto (i + 1)).flat d = (r.upto i).flat d ++ (d, n) :: b.flat (d + 1) := by
  induction h with
  | nil => intro i v hv; rw [List.getElem?_nil] at hv; cases hv
  | @cons t lb ep tk n vb vs b r h1 h2 h3 h4 h5 ih1 ih2 =>
    intro i v hv
    cases i with
    | zero =>
      rw [List.getElem?_cons_zero] at hv
      cases hv
      refine ⟨t, lb, ep, tk, n, vb, b, rfl, h1, h2, h3, h4, ?_, ?_, rfl, ?_, fun d => ?_⟩
      · simp only [Row.depth]; omega
      · simp only [Row.upto, Row.size]; omega
      · simp only [Row.upto, Row.upto_zero, Row.snoc]
      · simp only [Row.upto, Row.upto_zero, Row.flat, List.append_nil, List.nil_append]
    | succ i =>
      rw [List.getElem?_cons_succ] at hv
      obtain ⟨t', lb', ep', tk', n', vb', b', e, g1, g2, g3, g4, g5, g6, g7, g8, g9⟩ := ih2 hv
      refine ⟨t', lb', ep', tk', n', vb', b', e, g1, g2, g3, g4, ?_, ?_, ?_, ?_, fun d => ?_⟩
      · simp only [Row.depth]; omega
      · simp only [Row.upto, Row.size]; omega
      · simp only [Row.nums, List.getElem?_cons_succ, g7]
      · show Row.cons n b (r.upto (i + 1)) = _
        rw [g8]; rfl
      · show (d, n) :: (b.flat (d + 1) ++ (r.upto (i + 1)).flat d) = ((d, n) :: (b.flat (d + 1) ++ (r.upto i).flat d)) ++ _
        rw [g9]; simp
section
variable {prog : Program} {w : World} {A : Around} {s : Shared} {env : Env} {elts : List Expr} {x1 : Nat} {pt : Pos} {body : List Stmt} {l : Addr} {vs : List Value} {ep : Nat} {g : Heap} {m : Str → Option Value} {news : List (Addr × Obj)} {Q : Flow → Shared → Prop} {E : Value → Shared → Prop}
theorem list_loop (hh : A.handled = none) (hl : g.get? l = some (listOf vs.toArray ep)) (F : Fr g env.locals s.heap m) (N : News g env.locals s.heap news)
    (Inv : Nat → (Str → Option Value) → List (Addr × Obj) → Prop) (hI : Inv 0 m news)
    (step : ∀ (I : Nat) oI (i : Nat) v m news h₁ tk₁, vs[i]? = some v → Inv i m news → AllNe I news → Fr g env.locals h₁ m → News g env.locals h₁ ((I, oI) :: news) →
      ∀ Post : Flow → Shared → Prop, (∀ h' tk' m' news', Fr g env.locals h' m' → News g env.locals h' ((I, oI) :: news') → AllNe I news' → Inv (i + 1) m' news' → Post .next { s with heap := h', toks := tk' }) →
      wpAny (model prog w) A (assign (.Tuple elts x1 pt) env v) (fun _ s₂ => wpAny (model prog w) A (execs body env) Post E s₂) E { s with heap := h₁, toks := tk₁ })
    (fin : ∀ m news h' tk', Inv vs.length m news → Fr g env.locals h' m → News g env.locals h' news → Q .next { s with heap := h', toks := tk' })
    (hv : ∀ v ∈ vs, ∃ t : Nat, v = .ref t)
    (hE : PassesOwn (model prog w) A env E := by passes_own) :
    wpAny (model prog w) A (pyIter (.ref l)) (fun it s₂ => codeAny (model prog w) A (.forLoop (.Tuple elts x1 pt) it body [] env) (fun r s' => match r with | .ok f => Q f s' | .error e => cameBackBy (model prog w) A env E e s') s₂) E s := by
  refine wpAny_pyIter_list (items := vs.toArray) ⟨_, F.keep _ _ hl, rfl, ep, rfl⟩ ?_
  have hnone : s.heap.get? s.heap.objs.size = none := Heap.get?_none_of_le (Nat.le_refl _)
  refine codeAny_forLoop_any
    (fun k s' => ∃ h' tk m news i, s' = { s with heap := h', toks := tk } ∧ Fr g env.locals h' m ∧ (∃ oI, oI.cls = .type "list_iterator" ∧ oI.data = .fields #[.ref l, .int i 0] ∧ News g env.locals h' ((s.heap.objs.size, oI) :: news)) ∧ AllNe s.heap.objs.size news ∧ Inv i m news ∧ i ≤ vs.length ∧ k = vs.length + 1 - i) ?_ (vs.length + 1)
    ⟨_, s.toks, m, news, 0, rfl, F.push _, ⟨_, rfl, rfl, News.push F N _ rfl⟩, allNe_of (h := s.heap) hnone N, hI, Nat.zero_le _, rfl⟩
  rintro k s' ⟨h', tk, m, news, i, rfl, F, ⟨oI, hc, hd, N⟩, hne, hJ, hi, rfl⟩
  have hit : h'.IsListIter s.heap.objs.size l i := ⟨oI, (N _ (.head _)).1, hc, hd⟩
  have hll : h'.IsList l vs.toArray := ⟨_, F.keep _ _ hl, rfl, ep, rfl⟩
  by_cases hlt : i < vs.length
  · refine wpAny_pyNext_list_item hit hll (x := vs[i]) (by simp [hlt]) fun h₁ hit₁ hs₁ => ?_
    obtain ⟨t, hvt⟩ := hv _ (List.getElem_mem hlt)
    have hgo := hit₁
    obtain ⟨o1, ho1, hc1, hd1⟩ := hit₁
    obtain ⟨F₁, N₁⟩ := iter_turn F N hne hs₁ ho1
    rw [hvt]
    refine wpAny_letOwnedTupleGo_listiter hgo ?_
    rw [← hvt]
    refine wpAny_mono (wpAny_passesOwn hE (step _ o1 i _ m news h₁ tk (List.getElem?_eq_getElem hlt) hJ hne F₁ N₁ (fun f s₃ => f = .next ∧ ∃ h' tk' m' news', s₃ = { s with heap := h', toks := tk' } ∧ Fr g env.locals h' m' ∧ News g env.locals h' ((s.heap.objs.size, o1) :: news') ∧ AllNe s.heap.objs.size news' ∧ Inv (i + 1) m' news') fun h' tk' m' news' z1 z2 z3 z4 => ⟨rfl, _, _, _, _, rfl, z1, z2, z3, z4⟩)) (fun _ s₂ h₂ => ?_) fun _ _ e => e
    refine wpAny_mono (wpAny_passesOwn hE h₂) (fun f s₃ h₃ => ?_) fun _ _ e => e
    obtain ⟨rfl, h₃', tk₃, m', news', rfl, F', N', ne', J'⟩ := h₃
    exact ⟨vs.length + 1 - (i + 1), by omega, h₃', tk₃, m', news', i + 1, rfl, F', ⟨o1, hc1, hd1, N'⟩, ne', J', hlt, rfl⟩
  · have hin : i = vs.length := by omega
    subst hin
    refine wpAny_pyNext_list_end hh hit hll (by simp) fun h₁ he₁ => wpAny_execs_nil ?_
    obtain ⟨hI', hIL, hI0⟩ := N _ (.head _)
    refine fin m news h₁ tk hJ ⟨F.ns.extBut he₁ fun z => hIL z.symm, fun b o e => he₁ b o (fun z => by rw [z, hI0] at e; cases e) (F.keep b o e), F.above⟩ fun p hp => ⟨he₁ _ _ (allNe_mem hne p hp) (N p (.tail _ hp)).1, (N p (.tail _ hp)).2⟩
end
section
variable {prog : Program} {w : World} {A : Around} {E : Value → Shared → Prop} {s : Shared} {h₀ : Heap} {L : Addr} {m : Str → Option Value} {news : List (Addr × Obj)} {a b : Addr} {vs ws : List Value} {n n' : Nat}
theorem k_add {Q : Value → Shared → Prop} (F : Fr h₀ L s.heap m) (N : News h₀ L s.heap news) (ha : (a, listOf vs.toArray n) ∈ news) (hb : (b, listOf ws.toArray n') ∈ news) (hz : vs.length + ws.length ≤ 2000)
    (h : ∀ D h', Fr h₀ L h' m → News h₀ L h' ((D, listOf (vs ++ ws).toArray 0) :: news) → (∀ p ∈ news, p.1 < D) → Q (.ref D) { s with heap := h' }) : wpAny (model prog w) A (binaryOp .Add (.ref a) (.ref b)) Q E s :=
  add_lists F N ⟨_, (N _ ha).1, rfl, n, rfl⟩ ⟨_, (N _ hb).1, rfl, n', rfl⟩ (fun h' F' N' => h _ h' F' N' fun p hp => Heap.lt_size (N p hp).1) (by rw [sizeLine_eq]; omega)
end
end

/-! ## MQ -/
def FlatSpec (w : World) (p : Program) (loose : List Str) (mean : ExcName → Option Value) (mg mb : Str → Option Value) (k : Nat) : Prop := ∀ {dp un : Nat} {gd : Option (List Code)} {cn : Str} {cs : Scope} {a : Addr} {ccd : Value} {cl : List (Str × Addr)} {outer : List Env} {A₀ : Around} {base h₀ : Heap} {L : Addr} {m : Str → Option Value} {s : Shared} {Q E : Value → Shared → Prop} {lr ep : Nat} {vs : List Value} {R : Row} {deep : Int} {td : Tok}
   (B : Below A₀ base outer h₀) (F : Fr h₀ L s.heap m) (X : (hd.heap_39 w.params).In h₀) (T : Top p loose mean mg mb h₀) (hk : cs.kind = .function) (hdep : R.depth ≤ k) (hsz : R.size ≤ 500) (hdp : dp + 20 + 5 * k < recursionLimit) (hun : un + 100 + 100 * k < cLine) (hlr : s.heap.get? lr = some (listOf vs.toArray ep)) (hR : RowIn (fun b o => s.heap.get? b = some o) vs R)
   (ret : ∀ (l : Nat) ws ep' fz h' tk', OutIn (fun b o => (b, o) ∈ fz) ws (R.flat deep) → Fr h₀ L h' m → News h₀ L h' ((l, listOf ws.toArray ep') :: fz) → Dist ((l, listOf ws.toArray ep') :: fz) → (∀ q ∈ (l, listOf ws.toArray ep') :: fz, s.heap.get? q.1 = none) → Keeps [] s.heap h' → Q (.ref l) { s with heap := h', toks := tk' }),
   wpAny (model PySem.Challenge.rw_bb0046_01.row.prog w) (ktrTop dp un gd cn cs L a ccd cl outer) (call (.ref 440) [.ref lr, .int deep td]) Q E s
section
variable {w : World} {p : Program} {loose : List Str} {mean : ExcName → Option Value} {mg mb : Str → Option Value}
theorem call_flat {k : Nat} (IH : FlatSpec w p loose mean mg mb k) {dp un : Nat} {gd : Option (List Code)} {cn : Str} {cs : Scope} {a : Addr} {ccd : Value} {cl : List (Str × Addr)} {outer : List Env} {A₀ : Around} {base h₀ : Heap} {L : Addr} {m : Str → Option Value} {s : Shared} {Q E : Value → Shared → Prop} {lr ep : Nat} {vs : List Value} {R : Row} {deep : Int} {td : Tok} {news : List (Addr × Obj)}
   (B : Below A₀ base outer h₀) (F : Fr h₀ L s.heap m) (X : (hd.heap_39 w.params).In h₀) (T : Top p loose mean mg mb h₀) (hk : cs.kind = .function) (hdep : R.depth ≤ k) (hsz : R.size ≤ 500) (hdp : dp + 20 + 5 * k < recursionLimit) (hun : un + 100 + 100 * k < cLine) (N : News h₀ L s.heap news) (hlr : s.heap.get? lr = some (listOf vs.toArray ep)) (hR : RowIn (fun b o => s.heap.get? b = some o) vs R)
   (ret : ∀ (l : Nat) ws ep' fz h' tk', OutIn (fun b o => (b, o) ∈ fz) ws (R.flat deep) → Fr h₀ L h' m → News h₀ L h' ((l, listOf ws.toArray ep') :: (news ++ fz)) → Dist ((l, listOf ws.toArray ep') :: fz) → Apart news ((l, listOf ws.toArray ep') :: fz) → Keeps [] s.heap h' → Q (.ref l) { s with heap := h', toks := tk' }) :
   wpAny (model PySem.Challenge.rw_bb0046_01.row.prog w) (ktrTop dp un gd cn cs L a ccd cl outer) (call (.ref 440) [.ref lr, .int deep td]) Q E s := by
  refine IH B F X T hk hdep hsz hdp hun hlr hR fun l ws ep' fz h' tk' a1 a2 a3 a4 a5 a6 => ret l ws ep' fz h' tk' a1 a2 (fun q hq => ?_) a4 (Apart.of N a5) a6
  rcases List.mem_cons.mp hq with rfl | hq
  · exact a3 _ (.head _)
  rcases List.mem_append.mp hq with hq | hq
  · exact ⟨a6 _ _ (N q hq).1 List.not_mem_nil, (N q hq).2⟩
  · exact a3 _ (.tail _ hq)
end
theorem flat_turn {g h : Heap} {L D l3 D1 l2 q I lf e1 e2 e3 e4 e5 i : Nat} {oI : Obj} {ws ws3 x1 x2 x3 : List Value} {fz fz3 : List (Addr × Obj)} {deep n : Int} {td tk : Tok} {R b : Row}
    (kN : News g L h ((D, listOf (ws ++ [Value.ref q] ++ ws3).toArray e1) :: (l3, listOf x1.toArray e2) :: (D1, listOf x2.toArray e3) :: (l2, listOf x3.toArray e4) :: (q, tupOf #[.int deep td, .int n tk] 0) :: (I, oI) :: (lf, listOf ws.toArray e5) :: (fz ++ fz3)))
    (kL : AllLt D ((l3, listOf x1.toArray e2) :: (D1, listOf x2.toArray e3) :: (l2, listOf x3.toArray e4) :: (q, tupOf #[.int deep td, .int n tk] 0) :: (I, oI) :: (lf, listOf ws.toArray e5) :: (fz ++ fz3))) (k0 : AllLt q ((I, oI) :: (lf, listOf ws.toArray e5) :: fz))
    (qz : AllNe q fz3) (Iz : AllNe I fz3) (e2 : AllNe I fz) (df : Dist (fz ++ fz3)) (hO : OutIn (fun b o => (b, o) ∈ fz) ws ((R.upto i).flat deep)) (kO : OutIn (fun b o => (b, o) ∈ fz3) ws3 (b.flat (deep + 1)))
    (hfl : (R.upto (i + 1)).flat deep = (R.upto i).flat deep ++ (deep, n) :: b.flat (deep + 1)) :
    ∃ (ep : Nat) (wsn : List Value) (fzn : List (Addr × Obj)), wsn = ws ++ [Value.ref q] ++ ws3 ∧ News g L h ((I, oI) :: (D, listOf wsn.toArray ep) :: fzn) ∧ AllNe I ((D, listOf wsn.toArray ep) :: fzn) ∧ Dist ((D, listOf wsn.toArray ep) :: fzn) ∧ OutIn (fun b o => (b, o) ∈ fzn) wsn ((R.upto (i + 1)).flat deep) := by
  simp only [AllLt] at kL k0
  obtain ⟨l1, l2', l3', l4, l5, l6, l7⟩ := kL
  refine ⟨e1, _, (q, tupOf #[.int deep td, .int n tk] 0) :: (fz ++ fz3), rfl, nw_sub kN fun z hz => ?_, ?_, ?_, ?_⟩
  · simp only [List.mem_cons] at hz ⊢
    rcases hz with e | e | e | e
    · simp only [e, true_or, or_true]
    · simp only [e, true_or]
    · simp only [e, true_or, or_true]
    · simp only [e, or_true]
  · exact ⟨Nat.ne_of_gt l5, Nat.ne_of_gt k0.1, allNe_app e2 Iz⟩
  · exact ⟨⟨Nat.ne_of_lt l4, allLt_ne l7⟩, allNe_app (allLt_ne k0.2.2) qz, df⟩
  · rw [hfl, List.append_assoc]
    exact (hO.mono fun _ _ _ z => .tail _ (List.mem_append_left _ z)).app (.cons (.head _) (kO.mono fun _ _ _ z => .tail _ (List.mem_append_right _ z)))
section
local macro_rules | `(tactic| walk_at "binaryOp Add ref ref") => `(tactic| (k_here; (with_reducible show wpAny _ _ (binaryOp _ (Value.ref _) (Value.ref _)) _ _ _); k_dflt ((first | with_reducible refine' k_add ?F ?N ?a ?b ?z ?_ | refine' k_add ?F ?N ?a ?b ?z ?_); (case F => k_asm); (case N => k_asm); (case a => k_mem); (case b => k_mem); (case z => ((try simp only [List.length_append, List.length_cons, List.length_nil]); omega))); k_whole; intro D' h' F' N' l1; (try k_lt l1); (try k_sweep)))
local macro_rules | `(tactic| walk_at "call ref") => `(tactic| (k_here; (with_reducible show wpAny _ _ (call (Value.ref 440) _) _ _ _); k_dflt ((first | with_reducible refine' call_flat ?IH ?B ?F ?X ?T ?kk ?de ?sz ?dp ?un ?N ?hl ?hR ?_ | refine' call_flat ?IH ?B ?F ?X ?T ?kk ?de ?sz ?dp ?un ?N ?hl ?hR ?_); (case IH => with_reducible assumption); (case B => k_asm); (case F => k_asm); (case X => k_asm); (case T => k_asm); (case kk => exact rfl); (case N => k_asm); (case hl => exact Fr.keep (by k_asm) _ _ (by with_reducible assumption)); (case hR => exact RowIn.mono (by with_reducible assumption) fun _ _ _ _ z => Fr.keep (by k_asm) _ _ z); (case de => omega); (case sz => omega); (case dp => ((try dsimp only [ktrTop]); omega)); (case un => ((try simp only [units_in1, units_deeper, Around.mark_units, units_caller]); (try dsimp only [ktrTop]); omega))); k_whole; intro l' ws' ep' fz' h' tk' hO' F' N' d' x' K'; have ol' := OutIn.length hO'; (rw [Row.flat_length] at ol'); (dsimp only [List.cons_append] at N'); (try k_sweep)))
theorem reset_MQ : True := by
  w_top off
  trivial
section
variable {w : World} {p : Program} {loose : List Str} {mean : ExcName → Option Value} {mg mb : Str → Option Value}
theorem flat_step (k : Nat) (IH : ∀ j, k = j + 1 → FlatSpec w p loose mean mg mb j) : FlatSpec w p loose mean mg mb k := by
  intro dp un gd cn cs a ccd cl outer A₀ base h₀ L m s Q E lr ep vs R deep td B F X T hk hdep hsz hdp hun hlr hR ret
  have N : News h₀ L s.heap [] := News.nil
  refine wpAny_call ?_
  refine' code_defG ?k1 ?k2 ?k3 ?k4 ?k5 ?kA ?kF ?kK ?k6 ?k7 ?k8 ?k9 ?kB ?_ ?c2 ?c3 ?c4 ?c5
  case kA => exact rfl
  case kF => exact rfl
  case kK => assumption
  case k1 => k_asm
  case k2 => k_asm
  case k3 => k_asm
  case k4 => exact N
  case k5 => k_asm
  case k6 => k_is
  case k7 => k_is
  case k8 => k_room
  case k9 => first | exact BindsTo.of_eq rfl | exact binds_K (by k_in) rfl (by k_is) rfl rfl rfl
  case c5 => decide
  case kB => exact locs rfl
  case c2 => exact rfl
  case c3 => exact rfl
  case c4 => exact rfl
  intro g' L' h' FG' F' N' B' X' T' G'
  try dsimp only
  try k_fold
  have up : ∀ b o, s.heap.get? b = some o → g'.get? b = some o := fun b o e => G' b o e List.not_mem_nil
  have hlg := up _ _ hlr
  have hRg : RowIn (fun b o => g'.get? b = some o) vs R := hR.mono fun b o _ _ e => up b o e
  obtain ⟨Mid, hMid⟩ : ∃ Mid : Shared → Prop, Mid = fun s' => ∃ m' h2 tk2 lf, s' = { s with heap := h2, toks := tk2 } ∧ Fr g' L' h2 m' ∧ News g' L' h2 [(lf, listOf #[] 0)] ∧ m' "row" = some (.ref lr) ∧ m' "deep" = some (.int deep td) ∧ m' "found" = some (.ref lf) := ⟨_, rfl⟩
  refine execs_split Mid 1 _ ?_ ?_
  · simp only [List.take_succ_cons, List.take_zero]
    k_steps
    (rename Fr g' L' _ _ => kF)
    (rename News g' L' _ _ => kN)
    show Mid _
    rw [hMid]
    exact ⟨_, _, _, _, rfl, kF, kN, rfl, rfl, rfl⟩
  · simp only [List.drop_succ_cons, List.drop_zero]
    clear F' N'
    intro s' hs'
    rw [hMid] at hs'
    obtain ⟨m1, h1, tk1, lf, rfl, F1, N1, mr, md, mf⟩ := hs'
    refine wpAny_execs_cons (wpAny_For ?_)
    refine wp_cut (fun v s' => v = .ref lr ∧ s' = { s with heap := h1, toks := tk1 }) ?_ ?_
    · k_steps
    · rintro v s' ⟨rfl, rfl⟩
      obtain ⟨Inv, hInv⟩ : ∃ Inv : Nat → (Str → Option Value) → List (Addr × Obj) → Prop, Inv = fun i m news => ∃ (lf epw : Nat) (ws : List Value) (fz : List (Addr × Obj)), m "deep" = some (.int deep td) ∧ m "found" = some (.ref lf) ∧ news = (lf, listOf ws.toArray epw) :: fz ∧ Dist news ∧ OutIn (fun b o => (b, o) ∈ fz) ws ((R.upto i).flat deep) := ⟨_, rfl⟩
      refine list_loop rfl hlg F1 N1 Inv ?_ ?_ ?_ hRg.refs
      · rw [hInv]
        refine ⟨lf, 0, [], [], md, mf, rfl, ?_, ?_⟩
        · simp only [Dist, AllNe, and_true]
        · rw [Row.upto_zero]; exact .nil
      · intro I oI i v m2 news2 h2 tk2 hv hJ hne F2 N2 Post hpost
        replace F2 : Fr g' L' h2 _ := F2
        replace N2 : News g' L' h2 _ := N2
        rw [hInv] at hJ
        obtain ⟨lf2, epw, ws, fz, q1, q2, rfl, hd2, hO⟩ := hJ
        simp only [Dist, AllNe, and_true] at hd2
        obtain ⟨a1, a2⟩ := hd2
        simp only [AllNe, and_true] at hne
        obtain ⟨e1, e2⟩ := hne
        obtain ⟨t, lb, epb, tk, n, vb, b, rfl, n92, ht, hlb, hRb, hbd, hbs, _, _, hfl⟩ := hRg.at hv
        have hol := hO.length
        rw [Row.flat_length] at hol
        have hT : IsTup h2 t #[.int n tk, .ref lb] := ⟨_, F2.keep _ _ ht, rfl, 0, rfl⟩
        obtain ⟨j, rfl⟩ : ∃ j, k = j + 1 := ⟨k - 1, by omega⟩
        have IH' : FlatSpec w p loose mean mg mb j := IH j rfl
        k_steps
        (rename Apart _ _ => kA)
        (rename Dist (_ :: _) => kDi)
        (rename OutIn _ _ _ => kO)
        (rename Fr g' L' _ _ => kF)
        (rename News g' L' _ _ => kN)
        (rename _ ∧ _ => kL)
        (rename _ ∧ _ ∧ AllLt _ fz => k0)
        obtain ⟨ep2, wsn, fzn, hws, r1, r2, r3, r4⟩ := flat_turn kN kL k0 (kA.tl (by k_mem)) (kA.tl (by k_mem)) e2 (dist_app a2 kDi.2 fun p hp => (kA p (by simp [hp])).2) hO kO (hfl deep)
        refine hpost _ _ _ _ kF r1 r2 ?_
        rw [hInv]
        exact ⟨_, _, _, _, q1, rfl, rfl, r3, r4⟩
      · intro m2 news2 h2 tk2 hJ F2 N2
        replace F2 : Fr g' L' h2 m2 := F2
        replace N2 : News g' L' h2 news2 := N2
        rw [hInv] at hJ
        obtain ⟨lf2, epw, ws, fz, q1, q2, rfl, hd2, hO⟩ := hJ
        rw [hRg.length, Row.upto_len] at hO
        dsimp only
        try k_fold
        clear F1 N1
        k_steps
        (rename Fr h₀ L _ m => kF)
        (rename News h₀ L _ _ => kN)
        exact ret lf2 ws epw fz _ _ hO kF kN hd2 (fun q hq => fresh_of G' N2 hq List.not_mem_nil) (Keeps.of_sub G' F2)
theorem flat_spec : ∀ k : Nat, FlatSpec w p loose mean mg mb k
  | 0 => flat_step 0 (fun j e => by cases e)
  | k + 1 => flat_step (k + 1) (fun j e => by cases e; exact flat_spec k)
end
end

/-! ## MT -/
section
variable {prog : Program} {w : World} {A : Around} {E : Value → Shared → Prop} {s : Shared} {h₀ : Heap} {L l : Addr} {m : Str → Option Value} {news : List (Addr × Obj)} {value slice : PySem.Expr} {vs : List Value} {n : Nat} {vk : Value} {ops : List Value} {Q : Value → Shared → Prop}
theorem k_rev (F : Fr h₀ L s.heap m) (N : News h₀ L s.heap news) (hl : s.heap.get? l = some (listOf vs.toArray n)) (pk : IsPart vk (some (-1))) (hz : vs.length ≤ 1000)
    (h : ∀ D h', Fr h₀ L h' m → News h₀ L h' ((D, listOf vs.reverse.toArray 0) :: news) → (∀ p ∈ news, p.1 < D) → Q (.ref D) { s with heap := h' })
    (hs : subscripted slice false (.ref l) (.ref s.heap.objs.size) = operate ops (getItem (.ref l) (.ref s.heap.objs.size))) (ht : ∀ r, letTemporaryGo value (.ref l) r = pure ()) :
    wpAny (model prog w) A (subscriptTail value slice (.ref l) (.ref s.heap.objs.size)) Q E { s with heap := s.heap.push { cls := .type "slice", data := .fields #[.none, .none, vk] } } :=
  krv_lit F N ⟨_, hl, rfl, n, rfl⟩ pk rfl h hs ht (by rw [List.size_toArray, sizeLine_eq]; omega)
theorem k_reversed (F : Fr h₀ L s.heap m) (N : News h₀ L s.heap news) (hl : (l, listOf vs.toArray n) ∈ news)
    (h : ∀ D h', Fr h₀ L h' m → News h₀ L h' ((D, revObj l ((vs.length : Int) - 1)) :: news) → (∀ p ∈ news, p.1 < D) → Q (.ref D) { s with heap := h' }) : wpAny (model prog w) A (call (.type "reversed") [.ref l]) Q E s :=
  krv_reversed F N ⟨_, (N _ hl).1, rfl, n, rfl⟩ h
theorem k_tuple (F : Fr h₀ L s.heap m) (N : News h₀ L s.heap news) (hl : s.heap.get? l = some (listOf vs.toArray n)) (hz : vs.length ≤ 1000)
    (h : ∀ D h', Fr h₀ L h' m → News h₀ L h' ((D, tupOf vs.toArray 0) :: news) → (∀ p ∈ news, p.1 < D) → Q (.ref D) { s with heap := h' }) : wpAny (model prog w) A (call (.type "tuple") [.ref l]) Q E s :=
  kde_tupleOf F N ⟨_, hl, rfl, n, rfl⟩ (by rw [List.size_toArray]; omega) rfl h
end
/-- the row as it is handed over: the value, the new objects -/
inductive Handed (lr : Nat) (vs : List Value) : Nat → List (Addr × Obj) → Prop
  | same : Handed lr vs lr []
  | tup {t : Nat} : Handed lr vs t [(t, tupOf vs.toArray 0)]
  | rev {it l : Nat} : l < it → Handed lr vs it [(it, revObj l ((vs.length : Int) - 1)), (l, listOf vs.reverse.toArray 0)]
section
local macro_rules | `(tactic| walk_at "subscriptTail Name Slice ref ref") => `(tactic| (k_here; (with_reducible show wpAny _ _ (subscriptTail _ (PySem.Expr.Slice none none (some _) _) (Value.ref _) (Value.ref _)) _ _ _); k_dflt ((first | with_reducible refine' k_rev ?F ?N ?l ?k ?z ?_ ?s ?t | refine' k_rev ?F ?N ?l ?k ?z ?_ ?s ?t); (case F => k_asm); (case N => k_asm); (case l => exact Fr.keep (by k_asm) _ _ (by with_reducible assumption)); (case k => exact IsPart.int _ _); (case z => omega); (case s => with_unfolding_all rfl); (case t => kmk_pure)); intro D' h' F' N' l1; (try k_lt l1); (try k_sweep)))
local macro_rules | `(tactic| walk_at "call type:reversed") => `(tactic| (k_here; (with_reducible show wpAny _ _ (call (Value.type _) [Value.ref _]) _ _ _); k_dflt ((first | with_reducible refine' k_reversed ?F ?N ?l ?_ | refine' k_reversed ?F ?N ?l ?_); (case F => k_asm); (case N => k_asm); (case l => k_mem)); intro D' h' F' N' l1; (try k_lt l1); (try k_sweep)))
local macro_rules | `(tactic| walk_at "call type:tuple") => `(tactic| (k_here; (with_reducible show wpAny _ _ (call (Value.type _) [Value.ref _]) _ _ _); k_dflt ((first | with_reducible refine' k_tuple ?F ?N ?l ?z ?_ | refine' k_tuple ?F ?N ?l ?z ?_); (case F => k_asm); (case N => k_asm); (case l => exact Fr.keep (by k_asm) _ _ (by with_reducible assumption)); (case z => omega)); k_whole; intro D' h' F' N' l1; (try k_lt l1); (try k_sweep)))
theorem reset_MT : True := by
  w_top off
  trivial
section
variable {w : World} {p : Program} {loose : List Str} {mean : ExcName → Option Value} {mg mb : Str → Option Value}
theorem handed_spec {dp un : Nat} {gd : Option (List Code)} {cn : Str} {cs : Scope} {a : Addr} {ccd : Value} {cl : List (Str × Addr)} {outer : List Env} {A₀ : Around} {base h₀ : Heap} {L : Addr} {m : Str → Option Value} {s : Shared} {Q E : Value → Shared → Prop} {d n lr ep : Nat} {vs : List Value} {o1 o2 : Obj}
   (B : Below A₀ base outer h₀) (F : Fr h₀ L s.heap m) (X : (hd.heap_39 w.params).In h₀) (T : Top p loose mean mg mb h₀) (hk : cs.kind = .function) (hdp : dp + 60 < recursionLimit) (hun : un + 150 < cLine) (N : News h₀ L s.heap [(d, o1), (n, o2)]) (hD : DrawsObj n o1 o2) (hdn : d ≠ n) (hlr : s.heap.get? lr = some (listOf vs.toArray ep)) (h1 : lr ≠ d) (h2 : lr ≠ n) (hz : vs.length ≤ 1000)
   (ret : ∀ (v : Nat) nw o1' o2' h' tk', Handed lr vs v nw → DrawsObj n o1' o2' → Fr h₀ L h' m → News h₀ L h' ((d, o1') :: (n, o2') :: nw) → (∀ q ∈ nw, s.heap.get? q.1 = none) → Keeps [d, n] s.heap h' → Q (.ref v) { s with heap := h', toks := tk' }) :
   wpAny (model PySem.Challenge.rw_bb0046_01.row.prog w) (ktrTop dp un gd cn cs L a ccd cl outer) (call (.ref 412) [.ref d, .ref lr]) Q E s := by
  refine wpAny_call ?_
  refine' code_defG ?k1 ?k2 ?k3 ?k4 ?k5 ?kA ?kF ?kK ?k6 ?k7 ?k8 ?k9 ?kB ?_ ?c2 ?c3 ?c4 ?c5
  case kA => exact rfl
  case kF => exact rfl
  case kK => assumption
  case k1 => k_asm
  case k2 => k_asm
  case k3 => k_asm
  case k4 => exact N
  case k5 => k_asm
  case k6 => k_is
  case k7 => k_is
  case k8 => k_room
  case k9 => first | exact BindsTo.of_eq rfl | exact binds_K (by k_in) rfl (by k_is) rfl rfl rfl
  case c5 => decide
  case kB => exact locs rfl
  case c2 => exact rfl
  case c3 => exact rfl
  case c4 => exact rfl
  intro g' L' h' FG' F' N' B' X' T' G'
  try dsimp only
  try k_fold
  have hlg : g'.get? lr = some (listOf vs.toArray ep) := G' _ _ hlr (by simp only [List.map_cons, List.map_nil, List.mem_cons, List.not_mem_nil, or_false, not_or]; exact ⟨h1, h2⟩)
  k_steps
  · (rename News g' L' _ _ => kG)
    (rename Fr g' L' _ _ => kF')
    (rename News h₀ L _ _ => kN)
    (rename Fr h₀ L _ m => kF)
    (rename DrawsObj _ _ _ => kD)
    (rename _ ∧ _ ∧ _ => kL)
    rw [List.length_reverse] at kG kN
    refine ret _ _ _ _ _ _ (Handed.rev kL.1) kD kF (nw_cons kN (by k_mem) (nw_cons kN (by k_mem) (nw_cons kN (by k_mem) (nw_one kN (by k_mem))))) (fun q hq => ?_) (Keeps.of_sub G' kF')
    have l1 := kL.1; have l2 := kL.2.1; have l3 := kL.2.2
    (rename _ ∧ _ => kL0)
    simp only [List.mem_cons, List.not_mem_nil, or_false] at hq
    rcases hq with rfl | rfl
    · exact fresh_of G' kG (.head _) (by simp only [List.map_cons, List.map_nil, List.mem_cons, List.not_mem_nil, or_false, not_or]; exact ⟨Nat.ne_of_gt l2, Nat.ne_of_gt l3⟩)
    · refine fresh_of G' kG (.tail _ (.head _)) ?_
      simp only [List.map_cons, List.map_nil, List.mem_cons, List.not_mem_nil, or_false, not_or]
      constructor <;> (refine neN ?_; omega)
  · (rename Fr g' L' _ _ => kF')
    (rename News h₀ L _ _ => kN)
    (rename Fr h₀ L _ m => kF)
    (rename DrawsObj _ _ _ => kD)
    exact ret _ _ _ _ _ _ Handed.same kD kF (nw_two kN (by k_mem) (by k_mem)) (fun q hq => by cases hq) (Keeps.of_sub G' kF')
  · (rename News g' L' _ _ => kG)
    (rename Fr g' L' _ _ => kF')
    (rename News h₀ L _ _ => kN)
    (rename Fr h₀ L _ m => kF)
    (rename DrawsObj _ _ _ => kD)
    (rename _ ∧ _ => kL)
    refine ret _ _ _ _ _ _ Handed.tup kD kF (nw_cons kN (by k_mem) (nw_cons kN (by k_mem) (nw_one kN (by k_mem)))) (fun q hq => ?_) (Keeps.of_sub G' kF')
    simp only [List.mem_cons, List.not_mem_nil, or_false] at hq
    subst hq
    exact fresh_of G' kG (.head _) (by simp only [List.map_cons, List.map_nil, List.mem_cons, List.not_mem_nil, or_false, not_or]; exact ⟨Nat.ne_of_gt kL.1, Nat.ne_of_gt kL.2⟩)
theorem call_handed {dp un : Nat} {gd : Option (List Code)} {cn : Str} {cs : Scope} {a : Addr} {ccd : Value} {cl : List (Str × Addr)} {outer : List Env} {A₀ : Around} {base h₀ : Heap} {L : Addr} {m : Str → Option Value} {s : Shared} {Q E : Value → Shared → Prop} {d n lr ep : Nat} {vs : List Value} {o1 o2 : Obj} {news r1 r2 : List (Addr × Obj)}
   (B : Below A₀ base outer h₀) (F : Fr h₀ L s.heap m) (X : (hd.heap_39 w.params).In h₀) (T : Top p loose mean mg mb h₀) (hk : cs.kind = .function) (hdp : dp + 60 < recursionLimit) (hun : un + 150 < cLine) (N : News h₀ L s.heap news) (D1 : Del d o1 news r1) (D2 : Del n o2 r1 r2) (hD : DrawsObj n o1 o2) (hdn : d ≠ n) (hlr : s.heap.get? lr = some (listOf vs.toArray ep)) (h1 : lr ≠ d) (h2 : lr ≠ n) (hz : vs.length ≤ 1000)
   (ret : ∀ (v : Nat) nw o1' o2' h' tk', Handed lr vs v nw → DrawsObj n o1' o2' → Fr h₀ L h' m → News h₀ L h' ((d, o1') :: (n, o2') :: (r2 ++ nw)) → Apart news nw → Keeps [d, n] s.heap h' → Q (.ref v) { s with heap := h', toks := tk' }) :
   wpAny (model PySem.Challenge.rw_bb0046_01.row.prog w) (ktrTop dp un gd cn cs L a ccd cl outer) (call (.ref 412) [.ref d, .ref lr]) Q E s := by
  obtain ⟨m1, q1⟩ := D1.mem
  obtain ⟨m2, q2⟩ := D2.mem
  refine handed_spec B F X T hk hdp hun (nw_two N m1 (q1 _ m2).1) hD hdn hlr h1 h2 hz fun v nw o1' o2' h' tk' a1 a2 a3 a4 a5 a6 => ret v nw o1' o2' h' tk' a1 a2 a3 (fun q hq => ?_) (Apart.of N a5) a6
  have hr : ∀ q ∈ r2, h'.get? q.1 = some q.2 ∧ q.1 ≠ L ∧ h₀.get? q.1 = none := fun q hq => by
    obtain ⟨z1, z2⟩ := q2 _ hq
    obtain ⟨z3, z4⟩ := q1 _ z1
    exact ⟨a6 _ _ (N _ z3).1 (by simp only [List.mem_cons, List.not_mem_nil, or_false, not_or]; exact ⟨z4, z2⟩), (N _ z3).2⟩
  rcases List.mem_cons.mp hq with rfl | hq
  · exact a4 _ (.head _)
  rcases List.mem_cons.mp hq with rfl | hq
  · exact a4 _ (.tail _ (.head _))
  rcases List.mem_append.mp hq with hq | hq
  · exact hr q hq
  · exact a4 _ (.tail _ (.tail _ hq))
end
end

/-! ## MU -/
/-- a handed row's iterator: `q` the value, `I` the iterator, `l` the list or tuple gone through, `nw` the new objects beside the iterator -/
inductive Iterd (lr : Nat) (lor : Obj) (vs : List Value) (q I : Nat) (io : Obj) : Nat → Obj → List (Addr × Obj) → Prop
  | same : q = lr → ItOf lr lor io vs → Iterd lr lor vs q I io lr lor []
  | tup : ItOf q (tupOf vs.toArray 0) io vs → Iterd lr lor vs q I io q (tupOf vs.toArray 0) [(q, tupOf vs.toArray 0)]
  | rev {l : Nat} : q = I → io.cls = .type "list_reverseiterator" → ItOf l (listOf vs.reverse.toArray 0) io vs → Iterd lr lor vs q I io l (listOf vs.reverse.toArray 0) [(l, listOf vs.reverse.toArray 0)]
theorem allLt_mem {d : Addr} {a : List (Addr × Obj)} : AllLt d a → ∀ p ∈ a, p.1 < d := by
  induction a with
  | nil => intro _ p hp; cases hp
  | cons q r ih =>
    intro h p hp
    rcases List.mem_cons.mp hp with e | hp
    · rw [e]; exact h.1
    · exact ih h.2 p hp
theorem itOf_rev (l : Nat) (vs : List Value) : ItOf l (listOf vs.reverse.toArray 0) (revObj l ((vs.length : Int) - 1)) vs := by
  have := ItOf.rev (l := l) (lo := listOf vs.reverse.toArray 0) (its := vs.reverse) (ep := 0) (i := vs.length) rfl (by rw [List.length_reverse]; exact Nat.le_refl _)
  rwa [← List.length_reverse (as := vs), List.take_length, List.reverse_reverse, List.length_reverse] at this
section
variable {prog : Program} {w : World} {A : Around} {E : Value → Shared → Prop} {s : Shared} {h₀ : Heap} {L q lr ep : Nat} {m : Str → Option Value} {pre nw : List (Addr × Obj)} {vs : List Value} {Q : Value → Shared → Prop}
theorem k_iter (hH : Handed lr vs q nw) (F : Fr h₀ L s.heap m) (N : News h₀ L s.heap (pre ++ nw)) (hd : Dist (pre ++ nw)) (hlr : s.heap.get? lr = some (listOf vs.toArray ep))
    (h : ∀ (I l : Nat) io lo nw' h', Iterd lr (listOf vs.toArray ep) vs q I io l lo nw' → Fr h₀ L h' m → News h₀ L h' ((I, io) :: (pre ++ nw')) → Dist ((I, io) :: (pre ++ nw')) → Apart pre ((I, io) :: nw') → (AllNe I nw ∨ (I, io) ∈ nw) → (∀ z ∈ nw', z ∈ nw) → Q (.ref I) { s with heap := h' }) :
    wpAny (model prog w) A (call (.builtin "iter") [.ref q]) Q E s := by
  have ap : ∀ {I : Nat} {io : Obj} {nn : List (Addr × Obj)}, Dist ((I, io) :: (pre ++ nn)) → Apart pre ((I, io) :: nn) := fun {I io nn} hh p hp => by
    rw [dist_iff] at hh
    simp only [List.map_cons, List.map_append, List.nodup_cons, List.mem_append, not_or, List.nodup_append] at hh
    refine allNe_mk fun z hz e => ?_
    rcases List.mem_cons.mp hz with rfl | hz
    · exact hh.1.1 (List.mem_map.mpr ⟨p, hp, e.symm⟩)
    · exact hh.2.2.2 p.1 (List.mem_map_of_mem hp) z.1 (List.mem_map_of_mem hz) e.symm
  have sub : ∀ {z : Addr × Obj}, z ∈ nw → z ∈ pre ++ nw := fun z => List.mem_append_right _ z
  cases hH with
  | same =>
    refine k_iter_list F N hlr rfl fun I h' io hi F' N' l1 => ?_
    have hdd : Dist ((I, io) :: (pre ++ [])) := ⟨allNe_mk fun p hp => Nat.ne_of_lt (l1 p hp), hd⟩
    exact h I _ io _ [] h' (.same rfl hi) F' N' hdd (ap hdd) (.inl trivial) (fun z hz => by cases hz)
  | tup =>
    refine k_iter_tup F N (N _ (sub (.head _))).1 rfl fun I h' io hi F' N' l1 => ?_
    have hdd : Dist ((I, io) :: (pre ++ [(q, tupOf vs.toArray 0)])) := ⟨allNe_mk fun p hp => Nat.ne_of_lt (l1 p hp), hd⟩
    exact h I _ io _ _ h' (.tup hi) F' N' hdd (ap hdd) (.inl ⟨Nat.ne_of_lt (l1 _ (sub (.head _))), trivial⟩) (fun z hz => hz)
  | @rev _ l hlt =>
    refine k_iter_rev (N _ (sub (.head _))).1 ?_
    have hdd : Dist ((q, revObj l ((vs.length : Int) - 1)) :: (pre ++ [(l, listOf vs.reverse.toArray 0)])) := by
      rw [dist_iff] at hd ⊢
      refine (List.Perm.nodup_iff ?_).mp hd
      simp only [List.map_append, List.map_cons, List.map_nil]
      exact List.perm_middle
    exact h q l _ _ [(l, listOf vs.reverse.toArray 0)] s.heap (.rev rfl rfl (itOf_rev l vs)) F (nw_sub N fun z hz => by
      simp only [List.mem_cons, List.mem_append, List.not_mem_nil, or_false] at hz ⊢
      rcases hz with e | e | e
      · exact .inr (.inl e)
      · exact .inl e
      · exact .inr (.inr e)) hdd (ap hdd) (.inr (.head _)) (fun z hz => .tail _ hz)
end
theorem at_cons {h : Int} {k y : Str} {t : Tok} {v : Value} {r : List DictEntry} : at? (⟨h, .str k t, v⟩ :: r) y = if k = y then some v else at? r y := by
  unfold at?
  by_cases e : k = y
  · rw [if_pos e, List.find?_cons_of_pos (by rw [isStr_str, e]; exact beq_self_eq_true y)]; rfl
  · have : (k == y) = false := by simpa using e
    rw [if_neg e, List.find?_cons_of_neg (by rw [isStr_str, this]; exact Bool.false_ne_true)]
theorem at_nil {y : Str} : at? [] y = none := rfl
theorem loopD_new {h1 h2 h3 h4 h5 : Int} {k1 k2 k3 k4 k5 td : Tok} {v vi ag : Value} {depth : Int} :
    LoopD [⟨h1, .str "_iterable" k1, v⟩, ⟨h2, .str "_iterator" k2, vi⟩, ⟨h3, .str "_undefined" k3, .ref 364⟩, ⟨h4, .str "_recurse" k4, ag⟩, ⟨h5, .str "depth0" k5, .int depth td⟩]
      { iterable := v, itor := vi, again := ag, depth := depth, idx := -1, len := none, aft := .ref 92, cur := .ref 92, bef := .ref 92, lcv := .ref 92 } := by
  have e : ∀ y, at? ([⟨h1, .str "_iterable" k1, v⟩, ⟨h2, .str "_iterator" k2, vi⟩, ⟨h3, .str "_undefined" k3, .ref 364⟩, ⟨h4, .str "_recurse" k4, ag⟩, ⟨h5, .str "depth0" k5, .int depth td⟩] : List DictEntry) y =
      if ("_iterable" : Str) = y then some v else if ("_iterator" : Str) = y then some vi else if ("_undefined" : Str) = y then some (.ref 364) else if ("_recurse" : Str) = y then some ag else if ("depth0" : Str) = y then some (.int depth td) else none := fun y => by
    rw [at_cons, at_cons, at_cons, at_cons, at_cons]; rfl
  skip
  have hk : KeysStr ([⟨h1, .str "_iterable" k1, v⟩, ⟨h2, .str "_iterator" k2, vi⟩, ⟨h3, .str "_undefined" k3, .ref 364⟩, ⟨h4, .str "_recurse" k4, ag⟩, ⟨h5, .str "depth0" k5, .int depth td⟩] : List DictEntry) := by rfl
  (refine ⟨hk, ?_, ?_, ?_, ?_, ?_, ⟨td, ?_⟩, .inl ⟨?_, rfl⟩, .inl ⟨?_, rfl⟩, ?_, ?_, ?_, ?_, fun y hy => ?_⟩)
  rotate_right
  · have ne : ∀ z : Str, z ∈ names11 → z ≠ y := fun z hz q => hy (q ▸ hz)
    (rw [e, if_neg (ne _ (by decide +kernel)), if_neg (ne _ (by decide +kernel)), if_neg (ne _ (by decide +kernel)), if_neg (ne _ (by decide +kernel)), if_neg (ne _ (by decide +kernel))])
  · (simp only [List.length_cons, List.length_nil]; omega)
  all_goals ((rw [e]; simp (decide := true) only [if_true, if_false, Option.getD_none]))
section
variable {prog : Program} {w : World} {A : Around} {E : Value → Shared → Prop} {s : Shared} {x L : Addr} {h₀ : Heap} {m : Str → Option Value} {ox : Obj} {es : List DictEntry} {n : Nat}
theorem meth_to_itor0 {pl : Sem Bool} {Q : Value × List Value → Shared → Prop} (F : Fr h₀ L s.heap m) (X₀ : (hd.heap_39 w.params).In h₀) (I : InstAt s.heap x ox 255 (some (dictOf es n))) (hg : getL "_to_iterator" es = some none)
    (h : Q (.ref 121, []) { s with toks := s.toks + 1 }) : wpAny (model prog w) A (getMethod (.ref x) "_to_iterator" pl) Q E s :=
  kmu_sm (p := 123) F X₀ I (by k_is) (by k_is) (by k_is) (by k_is) (by k_is) (by k_is) (by decide +kernel) hg (by k_is) rfl h
end
theorem new_st {lr ep q I l n : Nat} {vs : List Value} {io lo : Obj} {nw : List (Addr × Obj)} {es : List DictEntry} {ag : Value} {dep : Int} (hI : Iterd lr (listOf vs.toArray ep) vs q I io l lo nw)
    (hD : LoopD es { iterable := .ref q, itor := .ref I, again := ag, depth := dep, idx := -1, len := none, aft := .ref 92, cur := .ref 92, bef := .ref 92, lcv := .ref 92 }) :
    LoopSt I l (dictOf es n) io lo { iterable := .ref q, itor := .ref I, again := ag, depth := dep, idx := -1, len := none, aft := .ref 92, cur := .ref 92, bef := .ref 92, lcv := .ref 92 } vs vs.length := by
  refine ⟨⟨es, n, rfl, hD⟩, rfl, ?_, ?_, by dsimp only; omega⟩
  · cases hI with
    | same _ hi => exact ⟨_, hi, .inl ⟨rfl, rfl⟩⟩
    | tup hi => exact ⟨_, hi, .inl ⟨rfl, rfl⟩⟩
    | rev _ _ hi => exact ⟨_, hi, .inl ⟨rfl, rfl⟩⟩
  · cases hI with
    | same e _ => exact .inr ⟨rfl, .inl ⟨vs, ep, by rw [e], .inl rfl, rfl⟩⟩
    | tup _ => exact .inr ⟨rfl, .inl ⟨vs, 0, rfl, .inr rfl, rfl⟩⟩
    | rev e hc _ => exact .inr ⟨rfl, .inr ⟨by rw [e], hc⟩⟩
section
local macro_rules | `(tactic| walk_at "getMethod ref") => `(tactic| (k_here; (with_reducible show wpAny _ _ (getMethod (Value.ref _) (PySem.Str.ofString "_to_iterator") _) _ _ _); k_dflt ((first | with_reducible refine' meth_to_itor0 ?F ?X ?I ?g ?_ | refine' meth_to_itor0 ?F ?X ?I ?g ?_); (case F => k_asm); (case X => k_asm); (case I => k_inst); (case g => k_get); k_whole)))
local macro_rules | `(tactic| walk_at "call builtin:iter") => `(tactic| (k_here; (with_reducible show wpAny _ _ (call (Value.builtin "iter") [Value.ref _]) _ _ _); k_dflt ((first | with_reducible refine' k_iter (pre := (_, _) :: (_, _) :: _) ?H ?F ?N ?d ?l ?_ | refine' k_iter (pre := (_, _) :: (_, _) :: _) ?H ?F ?N ?d ?l ?_); (case H => with_reducible assumption); (case F => k_asm); (case N => k_asm); (case d => (rename ∀ _ _, Dist _ => hdz; exact hdz _ _)); (case l => first | exact Fr.keep (by k_asm) _ _ (by with_reducible assumption) | exact Fr.keep (by k_asm) _ _ (Fr.keep (by k_asm) _ _ (by with_reducible assumption)))); intro I' l' io' lo' nw' h' hi' F' N' d' a' f' s'; (dsimp only [List.cons_append, List.nil_append] at N' d'); (try k_sweep)))
local macro_rules | `(tactic| k_all) => `(tactic| first | exact List.forall_mem_nil _ | ((first | with_reducible refine' List.forall_mem_cons.mpr ⟨?a, ?b⟩ | refine' List.forall_mem_cons.mpr ⟨?a, ?b⟩); (case a => k_ne); (case b => k_all)) | ((first | with_reducible refine' allNe_mem ?a | refine' allNe_mem ?a); (case a => first | with_reducible assumption | exact allNe_app (by with_reducible assumption) (Apart.tl (by assumption) (by k_mem)) | exact Apart.tl (by assumption) (by k_mem))))
theorem reset_MU : True := by
  w_top off
  trivial
section
variable {w : World} {p : Program} {loose : List Str} {mean : ExcName → Option Value} {mg mb : Str → Option Value}
theorem new_loop0 {dp un : Nat} {gd : Option (List Code)} {cn : Str} {cs : Scope} {a : Addr} {ccd : Value} {cl : List (Str × Addr)} {outer : List Env} {A₀ : Around} {base h₀ : Heap} {L : Addr} {m : Str → Option Value} {s : Shared} {Q E : Value → Shared → Prop} {lr ep q : Nat} {vs : List Value} {bs nw : List (Addr × Obj)} {ag : Nat}
   (B : Below A₀ base outer h₀) (F : Fr h₀ L s.heap m) (X : (hd.heap_39 w.params).In h₀) (T : Top p loose mean mg mb h₀) (hk : cs.kind = .function) (hdp : dp + 60 < recursionLimit) (hun : un + 150 < cLine) (hH : Handed lr vs q nw) (hlr : h₀.get? lr = some (listOf vs.toArray ep)) (N : News h₀ L s.heap (bs ++ nw)) (hd : Dist (bs ++ nw))
   (ret : ∀ (x dx I l : Nat) io lo nw' S od h' tk', Iterd lr (listOf vs.toArray ep) vs q I io l lo nw' → LoopSt I l od io lo S vs vs.length → S.again = .ref ag → S.depth = 0 → S.idx = -1 → S.lcv = .ref 92 → S.cur = .ref 92 → S.bef = .ref 92 → Fr h₀ L h' m →
     News h₀ L h' ((x, instObj 255 dx) :: (dx, od) :: (I, io) :: (bs ++ nw')) → Dist ((x, instObj 255 dx) :: (dx, od) :: (I, io) :: (bs ++ nw')) → Q (.ref x) { s with heap := h', toks := tk' }) :
   wpAny (model PySem.Challenge.rw_bb0046_01.row.prog w) (ktrTop dp un gd cn cs L a ccd cl outer) (call (.ref 255) [.ref q, .ref 364, .ref ag]) Q E s := by
  have hln : (lr : Addr) ∉ (bs ++ nw).map (·.1) := fun hm => by
    obtain ⟨z, hz, e⟩ := List.mem_map.mp hm
    have := (N z hz).2.2
    rw [e, hlr] at this; cases this
  refine' call_cls ?z1 ?z2 ?z3 ?z4 ?z5 ?z6 ?_
  case z1 => k_asm
  case z2 => k_asm
  case z3 => exact N
  case z4 => k_is
  case z5 => k_is
  case z6 => k_is
  intro x' dx' hc' Fc' Nc' l1 l2
  replace l1 := allLt_of l1
  k_lt2 l2
  refine' code_defG ?k1 ?k2 ?k3 ?k4 ?k5 ?kA ?kF ?kK ?k6 ?k7 ?k8 ?k9 ?kB ?_ ?c2 ?c3 ?c4 ?c5
  case kA => exact rfl
  case kF => exact rfl
  case kK => assumption
  case k1 => k_asm
  case k2 => k_asm
  case k3 => k_asm
  case k4 => exact Nc'
  case k5 => k_asm
  case k6 => k_is
  case k7 => k_is
  case k8 => k_room
  case k9 => first | exact BindsTo.of_eq rfl | exact binds_K (by k_in) rfl (by k_is) rfl rfl rfl
  case c5 => decide
  case kB => exact locs rfl
  case c2 => exact rfl
  case c3 => exact rfl
  case c4 => exact rfl
  intro g' L' h' FG' F' N' B' X' T' G'
  try dsimp only
  try k_fold
  have hx1 := allLt_ne l1
  have hx2 : AllNe x' (bs ++ nw) := allNe_mk fun p hp => Nat.ne_of_lt (Nat.lt_trans (allLt_mem l1 p hp) l2)
  have hx1b : AllNe dx' bs := allNe_sub hx1 fun z hz => List.mem_append_left _ hz
  have hlg : g'.get? lr = some (listOf vs.toArray ep) := G' _ _ (Fc'.keep _ _ hlr) (by
    have l1x : (lr : Addr) ≠ x' := fun e => by
      have := (Nc' _ (.head _)).2.2
      rw [← e, hlr] at this; cases this
    have l1d : (lr : Addr) ≠ dx' := fun e => by
      have := (Nc' _ (.tail _ (.head _))).2.2
      rw [← e, hlr] at this; cases this
    simp only [List.map_cons, List.mem_cons, not_or]
    exact ⟨l1x, l1d, hln⟩)
  have hdz : ∀ o o', Dist ((x', o) :: (dx', o') :: (bs ++ nw)) := fun o o' => ⟨⟨Nat.ne_of_lt l2, hx2⟩, hx1, hd⟩
  k_steps
  (rename Fr h₀ L _ m => kF)
  (rename News h₀ L _ _ => kN)
  (rename Dist (_ :: _) => kD)
  (rename Iterd _ _ _ _ _ _ _ _ _ => kI)
  simp only [List.cons_append] at kD
  exact ret _ _ _ _ _ _ _ _ _ _ _ kI (new_st kI loopD_new) rfl rfl rfl rfl rfl rfl kF (nw_sub kN fun z hz => by
    simp only [List.mem_cons] at hz ⊢
    rcases hz with e | e | e | e
    · exact .inr (.inl e)
    · exact .inr (.inr (.inl e))
    · exact .inl e
    · exact .inr (.inr (.inr e))) ⟨⟨kD.2.1.1, fun e => kD.1.1 e.symm, kD.2.1.2⟩, ⟨fun e => kD.1.2.1 e.symm, kD.2.2.1⟩, kD.1.2.2, kD.2.2.2⟩
theorem new_loop1 {dp un : Nat} {gd : Option (List Code)} {cn : Str} {cs : Scope} {a : Addr} {ccd : Value} {cl : List (Str × Addr)} {outer : List Env} {A₀ : Around} {base h₀ : Heap} {L : Addr} {m : Str → Option Value} {s : Shared} {Q E : Value → Shared → Prop} {lr ep q : Nat} {vs : List Value} {bs nw : List (Addr × Obj)} {ag : Nat} {depth : Int} {td : Tok}
   (B : Below A₀ base outer h₀) (F : Fr h₀ L s.heap m) (X : (hd.heap_39 w.params).In h₀) (T : Top p loose mean mg mb h₀) (hk : cs.kind = .function) (hdp : dp + 60 < recursionLimit) (hun : un + 150 < cLine) (hH : Handed lr vs q nw) (hlr : h₀.get? lr = some (listOf vs.toArray ep)) (N : News h₀ L s.heap (bs ++ nw)) (hd : Dist (bs ++ nw))
   (ret : ∀ (x dx I l : Nat) io lo nw' S od h' tk', Iterd lr (listOf vs.toArray ep) vs q I io l lo nw' → LoopSt I l od io lo S vs vs.length → S.again = .ref ag → S.depth = depth → S.idx = -1 → S.lcv = .ref 92 → S.cur = .ref 92 → S.bef = .ref 92 → Fr h₀ L h' m →
     News h₀ L h' ((x, instObj 255 dx) :: (dx, od) :: (I, io) :: (bs ++ nw')) → Dist ((x, instObj 255 dx) :: (dx, od) :: (I, io) :: (bs ++ nw')) → Q (.ref x) { s with heap := h', toks := tk' }) :
   wpAny (model PySem.Challenge.rw_bb0046_01.row.prog w) (ktrTop dp un gd cn cs L a ccd cl outer) (call (.ref 255) [.ref q, .ref 364, .ref ag, .int depth td]) Q E s := by
  have hln : (lr : Addr) ∉ (bs ++ nw).map (·.1) := fun hm => by
    obtain ⟨z, hz, e⟩ := List.mem_map.mp hm
    have := (N z hz).2.2
    rw [e, hlr] at this; cases this
  refine' call_cls ?z1 ?z2 ?z3 ?z4 ?z5 ?z6 ?_
  case z1 => k_asm
  case z2 => k_asm
  case z3 => exact N
  case z4 => k_is
  case z5 => k_is
  case z6 => k_is
  intro x' dx' hc' Fc' Nc' l1 l2
  replace l1 := allLt_of l1
  k_lt2 l2
  refine' code_defG ?k1 ?k2 ?k3 ?k4 ?k5 ?kA ?kF ?kK ?k6 ?k7 ?k8 ?k9 ?kB ?_ ?c2 ?c3 ?c4 ?c5
  case kA => exact rfl
  case kF => exact rfl
  case kK => assumption
  case k1 => k_asm
  case k2 => k_asm
  case k3 => k_asm
  case k4 => exact Nc'
  case k5 => k_asm
  case k6 => k_is
  case k7 => k_is
  case k8 => k_room
  case k9 => first | exact BindsTo.of_eq rfl | exact binds_K (by k_in) rfl (by k_is) rfl rfl rfl
  case c5 => decide
  case kB => exact locs rfl
  case c2 => exact rfl
  case c3 => exact rfl
  case c4 => exact rfl
  intro g' L' h' FG' F' N' B' X' T' G'
  try dsimp only
  try k_fold
  have hx1 := allLt_ne l1
  have hx2 : AllNe x' (bs ++ nw) := allNe_mk fun p hp => Nat.ne_of_lt (Nat.lt_trans (allLt_mem l1 p hp) l2)
  have hx1b : AllNe dx' bs := allNe_sub hx1 fun z hz => List.mem_append_left _ hz
  have hlg : g'.get? lr = some (listOf vs.toArray ep) := G' _ _ (Fc'.keep _ _ hlr) (by
    have l1x : (lr : Addr) ≠ x' := fun e => by
      have := (Nc' _ (.head _)).2.2
      rw [← e, hlr] at this; cases this
    have l1d : (lr : Addr) ≠ dx' := fun e => by
      have := (Nc' _ (.tail _ (.head _))).2.2
      rw [← e, hlr] at this; cases this
    simp only [List.map_cons, List.mem_cons, not_or]
    exact ⟨l1x, l1d, hln⟩)
  have hdz : ∀ o o', Dist ((x', o) :: (dx', o') :: (bs ++ nw)) := fun o o' => ⟨⟨Nat.ne_of_lt l2, hx2⟩, hx1, hd⟩
  k_steps
  (rename Fr h₀ L _ m => kF)
  (rename News h₀ L _ _ => kN)
  (rename Dist (_ :: _) => kD)
  (rename Iterd _ _ _ _ _ _ _ _ _ => kI)
  simp only [List.cons_append] at kD
  exact ret _ _ _ _ _ _ _ _ _ _ _ kI (new_st kI loopD_new) rfl rfl rfl rfl rfl rfl kF (nw_sub kN fun z hz => by
    simp only [List.mem_cons] at hz ⊢
    rcases hz with e | e | e | e
    · exact .inr (.inl e)
    · exact .inr (.inr (.inl e))
    · exact .inl e
    · exact .inr (.inr (.inr e))) ⟨⟨kD.2.1.1, fun e => kD.1.1 e.symm, kD.2.1.2⟩, ⟨fun e => kD.1.2.1 e.symm, kD.2.2.1⟩, kD.1.2.2, kD.2.2.2⟩
theorem new_loopB {dp un : Nat} {gd : Option (List Code)} {cn : Str} {cs : Scope} {a : Addr} {ccd : Value} {cl : List (Str × Addr)} {outer : List Env} {A₀ : Around} {base h₀ : Heap} {L : Addr} {m : Str → Option Value} {s : Shared} {Q E : Value → Shared → Prop} {lr ep q : Nat} {vs : List Value} {bs nw : List (Addr × Obj)}
   (B : Below A₀ base outer h₀) (F : Fr h₀ L s.heap m) (X : (hd.heap_39 w.params).In h₀) (T : Top p loose mean mg mb h₀) (hk : cs.kind = .function) (hdp : dp + 60 < recursionLimit) (hun : un + 150 < cLine) (hH : Handed lr vs q nw) (hlr : h₀.get? lr = some (listOf vs.toArray ep)) (N : News h₀ L s.heap (bs ++ nw)) (hd : Dist (bs ++ nw))
   (ret : ∀ (x dx I l : Nat) io lo nw' S od h' tk', Iterd lr (listOf vs.toArray ep) vs q I io l lo nw' → LoopSt I l od io lo S vs vs.length → S.again = .none → S.depth = 0 → S.idx = -1 → S.lcv = .ref 92 → S.cur = .ref 92 → S.bef = .ref 92 → Fr h₀ L h' m →
     News h₀ L h' ((x, instObj 255 dx) :: (dx, od) :: (I, io) :: (bs ++ nw')) → Dist ((x, instObj 255 dx) :: (dx, od) :: (I, io) :: (bs ++ nw')) → Q (.ref x) { s with heap := h', toks := tk' }) :
   wpAny (model PySem.Challenge.rw_bb0046_01.row.prog w) (ktrTop dp un gd cn cs L a ccd cl outer) (call (.ref 255) [.ref q, .ref 364]) Q E s := by
  have hln : (lr : Addr) ∉ (bs ++ nw).map (·.1) := fun hm => by
    obtain ⟨z, hz, e⟩ := List.mem_map.mp hm
    have := (N z hz).2.2
    rw [e, hlr] at this; cases this
  refine' call_cls ?z1 ?z2 ?z3 ?z4 ?z5 ?z6 ?_
  case z1 => k_asm
  case z2 => k_asm
  case z3 => exact N
  case z4 => k_is
  case z5 => k_is
  case z6 => k_is
  intro x' dx' hc' Fc' Nc' l1 l2
  replace l1 := allLt_of l1
  k_lt2 l2
  refine' code_defG ?k1 ?k2 ?k3 ?k4 ?k5 ?kA ?kF ?kK ?k6 ?k7 ?k8 ?k9 ?kB ?_ ?c2 ?c3 ?c4 ?c5
  case kA => exact rfl
  case kF => exact rfl
  case kK => assumption
  case k1 => k_asm
  case k2 => k_asm
  case k3 => k_asm
  case k4 => exact Nc'
  case k5 => k_asm
  case k6 => k_is
  case k7 => k_is
  case k8 => k_room
  case k9 => first | exact BindsTo.of_eq rfl | exact binds_K (by k_in) rfl (by k_is) rfl rfl rfl
  case c5 => decide
  case kB => exact locs rfl
  case c2 => exact rfl
  case c3 => exact rfl
  case c4 => exact rfl
  intro g' L' h' FG' F' N' B' X' T' G'
  try dsimp only
  try k_fold
  have hx1 := allLt_ne l1
  have hx2 : AllNe x' (bs ++ nw) := allNe_mk fun p hp => Nat.ne_of_lt (Nat.lt_trans (allLt_mem l1 p hp) l2)
  have hx1b : AllNe dx' bs := allNe_sub hx1 fun z hz => List.mem_append_left _ hz
  have hlg : g'.get? lr = some (listOf vs.toArray ep) := G' _ _ (Fc'.keep _ _ hlr) (by
    have l1x : (lr : Addr) ≠ x' := fun e => by
      have := (Nc' _ (.head _)).2.2
      rw [← e, hlr] at this; cases this
    have l1d : (lr : Addr) ≠ dx' := fun e => by
      have := (Nc' _ (.tail _ (.head _))).2.2
      rw [← e, hlr] at this; cases this
    simp only [List.map_cons, List.mem_cons, not_or]
    exact ⟨l1x, l1d, hln⟩)
  have hdz : ∀ o o', Dist ((x', o) :: (dx', o') :: (bs ++ nw)) := fun o o' => ⟨⟨Nat.ne_of_lt l2, hx2⟩, hx1, hd⟩
  k_steps
  (rename Fr h₀ L _ m => kF)
  (rename News h₀ L _ _ => kN)
  (rename Dist (_ :: _) => kD)
  (rename Iterd _ _ _ _ _ _ _ _ _ => kI)
  simp only [List.cons_append] at kD
  exact ret _ _ _ _ _ _ _ _ _ _ _ kI (new_st kI loopD_new) rfl rfl rfl rfl rfl rfl kF (nw_sub kN fun z hz => by
    simp only [List.mem_cons] at hz ⊢
    rcases hz with e | e | e | e
    · exact .inr (.inl e)
    · exact .inr (.inr (.inl e))
    · exact .inl e
    · exact .inr (.inr (.inr e))) ⟨⟨kD.2.1.1, fun e => kD.1.1 e.symm, kD.2.1.2⟩, ⟨fun e => kD.1.2.1 e.symm, kD.2.2.1⟩, kD.1.2.2, kD.2.2.2⟩
end
end

/-! ## MV -/
theorem reset_MV : True := by
  w_top off
  trivial
section
variable {w : World} {p : Program} {loose : List Str} {mean : ExcName → Option Value} {mg mb : Str → Option Value}
theorem ended_spec {dp un : Nat} {gd : Option (List Code)} {cn : Str} {cs : Scope} {a : Addr} {ccd : Value} {cl : List (Str × Addr)} {outer : List Env} {A₀ : Around} {base g₀ h₀ : Heap} {L : Addr} {m : Str → Option Value} {s : Shared} {R : Result → Shared → Prop}
   {x dx it l : Nat} {od io lo : Obj} {S : LS} {k : Nat}
   (Γ : Gr w p loose mean mg mb A₀ base outer h₀) (T0 : KtsTurn (fsOf outer) g₀ h₀) (F : Fr h₀ L s.heap m) (hk : cs.kind = .function) (hdp : dp + 30 < recursionLimit) (hun : un + 100 < cLine)
   (N : News h₀ L s.heap [(x, instObj 255 dx), (dx, od), (it, io)]) (hS : LoopSt it l od io lo S [] k) (hl : s.heap.get? l = some lo) (hs : ∀ es n, lo.data ≠ .dict es n) (h1 : x ≠ dx) (h2 : x ≠ it) (h3 : dx ≠ it) (hlx : l ≠ x) (hld : l ≠ dx) (hli : l ≠ it)
   (ret : ∀ h₀' h' tk', KtsTurn (fsOf outer) g₀ h₀' → Gr w p loose mean mg mb A₀ base outer h₀' → Fr h₀' L h' m → KeepsF [x, dx, it] (L :: fsOf outer) s.heap h' → R (.ok (.ret (.bool true))) { s with heap := h', toks := tk' }) :
   codeAny (model PySem.Challenge.rw_bb0046_01.row.prog w) (ktrTop dp un gd cn cs L a ccd cl outer) (.call (.ref 433) ⟨[.ref x], []⟩) R s := by
  obtain ⟨⟨es, n, rfl, hD⟩, hit, ⟨us, hi, hp⟩, hlen, hcnt⟩ := hS
  obtain ⟨iterable, itor, again, depth, idx, len, aft, cur, bef, lcv⟩ := S
  dsimp only at hit hp hD ret hcnt
  subst hit
  obtain ⟨rfl, rfl⟩ : aft = .ref 92 ∧ us = [] := hp.elim (fun z => ⟨z.1, z.2.symm⟩) (fun ⟨_, _, _, z⟩ => by cases z)
  refine' enterS Γ F N ?kA ?kF ?kK ?k6 ?k7 ?k8 ?k9 ?kB ?_ ?c2 ?c3 ?c4 ?c5
  case kA => exact rfl
  case kF => exact rfl
  case kK => assumption
  case k6 => k_is
  case k7 => k_is
  case k8 => k_room
  case k9 => first | exact BindsTo.of_eq rfl | exact binds_K (by k_in) rfl (by k_is) rfl rfl rfl
  case c5 => decide
  case kB => exact locs rfl
  case c2 => exact rfl
  case c3 => exact rfl
  case c4 => exact rfl
  intro g' L' h' FG' F' N' Γ' G'
  obtain ⟨B', X', T', XB', TB', D'⟩ := Γ'
  try dsimp only
  try k_fold
  have hl' : g'.get? l = some lo := G' _ _ hl (by simp only [List.map_cons, List.map_nil, List.mem_cons, List.not_mem_nil, or_false, not_or]; exact ⟨hlx, hld, hli⟩)
  k_steps
  (rename KtsTurn _ g' _ => kT')
  (rename KtsTurn _ h₀ _ => kT)
  (rename Fr _ L _ m => kF)
  (rename Fr _ L' _ _ => kF')
  exact ret _ _ _ (T0.trans kT) ⟨by assumption, by assumption, by assumption, XB', TB', by assumption⟩ kF (keepsF_of G' kT' kF')
end

/-! ## MW -/
section
local macro_rules | `(tactic| walk_at "call ref") => `(tactic| (k_here; (with_reducible show wpAny _ _ (call (Value.ref 255) [Value.ref _, Value.ref 364]) _ _ _); k_dflt ((first | with_reducible refine' new_loopB (bs := []) (nw := []) ?B ?F ?X ?T ?kk ?dp ?un ?H ?hl ?N ?hd ?_ | refine' new_loopB (bs := []) (nw := []) ?B ?F ?X ?T ?kk ?dp ?un ?H ?hl ?N ?hd ?_); (case B => k_asm); (case F => k_asm); (case X => k_asm); (case T => k_asm); (case kk => exact rfl); (case hl => with_reducible assumption); (case H => exact Handed.same); (case N => exact News.nil); (case hd => exact trivial); (case dp => ((try dsimp only [ktrTop]); omega)); (case un => ((try simp only [units_in1, units_deeper, Around.mark_units, units_caller]); (try dsimp only [ktrTop]); omega))); k_whole; intro x' dx' I' l' io' lo' nw' S' od' h' tk' it' st' ag' de' ix' lv' cu' be' F' N' d'; (simp only [List.nil_append] at N' d'); (obtain ⟨iterable', itor', again', depth', idx', len', aft', cur', bef', lcv'⟩ := S'); (dsimp only at ag' de' ix' lv' cu' be'); (subst ag' de' ix' lv' cu' be'); (obtain ⟨⟨es', n', oe', hD'⟩, ht', hp', hn', hc'⟩ := st'); subst oe'; (dsimp only at ht'); subst ht'))
local macro_rules | `(tactic| walk_at "callWith ref") => `(tactic| (k_here; (with_reducible show wpAny _ _ (callWith _ (Value.ref _) _ _ _) _ _ _); k_dflt ((first | with_reducible refine' kco_callWith (C := 255) (K := hd.heap_39 _) (f := 245) ?k1 ?k2 ?k3 ?k4 ?_ | refine' kco_callWith (C := 255) (K := hd.heap_39 _) (f := 245) ?k1 ?k2 ?k3 ?k4 ?_); (case k2 => k_inst); (case k1 => k_in); (case k3 => rfl); (case k4 => k_is); k_whole)))
local macro_rules | `(tactic| walk_at "call ref") => `(tactic| (k_here; (with_reducible show wpAny _ _ (call (Value.ref _) [Value.ref _]) _ _ _); k_dflt (refine wpAny_call ?_; (first | with_reducible refine' kco_code (C := 255) (K := hd.heap_39 _) (f := 245) ?k1 ?k2 ?k3 ?k4 ?k5 ?k6 ?_ | refine' kco_code (C := 255) (K := hd.heap_39 _) (f := 245) ?k1 ?k2 ?k3 ?k4 ?k5 ?k6 ?_); (case k2 => ((first | with_reducible refine' InstAt.of_news ?N ?h1 ?h2 | refine' InstAt.of_news ?N ?h1 ?h2); (case N => k_asm); (case h1 => k_mem); (case h2 => k_mem))); (case k1 => k_in); (case k3 => rfl); (case k4 => k_is); (case k5 => k_is); (case k6 => k_is); (try dsimp only); k_enter)))
theorem reset_MW : True := by
  w_top off
  trivial
section
variable {w : World} {p : Program} {loose : List Str} {mean : ExcName → Option Value} {mg mb : Str → Option Value}
theorem bare_spec {dp un : Nat} {gd : Option (List Code)} {cn : Str} {cs : Scope} {a : Addr} {ccd : Value} {cl : List (Str × Addr)} {outer : List Env} {A₀ : Around} {base g₀ h₀ : Heap} {L : Addr} {m : Str → Option Value} {s : Shared} {R : Result → Shared → Prop} {lr ep : Nat} {vs : List Value}
   (Γ : Gr w p loose mean mg mb A₀ base outer h₀) (T0 : KtsTurn (fsOf outer) g₀ h₀) (F : Fr h₀ L s.heap m) (hk : cs.kind = .function) (hdp : dp + 80 < recursionLimit) (hun : un + 300 < cLine) (hlr : s.heap.get? lr = some (listOf vs.toArray ep))
   (ret : ∀ h₀' h' tk', KtsTurn (fsOf outer) g₀ h₀' → Gr w p loose mean mg mb A₀ base outer h₀' → Fr h₀' L h' m → KeepsF [] (L :: fsOf outer) s.heap h' → R (.ok (.ret (.bool true))) { s with heap := h', toks := tk' }) :
   codeAny (model PySem.Challenge.rw_bb0046_01.row.prog w) (ktrTop dp un gd cn cs L a ccd cl outer) (.call (.ref 447) ⟨[.ref lr], []⟩) R s := by
  have N : News h₀ L s.heap [] := News.nil
  refine' enterS Γ F N ?kA ?kF ?kK ?k6 ?k7 ?k8 ?k9 ?kB ?_ ?c2 ?c3 ?c4 ?c5
  case kA => exact rfl
  case kF => exact rfl
  case kK => assumption
  case k6 => k_is
  case k7 => k_is
  case k8 => k_room
  case k9 => first | exact BindsTo.of_eq rfl | exact binds_K (by k_in) rfl (by k_is) rfl rfl rfl
  case c5 => decide
  case kB => exact locs rfl
  case c2 => exact rfl
  case c3 => exact rfl
  case c4 => exact rfl
  intro g' L' h' FG' F' N' Γ' G'
  obtain ⟨B', X', T', XB', TB', D'⟩ := Γ'
  try dsimp only
  try k_fold
  have hl' : g'.get? lr = some (listOf vs.toArray ep) := G' _ _ hlr List.not_mem_nil
  k_steps
  (rename KtsTurn _ g' _ => kT')
  (rename KtsTurn _ h₀ _ => kT)
  (rename Fr _ L _ m => kF)
  (rename Fr _ L' _ _ => kF')
  exact ret _ _ _ (T0.trans kT) ⟨by assumption, by assumption, by assumption, XB', TB', by assumption⟩ kF (keepsF_of G' kT' kF')
end

/-! ## MX -/
abbrev sev (d n lout x dx it la : Nat) (o1 o2 oo od io ola : Obj) : List (Addr × Obj) := [(d, o1), (n, o2), (lout, oo), (x, instObj 255 dx), (dx, od), (it, io), (la, ola)]
/-- what holds of the frame of `_law_walk` between two statements: `i` items are taken, `xs` are the pairs written so far -/
structure WS (w : World) (p : Program) (loose : List Str) (mean : ExcName → Option Value) (mg mb : Str → Option Value) (A₀ : Around) (base : Heap) (outer : List Env) (L : Addr) (ge : Heap) (d n lout ag x dx la : Nat) (vs ws : List Value) (deep : Int) (i : Nat) (xs : List (Int × Int)) (pre : List (Addr × Obj)) (g h : Heap) (m : Str → Option Value)
    (o1 o2 : Obj) (eo : Nat) (wn : List Value) (it l : Nat) (od io lo ola : Obj) (S : LS) (last : Option Int) (fz : List (Addr × Obj)) : Prop where
  turn : KtsTurn (fsOf outer) ge g
  gr : Gr w p loose mean mg mb A₀ base outer g
  F : Fr g L h m
  N : News g L h (pre ++ (sev d n lout x dx it la o1 o2 (listOf (ws ++ wn).toArray eo) od io ola ++ fz))
  dist : Dist (sev d n lout x dx it la o1 o2 (listOf (ws ++ wn).toArray eo) od io ola)
  apf : Apart (sev d n lout x dx it la o1 o2 (listOf (ws ++ wn).toArray eo) od io ola) fz
  app : Apart pre (sev d n lout x dx it la o1 o2 (listOf (ws ++ wn).toArray eo) od io ola ++ fz)
  draws : DrawsObj n o1 o2
  lst : LastObj last ola
  st : LoopSt it l od io lo S (vs.drop i) vs.length
  kl : Known g fz l lo
  nd : ∀ es n, lo.data ≠ .dict es n
  lne : AllNe l (sev d n lout x dx it la o1 o2 (listOf (ws ++ wn).toArray eo) od io ola)
  lcv : LcvK g fz S.lcv last
  idx : S.idx = (i : Int) - 1
  dep : S.depth = deep
  ag : S.again = .ref ag
  cur : ∃ c : Nat, S.cur = .ref c ∧ (0 < i → vs[i - 1]? = some S.cur)
  bef : ∃ c : Nat, S.bef = .ref c ∧ (1 < i → vs[i - 2]? = some S.bef)
  out : OutIn (fun b o => (b, o) ∈ fz) wn xs
def WSt (w : World) (p : Program) (loose : List Str) (mean : ExcName → Option Value) (mg mb : Str → Option Value) (A₀ : Around) (base : Heap) (outer : List Env) (L : Addr) (ge : Heap) (d n lout ag x dx la : Nat) (vs ws : List Value) (deep : Int) (i : Nat) (xs : List (Int × Int)) (pre : List (Addr × Obj)) (g h : Heap) (m : Str → Option Value) : Prop :=
  ∃ o1 o2 eo wn it l od io lo ola S last fz, WS w p loose mean mg mb A₀ base outer L ge d n lout ag x dx la vs ws deep i xs pre g h m o1 o2 eo wn it l od io lo ola S last fz
theorem mem_sev {d n lout x dx it la : Nat} {o1 o2 oo od io ola : Obj} {pre fz : List (Addr × Obj)} {q : Addr × Obj} (h : q ∈ sev d n lout x dx it la o1 o2 oo od io ola) : q ∈ pre ++ (sev d n lout x dx it la o1 o2 oo od io ola ++ fz) := List.mem_append_right _ (List.mem_append_left _ h)
section
variable {w : World} {p : Program} {loose : List Str} {mean : ExcName → Option Value} {mg mb : Str → Option Value}
theorem asks_at {dp un : Nat} {gd : Option (List Code)} {cn : Str} {cs : Scope} {a : Addr} {ccd : Value} {cl : List (Str × Addr)} {outer : List Env} {A₀ : Around} {base ge g h : Heap} {L : Addr} {m : Str → Option Value} {s : Shared} {Q E : Value → Shared → Prop}
    {d n lout lr ag x dx la ep i tk : Nat} {vs ws : List Value} {ns : List Int} {deep at_ : Int} {t1 t2 : Tok} {xs : List (Int × Int)} {pre : List (Addr × Obj)}
    (H : WSt w p loose mean mg mb A₀ base outer L ge d n lout ag x dx la vs ws deep i xs pre g h m) (hk : cs.kind = .function) (hdp : dp + 90 < recursionLimit) (hun : un + 600 < cLine)
    (hge : KtsDicts (fsOf outer) ge) (hlr : ge.get? lr = some (listOf vs.toArray ep)) (hR : RowNums ge vs ns) (hlen : ns.length ≤ 1000) (hat : at_ = (i : Int) - 1) (hi : i ≤ ns.length)
    (ret : ∀ g' h' tk', WSt w p loose mean mg mb A₀ base outer L ge d n lout ag x dx la vs ws deep i xs pre g' h' m → Q (.bool true) { s with heap := h', toks := tk' }) :
    wpAny (model PySem.Challenge.rw_bb0046_01.row.prog w) (ktrTop dp un gd cn cs L a ccd cl outer) (call (.ref 419) [.ref d, .ref x, .ref lr, .int at_ t1, .int deep t2, .ref la]) Q E { s with heap := h, toks := tk } := by
  obtain ⟨o1, o2, eo, wn, it, l, od, io, lo, ola, S, last, fz, H⟩ := H
  have kg : ∀ {b : Addr} {o : Obj}, (∀ es n, o.data ≠ .dict es n) → ge.get? b = some o → g.get? b = some o := fun hn e => H.turn.other _ _ e (notFrame hge e hn)
  have hlrg : g.get? lr = some (listOf vs.toArray ep) := kg (fun _ _ z => by cases z) hlr
  have hRg : RowNums g vs ns := hR.mono fun t its k ht => kg (fun _ _ z => by cases z) ht
  have hvl := hR.length
  have inled : ∀ {q : Addr × Obj}, q ∈ sev d n lout x dx it la o1 o2 (listOf (ws ++ wn).toArray eo) od io ola → q ∈ pre ++ (sev d n lout x dx it la o1 o2 (listOf (ws ++ wn).toArray eo) od io ola ++ fz) := mem_sev
  have gnone : ∀ {q : Addr × Obj}, q ∈ pre ++ (sev d n lout x dx it la o1 o2 (listOf (ws ++ wn).toArray eo) od io ola ++ fz) → g.get? q.1 = none := fun hq => (H.N _ hq).2.2
  have lrne : ∀ {q : Addr × Obj}, q ∈ pre ++ (sev d n lout x dx it la o1 o2 (listOf (ws ++ wn).toArray eo) od io ola ++ fz) → q.1 ≠ lr := fun hq e => by
    have := gnone hq
    rw [e, hlrg] at this; cases this
  have hdist := H.dist
  simp only [sev, Dist, AllNe, and_true] at hdist
  obtain ⟨⟨d1, d2, d3, d4, d5, d6⟩, ⟨e1, e2, e3, e4, e5⟩, ⟨f1, f2, f3, f4⟩, ⟨k1, k2, k3⟩, ⟨j1, j2⟩, i1⟩ := hdist
  have N6 : News g L h [(d, o1), (n, o2), (x, instObj 255 dx), (dx, od), (it, io), (la, ola)] := nw_sub H.N fun q hq => mem_sev (by
    simp only [List.mem_cons, List.not_mem_nil, or_false] at hq ⊢
    rcases hq with e | e | e | e | e | e <;> simp [e])
  have hlne := H.lne
  simp only [sev, AllNe, and_true] at hlne
  obtain ⟨l1, l2, l3, l4, l5, l6, l7⟩ := hlne
  refine wpAny_call (asks_spec (s := { s with heap := h, toks := tk }) (g₀ := g) H.gr KtsTurn.refl H.F hk hdp hun N6 ?_ H.draws H.lst H.st (by rw [hat]; congr 1; omega) (by rw [H.idx, hat]) H.dep (Known.at (H.kl.mono (news' := pre ++ (sev d n lout x dx it la o1 o2 (listOf (ws ++ wn).toArray eo) od io ola ++ fz)) fun q hq => List.mem_append_right _ (List.mem_append_right _ hq)) H.F H.N) H.nd ?_
    (H.lcv.at H.F H.N fun q hq => List.mem_append_right _ (List.mem_append_right _ hq)) (H.F.keep _ _ hlrg) ?_ (hRg.mono fun _ _ _ e => H.F.keep _ _ e) hlen (by omega) (by omega) ?_ ?_ ?_)
  · simp only [Dist, AllNe, and_true]
    exact ⟨⟨d1, d3, d4, d5, d6⟩, ⟨e2, e3, e4, e5⟩, ⟨k1, k2, k3⟩, ⟨j1, j2⟩, i1⟩
  · simp only [AllNe, and_true]
    exact ⟨l1, l2, l4, l5, l6, l7⟩
  · simp only [AllNe, and_true]
    exact ⟨lrne (inled (.head _)), lrne (inled (.tail _ (.head _))), lrne (inled (.tail _ (.tail _ (.tail _ (.head _))))), lrne (inled (.tail _ (.tail _ (.tail _ (.tail _ (.head _)))))), lrne (inled (.tail _ (.tail _ (.tail _ (.tail _ (.tail _ (.head _))))))), lrne (inled (.tail _ (.tail _ (.tail _ (.tail _ (.tail _ (.tail _ (.head _)))))))) ⟩
  · intro hz
    obtain ⟨c, hc, hb⟩ := H.bef
    have hb' := hb (by omega)
    obtain ⟨v, hv, hI⟩ := hRg.at (at_ - 1).toNat (by omega)
    rw [show (at_ - 1).toNat = i - 2 by omega] at hv hI ⊢
    rw [hb'] at hv
    rw [Option.some.inj hv]
    exact hI.mono fun _ _ _ e => H.F.keep _ _ e
  · obtain ⟨c, hc, _⟩ := H.bef
    exact ⟨c, hc⟩
  · intro g' it' l' od' io' lo' o1' o2' ola' S' last' h' tk' st' lk' dr' ls' lc' T' Γ' F' N' K' hl' nd' di' ln' old oldv
    refine ret g' h' tk' ?_
    have itL : it ≠ L := (H.N _ (inled (.tail _ (.tail _ (.tail _ (.tail _ (.tail _ (.head _)))))))).2.1
    have itg : g.get? it = none := gnone (inled (.tail _ (.tail _ (.tail _ (.tail _ (.tail _ (.head _)))))))
    have key : ∀ {q : Nat}, (∀ o, h.get? q = some o → q = it) → q ≠ L ∧ g'.get? q = none ∧ ∀ z ∈ pre ++ (sev d n lout x dx it la o1 o2 (listOf (ws ++ wn).toArray eo) od io ola ++ fz), z.1 ≠ it → z.1 ≠ q := fun {q} hq => by
      refine ⟨fun e => ?_, T'.none_ _ ?_, fun z hz hne e => hne (e.trans (hq z.2 (e ▸ (H.N z hz).1)))⟩
      · obtain ⟨oL, _, _, hL, _⟩ := H.F.ns
        exact itL ((hq oL (e ▸ hL)).symm.trans e)
      · cases e : g.get? q with
        | none => rfl
        | some o =>
          have := hq o (H.F.keep _ _ e)
          rw [this, itg] at e; cases e
    have stay : ∀ z ∈ pre ++ (sev d n lout x dx it la o1 o2 (listOf (ws ++ wn).toArray eo) od io ola ++ fz), z.1 ∉ [d, n, x, dx, it, la] → h'.get? z.1 = some z.2 ∧ z.1 ≠ L ∧ g'.get? z.1 = none := fun z hz hn =>
      nwF_after (rest := [z]) H.N H.gr.D T' N' K' (fun q hq => by rw [List.mem_singleton.mp hq]; exact ⟨hz, hn⟩) z (List.mem_append_right _ (.head _))
    have fz6 : ∀ z ∈ fz, z.1 ∉ [d, n, x, dx, it, la] ∧ z.1 ≠ it ∧ z.1 ≠ lout := fun z hz => by
      have ap : ∀ {q : Addr × Obj}, q ∈ sev d n lout x dx it la o1 o2 (listOf (ws ++ wn).toArray eo) od io ola → z.1 ≠ q.1 := fun hq => allNe_mem (H.apf _ hq) z hz
      simp only [List.mem_cons, List.not_mem_nil, or_false, not_or]
      exact ⟨⟨ap (.head _), ap (.tail _ (.head _)), ap (.tail _ (.tail _ (.tail _ (.head _)))), ap (.tail _ (.tail _ (.tail _ (.tail _ (.head _))))), ap (.tail _ (.tail _ (.tail _ (.tail _ (.tail _ (.head _)))))), ap (.tail _ (.tail _ (.tail _ (.tail _ (.tail _ (.tail _ (.head _))))))) ⟩, ap (.tail _ (.tail _ (.tail _ (.tail _ (.tail _ (.head _)))))), ap (.tail _ (.tail _ (.head _)))⟩
    have pre6 : ∀ z ∈ pre, z.1 ∉ [d, n, x, dx, it, la] ∧ z.1 ≠ it ∧ z.1 ≠ lout := fun z hz => by
      have ap : ∀ {q : Addr × Obj}, q ∈ sev d n lout x dx it la o1 o2 (listOf (ws ++ wn).toArray eo) od io ola → z.1 ≠ q.1 := fun hq e => allNe_mem (H.app z hz) _ (List.mem_append_left _ hq) e.symm
      simp only [List.mem_cons, List.not_mem_nil, or_false, not_or]
      exact ⟨⟨ap (.head _), ap (.tail _ (.head _)), ap (.tail _ (.tail _ (.tail _ (.head _)))), ap (.tail _ (.tail _ (.tail _ (.tail _ (.head _))))), ap (.tail _ (.tail _ (.tail _ (.tail _ (.tail _ (.head _)))))), ap (.tail _ (.tail _ (.tail _ (.tail _ (.tail _ (.tail _ (.head _))))))) ⟩, ap (.tail _ (.tail _ (.tail _ (.tail _ (.tail _ (.head _)))))), ap (.tail _ (.tail _ (.head _)))⟩
    have hlo := stay (lout, listOf (ws ++ wn).toArray eo) (inled (.tail _ (.tail _ (.head _)))) (by
      simp only [List.mem_cons, List.not_mem_nil, or_false, not_or]
      exact ⟨d2, e1, fun e => f1 e.symm, fun e => f2 e.symm, fun e => f3 e.symm, fun e => f4 e.symm⟩)
    have k6 : h'.get? d = some o1' ∧ d ≠ L ∧ g'.get? d = none := N' (d, o1') (.head _)
    -- the list gone through
    have L1 : ∃ ex, (∀ z ∈ ex, h'.get? z.1 = some z.2 ∧ z.1 ≠ L ∧ g'.get? z.1 = none) ∧ (∀ z ∈ ex, AllNe z.1 [(d, o1'), (n, o2'), (x, instObj 255 dx), (dx, od'), (it', io'), (la, ola')]) ∧ (∀ z ∈ ex, z.1 ≠ lout ∧ ∀ y ∈ pre, y.1 ≠ z.1) ∧ Known g' (ex ++ fz) l' lo' ∧ lout ≠ l' := by
      rcases old with ⟨rfl, rfl, rfl⟩ | ⟨_, hl2⟩
      · exact ⟨[], fun z hz => (nomatch hz), fun z hz => (nomatch hz), fun z hz => (nomatch hz), H.kl.imp (fun e => T'.other _ _ e (notFrame H.gr.D e H.nd)) id, l3⟩
      · obtain ⟨q1, q2, q3⟩ := key hl2
        have hlo' : lout ≠ l' := q3 _ (inled (.tail _ (.tail _ (.head _)))) (fun e => f3 e.symm)
        refine ⟨[(l', lo')], fun z hz => ?_, fun z hz => ?_, fun z hz => ?_, .inr (.head _), hlo'⟩
        all_goals rw [List.mem_singleton.mp hz]
        · exact ⟨hl', q1, q2⟩
        · exact ln'
        · exact ⟨fun e => hlo' e.symm, fun y hy => q3 y (List.mem_append_left _ hy) (pre6 y hy).2.1⟩
    obtain ⟨ex1, x11, x12, x13, kl1, loutl⟩ := L1
    have ioc : io'.cls ≠ .type "tuple" := by
      obtain ⟨us, hi', _⟩ := st'.pend
      exact hi'.notTup
    have L2 : ∃ ex, (∀ z ∈ ex, h'.get? z.1 = some z.2 ∧ z.1 ≠ L ∧ g'.get? z.1 = none) ∧ (∀ z ∈ ex, AllNe z.1 [(d, o1'), (n, o2'), (x, instObj 255 dx), (dx, od'), (it', io'), (la, ola')]) ∧ (∀ z ∈ ex, z.1 ≠ lout ∧ ∀ y ∈ pre, y.1 ≠ z.1) ∧ LcvK g' (ex ++ fz) S'.lcv last' := by
      cases last' with
      | none => exact ⟨[], fun z hz => (nomatch hz), fun z hz => (nomatch hz), fun z hz => (nomatch hz), lc'⟩
      | some v =>
        obtain ⟨tv, tt, q1, q2, q3⟩ := lc'
        rcases oldv with e | ⟨tq, e, hq⟩
        · refine ⟨[], fun z hz => (nomatch hz), fun z hz => (nomatch hz), fun z hz => (nomatch hz), ?_⟩
          have hlv := H.lcv
          rw [← e, q1] at hlv
          cases hlast : last with
          | none => rw [hlast] at hlv; exact absurd (Value.ref.inj hlv) q2
          | some v0 =>
            rw [hlast] at hlv
            obtain ⟨tv', t', r1, r2, r3⟩ := hlv
            obtain rfl : tv = tv' := Value.ref.inj r1
            have kk : Known g' fz tv (tupOf #[.int v0 t'] 0) := r3.imp (fun e => T'.other _ _ e (notFrame H.gr.D e fun _ _ z => by cases z)) id
            have : h'.get? tv = some (tupOf #[.int v0 t'] 0) := kk.elim (F'.keep _ _) fun hm => (stay _ (List.mem_append_right _ (List.mem_append_right _ hm)) (fz6 _ hm).1).1
            rw [q3] at this
            rw [← Option.some.inj this] at kk
            exact ⟨tv, tt, q1, q2, kk⟩
        · obtain rfl : tq = tv := Value.ref.inj (e.symm.trans q1)
          obtain ⟨p1, p2, p3⟩ := key hq
          have nit : it' ≠ tq := fun e => by
            have := (N' (it', io') (.tail _ (.tail _ (.tail _ (.tail _ (.head _)))))).1
            rw [show ((it', io') : Addr × Obj).1 = tq from e, q3] at this
            exact ioc (by rw [show io' = _ from (Option.some.inj this).symm])
          refine ⟨[(tq, tupOf #[.int v tt] 0)], fun z hz => ?_, fun z hz => ?_, fun z hz => ?_, ⟨tq, tt, q1, q2, .inr (.head _)⟩⟩
          all_goals rw [List.mem_singleton.mp hz]
          · exact ⟨q3, p1, p2⟩
          · simp only [AllNe, and_true]
            exact ⟨p3 _ (inled (.head _)) (fun e => d5 e.symm), p3 _ (inled (.tail _ (.head _))) (fun e => e4 e.symm), p3 _ (inled (.tail _ (.tail _ (.tail _ (.head _))))) (fun e => k2 e.symm), p3 _ (inled (.tail _ (.tail _ (.tail _ (.tail _ (.head _)))))) (fun e => j1 e.symm), nit, p3 _ (inled (.tail _ (.tail _ (.tail _ (.tail _ (.tail _ (.tail _ (.head _)))))))) i1⟩
          · exact ⟨fun e => p3 _ (inled (.tail _ (.tail _ (.head _)))) (fun e => f3 e.symm) e.symm, fun y hy => p3 y (List.mem_append_left _ hy) (pre6 y hy).2.1⟩
    obtain ⟨ex2, y11, y12, y13, lc2⟩ := L2
    have nitl : ∀ z ∈ pre ++ (sev d n lout x dx it la o1 o2 (listOf (ws ++ wn).toArray eo) od io ola ++ fz), z.1 ≠ it → z.1 ≠ it' := fun z hz hne e => by
      rcases old with ⟨r, _, _⟩ | ⟨hi2, _⟩
      · exact hne (e.trans r)
      · exact (key hi2).2.2 z hz hne e
    have di := di'
    simp only [Dist, AllNe, and_true] at di
    obtain ⟨⟨b1, b2, b3, b4, b5⟩, ⟨c1, c2, c3, c4⟩, ⟨g1, g2, g3⟩, ⟨h1, h2⟩, h3⟩ := di
    have lnit : lout ≠ it' := nitl _ (inled (.tail _ (.tail _ (.head _)))) (fun e => f3 e.symm)
    simp only [AllNe, and_true] at ln'
    refine ⟨o1', o2', eo, wn, it', l', od', io', lo', ola', S', last', ex1 ++ (ex2 ++ fz), H.turn.trans T', Γ', F', ?_, ?_, ?_, ?_, dr', ls', st', ?_, nd', ?_, ?_, by rw [lk'.idx]; exact H.idx, by rw [lk'.depth]; exact H.dep, by rw [lk'.again]; exact H.ag, by rw [lk'.cur]; exact H.cur, by rw [lk'.bef]; exact H.bef, H.out.mono fun _ _ _ z => List.mem_append_right _ (List.mem_append_right _ z)⟩
    · intro q hq
      rcases List.mem_append.mp hq with hq | hq
      · exact stay q (List.mem_append_left _ hq) (pre6 q hq).1
      rcases List.mem_append.mp hq with hq | hq
      · simp only [sev, List.mem_cons, List.not_mem_nil, or_false] at hq
        rcases hq with rfl | rfl | rfl | rfl | rfl | rfl | rfl
        · exact N' _ (.head _)
        · exact N' _ (.tail _ (.head _))
        · exact hlo
        · exact N' _ (.tail _ (.tail _ (.head _)))
        · exact N' _ (.tail _ (.tail _ (.tail _ (.head _))))
        · exact N' _ (.tail _ (.tail _ (.tail _ (.tail _ (.head _)))))
        · exact N' _ (.tail _ (.tail _ (.tail _ (.tail _ (.tail _ (.head _))))))
      rcases List.mem_append.mp hq with hq | hq
      · exact x11 q hq
      rcases List.mem_append.mp hq with hq | hq
      · exact y11 q hq
      · exact stay q (List.mem_append_right _ (List.mem_append_right _ hq)) (fz6 q hq).1
    · simp only [sev, Dist, AllNe, and_true]
      exact ⟨⟨b1, d2, b2, b3, b4, b5⟩, ⟨e1, c1, c2, c3, c4⟩, ⟨f1, f2, fun e => lnit e.symm, f4⟩, ⟨g1, g2, g3⟩, ⟨h1, h2⟩, h3⟩
    · have one : ∀ z, (AllNe z.1 [(d, o1'), (n, o2'), (x, instObj 255 dx), (dx, od'), (it', io'), (la, ola')] ∧ z.1 ≠ lout) → ∀ q ∈ sev d n lout x dx it' la o1' o2' (listOf (ws ++ wn).toArray eo) od' io' ola', (z : Addr × Obj).1 ≠ q.1 := fun z hz q hq => by
        simp only [AllNe, and_true] at hz
        obtain ⟨⟨z1, z2, z3, z4, z5, z6⟩, z7⟩ := hz
        simp only [sev, List.mem_cons, List.not_mem_nil, or_false] at hq
        rcases hq with rfl | rfl | rfl | rfl | rfl | rfl | rfl
        · exact fun e => z1 e.symm
        · exact fun e => z2 e.symm
        · exact z7
        · exact fun e => z3 e.symm
        · exact fun e => z4 e.symm
        · exact fun e => z5 e.symm
        · exact fun e => z6 e.symm
      refine fun q hq => allNe_mk fun z hz => ?_
      rcases List.mem_append.mp hz with hz | hz
      · exact one z ⟨x12 z hz, (x13 z hz).1⟩ q hq
      rcases List.mem_append.mp hz with hz | hz
      · exact one z ⟨y12 z hz, (y13 z hz).1⟩ q hq
      · have z6 := (fz6 z hz).1
        simp only [List.mem_cons, List.not_mem_nil, or_false, not_or] at z6
        obtain ⟨z1, z2, z3, z4, z5, z6⟩ := z6
        refine one z ⟨?_, (fz6 z hz).2.2⟩ q hq
        simp only [AllNe, and_true]
        exact ⟨fun e => z1 e.symm, fun e => z2 e.symm, fun e => z3 e.symm, fun e => z4 e.symm, fun e => nitl z (List.mem_append_right _ (List.mem_append_right _ hz)) (fz6 z hz).2.1 e.symm, fun e => z6 e.symm⟩
    · intro y hy
      have y6 := (pre6 y hy).1
      simp only [List.mem_cons, List.not_mem_nil, or_false, not_or] at y6
      obtain ⟨z1, z2, z3, z4, z5, z6⟩ := y6
      refine allNe_mk fun q hq => ?_
      rcases List.mem_append.mp hq with hq | hq
      · simp only [sev, List.mem_cons, List.not_mem_nil, or_false] at hq
        rcases hq with rfl | rfl | rfl | rfl | rfl | rfl | rfl
        · exact fun e => z1 e.symm
        · exact fun e => z2 e.symm
        · exact fun e => (pre6 y hy).2.2 e.symm
        · exact fun e => z3 e.symm
        · exact fun e => z4 e.symm
        · exact fun e => nitl y (List.mem_append_left _ hy) (pre6 y hy).2.1 e.symm
        · exact fun e => z6 e.symm
      rcases List.mem_append.mp hq with hq | hq
      · exact fun e => (x13 q hq).2 y hy e.symm
      rcases List.mem_append.mp hq with hq | hq
      · exact fun e => (y13 q hq).2 y hy e.symm
      · exact allNe_mem (H.app y hy) q (List.mem_append_right _ hq)
    · exact kl1.mono fun q hq => by
        rcases List.mem_append.mp hq with hq | hq
        · exact List.mem_append_left _ hq
        · exact List.mem_append_right _ (List.mem_append_right _ hq)
    · simp only [sev, AllNe, and_true]
      obtain ⟨a1, a2, a3, a4, a5, a6⟩ := ln'
      exact ⟨a1, a2, loutl, a3, a4, a5, a6⟩
    · cases hl' : last' with
      | none => rw [hl'] at lc2; exact lc2
      | some v =>
        rw [hl'] at lc2
        obtain ⟨tv, tt, q1, q2, q3⟩ := lc2
        exact ⟨tv, tt, q1, q2, q3.mono fun q hq => List.mem_append_right _ hq⟩
end

/-! ## MY -/
namespace Row
def dat : Row → List PyData
  | .nil => []
  | .cons n b r => .tuple [.int n, .list b.dat] :: r.dat
theorem dat_lay : ∀ r : Row, PyData.canLayAll0 r.dat = true
  | .nil => rfl
  | .cons n b r => by simp only [dat, PyData.canLayAll0, PyData.canLay0, dat_lay b, dat_lay r, Bool.and_self]
theorem dat_depth : ∀ r : Row, PyData.depthAll r.dat ≤ 2 * r.depth
  | .nil => Nat.zero_le _
  | .cons n b r => by
    have h1 := dat_depth b
    have h2 := dat_depth r
    simp only [dat, PyData.depthAll, PyData.depth, Row.depth]
    omega
def isNil : Row → Bool
  | .nil => true
  | .cons _ _ _ => false
end Row
theorem RowIn.reads {h : Heap} {vs : List Value} {r : Row} (x : RowIn (fun b o => h.get? b = some o) vs r) : ∃ as, ReadsAll h vs r.dat as := by
  induction x with
  | nil => exact ⟨_, .nil⟩
  | cons h1 h2 h3 _ _ ih1 ih2 =>
    obtain ⟨as, a1⟩ := ih1
    obtain ⟨bs, b1⟩ := ih2
    exact ⟨_, .cons (reads_tuple_at h2 rfl rfl (.cons (Reads.int _ _) (.cons (reads_list_at h3 rfl rfl a1) .nil))) b1⟩
section
variable {prog : Program} {w : World} {A : Around} {E : Value → Shared → Prop} {s : Shared} {g : Heap} {L : Addr} {m : Str → Option Value} {news : List (Addr × Obj)} {Q : Value → Shared → Prop} {t lb l2 ep k : Nat} {n : Int} {tk : Tok} {vb : List Value} {b : Row}
theorem ne_same (F : Fr g L s.heap m) (h1 : g.get? t = some (tupOf #[.int n tk, .ref lb] 0)) (h2 : g.get? lb = some (listOf vb.toArray ep)) (h3 : RowIn (fun b o => g.get? b = some o) vb b) (hd : b.depth ≤ 20) (hu : A.units + 64 < cLine) (h : Q (.bool false) s) :
    wpAny (model prog w) A (compareOp .NotEq (.ref t) (.ref t)) Q E s := by
  obtain ⟨as, ha⟩ := (h3.mono fun b o _ _ e => F.keep b o e : RowIn (fun b o => s.heap.get? b = some o) vb b).reads
  have ra := reads_tuple_at (F.keep _ _ h1) rfl rfl (.cons (Reads.int n tk) (.cons (reads_list_at (F.keep _ _ h2) rfl rfl ha) .nil))
  have hl : (PyData.tuple [.int n, .list b.dat]).canLay0 = true := by simp only [PyData.canLay0, PyData.canLayAll0, Row.dat_lay, Bool.and_self]
  have hs : SeqAt.shaped (.tuple [.int n, .list b.dat]) = true := by
    have := Row.dat_depth b
    have hd2 : (PyData.tuple [.int n, .list b.dat]).depth ≤ 64 := by simp only [PyData.depth, PyData.depthAll]; omega
    unfold SeqAt.shaped
    rw [hl, decide_eq_true hd2]; rfl
  refine ne_dataH ra ra hs hs hu ?_
  rw [SeqAt.eqv_refl _ hl]
  exact h
theorem ne_empty (F : Fr g L s.heap m) (N : News g L s.heap news) (h2 : g.get? lb = some (listOf vb.toArray ep)) (h3 : RowIn (fun b o => g.get? b = some o) vb b) (he : (l2, listOf #[] k) ∈ news) {bb : Bool} (hbb : b.isNil = bb) (hd : b.depth ≤ 20) (hu : A.units + 64 < cLine) (h : Q (.bool (!bb)) s) :
    wpAny (model prog w) A (compareOp .NotEq (.ref lb) (.ref l2)) Q E s := by
  obtain ⟨as, ha⟩ := (h3.mono fun b o _ _ e => F.keep b o e : RowIn (fun b o => s.heap.get? b = some o) vb b).reads
  have ra := reads_list_at (F.keep _ _ h2) rfl rfl ha
  have rb := reads_list_at (xs := []) (N _ he).1 rfl rfl .nil
  have hl : (PyData.list b.dat).canLay0 = true := by simp only [PyData.canLay0, Row.dat_lay]
  have hs : SeqAt.shaped (.list b.dat) = true := by
    have := Row.dat_depth b
    have hd2 : (PyData.list b.dat).depth ≤ 64 := by simp only [PyData.depth]; omega
    unfold SeqAt.shaped
    rw [hl, decide_eq_true hd2]; rfl
  subst hbb
  refine ne_dataH ra rb hs rfl hu ?_
  cases b with
  | nil => exact h
  | cons n b r => exact h
end
section
variable {w : World} {p : Program} {loose : List Str} {mean : ExcName → Option Value} {mg mb : Str → Option Value}
theorem call_step {dp un : Nat} {gd : Option (List Code)} {cn : Str} {cs : Scope} {a : Addr} {ccd : Value} {cl : List (Str × Addr)} {outer : List Env} {A₀ : Around} {base h₀ : Heap} {L : Addr} {m : Str → Option Value} {s : Shared} {Q E : Value → Shared → Prop} {x dx it l : Nat} {od io lo : Obj} {S : LS} {v : Value} {vs : List Value} {k : Nat} {news r1 r2 r3 : List (Addr × Obj)}
   (B : Below A₀ base outer h₀) (F : Fr h₀ L s.heap m) (X : (hd.heap_39 w.params).In h₀) (T : Top p loose mean mg mb h₀) (hk : cs.kind = .function) (hdp : dp + 50 < recursionLimit) (hun : un + 100 < cLine) (N : News h₀ L s.heap news) (D1 : Del x (instObj 255 dx) news r1) (D2 : Del dx od r1 r2) (D3 : Del it io r2 r3) (hS : LoopSt it l od io lo S (v :: vs) k) (hits : ItemsIn h₀ (v :: vs)) (hc : ∃ c : Nat, S.cur = .ref c) (hl : s.heap.get? l = some lo) (h1 : x ≠ dx) (h2 : x ≠ it) (h3 : dx ≠ it) (hlx : l ≠ x) (hld : l ≠ dx) (hli : l ≠ it)
   (ret : ∀ (q : Nat) od' io' h' tk', LoopSt it l od' io' lo { S with aft := .ref 92, idx := S.idx + 1, bef := S.cur, cur := v } vs k → AllNe q news → Fr h₀ L h' m → News h₀ L h' ((q, tupOf #[v, .ref x] 0) :: (x, instObj 255 dx) :: (dx, od') :: (it, io') :: r3) → Q (.ref q) { s with heap := h', toks := tk' }) :
   wpAny (model PySem.Challenge.rw_bb0046_01.row.prog w) (ktrTop dp un gd cn cs L a ccd cl outer) (call (.ref 266) [.ref x]) Q E s := by
  obtain ⟨m1, q1⟩ := D1.mem
  obtain ⟨m2, q2⟩ := D2.mem
  obtain ⟨m3, q3⟩ := D3.mem
  obtain ⟨c, hc⟩ := hc
  refine step_spec B F X T hk hdp hun (nw_cons N m1 (nw_two N (q1 _ m2).1 (q1 _ (q2 _ m3).1).1)) hS hits ⟨c, hc⟩ hl h1 h2 h3 hlx hld hli fun q od' io' h' tk' a1 a2 a3 a4 a5 => ret q od' io' h' tk' a1 (allNe_of a2 N) a3 (nw_after N a4 a5 fun z hz => ⟨(q1 _ (q2 _ (q3 _ hz).1).1).1, ?_⟩)
  simp only [List.mem_cons, List.not_mem_nil, or_false, not_or]
  exact ⟨(q1 _ (q2 _ (q3 _ hz).1).1).2, (q2 _ (q3 _ hz).1).2, (q3 _ hz).2⟩
end
end

/-! ## MZ -/
theorem FnAt_keep {q : Addr} {h h' : Heap} (X : FnAt q h) (k : ∀ b o, h.get? b = some o → h'.get? b = some o) : FnAt q h' := let ⟨oc, od, fd, sl, e⟩ := X; ⟨oc, od, fd, sl, k _ _ e⟩
/-- what stands at `h`, but for the draws and the list written to -/
abbrev TreeP (h : Heap) (d n lout : Nat) : Addr → Obj → Prop := fun b o => h.get? b = some o ∧ (b : Nat) ≠ d ∧ (b : Nat) ≠ n ∧ (b : Nat) ≠ lout
/-- the contract of `_law_walk`, and of the closure that calls it: `f` is the call -/
def WSpec (w : World) (p : Program) (loose : List Str) (mean : ExcName → Option Value) (mg mb : Str → Option Value) (as : List (Addr × Obj)) (d n lout : Nat) (f : Nat → Int → Tok → Code) (ex k : Nat) : Prop := ∀ {dp un : Nat} {gd : Option (List Code)} {cn : Str} {cs : Scope} {a : Addr} {ccd : Value} {cl : List (Str × Addr)} {outer : List Env} {A₀ : Around} {base g₀ h₀ : Heap} {L : Addr} {m : Str → Option Value} {s : Shared} {R' : Result → Shared → Prop} {lr ep eo : Nat} {vs ws : List Value} {R : Row} {deep : Int} {td : Tok} {o1 o2 : Obj}
   (Γ : Gr w p loose mean mg mb A₀ base outer h₀) (T0 : KtsTurn (fsOf outer) g₀ h₀) (F : Fr h₀ L s.heap m) (hk : cs.kind = .function) (hdep : R.depth ≤ k) (hsz : ws.length + R.size ≤ 500) (hdp : dp + 150 + ex + 20 * k < recursionLimit) (hun : un + 1000 + 2 * ex + 200 * k < cLine)
   (N : News h₀ L s.heap [(d, o1), (n, o2), (lout, listOf ws.toArray eo)]) (hdist : Dist [(d, o1), (n, o2), (lout, listOf ws.toArray eo)]) (hD : DrawsObj n o1 o2) (has : ∀ q ∈ as, TreeP s.heap d n lout q.1 q.2)
   (hlr : TreeP s.heap d n lout lr (listOf vs.toArray ep)) (hR : RowIn (TreeP s.heap d n lout) vs R)
   (ret : ∀ h₀' o1' o2' eo' wn h' tk', OutIn (fun b o => h'.get? b = some o ∧ s.heap.get? b = none) wn (R.flat deep) → DrawsObj n o1' o2' → KtsTurn (fsOf outer) g₀ h₀' → Gr w p loose mean mg mb A₀ base outer h₀' → Fr h₀' L h' m → News h₀' L h' [(d, o1'), (n, o2'), (lout, listOf (ws ++ wn).toArray eo')] →
     KeepsF [d, n, lout] (L :: fsOf outer) s.heap h' → R' (.ok (.ret (.bool true))) { s with heap := h', toks := tk' }),
   codeAny (model PySem.Challenge.rw_bb0046_01.row.prog w) (ktrTop dp un gd cn cs L a ccd cl outer) (f lr deep td) R' s
abbrev againCall (ag : Nat) : Nat → Int → Tok → Code := fun lr deep td => .call (.ref ag) ⟨[.ref lr, .ref ag], [("depth", .int deep td)]⟩
section
variable {M : Model} {A : Around} {E : Value → Shared → Prop} {s : Shared} {env : Env} {pos : Pos} {first : List Value} {Q : Value → Shared → Prop} {q : Addr}
theorem callWith_KWF {e : Expr} {rest : List Expr} {kws : List Keyword} (_X : FnAt q s.heap) (hall : (backToKw pos (keywordEach kws env)).all (·.1.isSome) = true)
    (h : wpAny M A (spliced (backTo pos (starEach (e :: rest) env))) (fun vs s₁ => wpAny M A (evalAll ((backToKw pos (keywordEach kws env)).map (·.2)))
      (fun ks s₂ => FnAt q s₂.heap ∧ wpAny M A (call (.ref q) (first ++ vs) (((backToKw pos (keywordEach kws env)).filterMap (·.1)).zip ks)) Q E s₂) E s₁) E s)
    (hplain : ((backTo pos (starEach (e :: rest) env)).any (·.1) || (backToKw pos (keywordEach kws env)).any (·.1.isNone)) = false := by rfl) (he : starEach (e :: rest) env = (false, eval e env) :: starEach rest env := by rfl) :
    wpAny M A (callWith pos (.ref q) first (backTo pos (starEach (e :: rest) env)) (backToKw pos (keywordEach kws env))) Q E s :=
  callWith_of hplain keeps_F (evalArgs_kw2 hall h he)
end
section
variable {w : World} {p : Program} {loose : List Str} {mean : ExcName → Option Value} {mg mb : Str → Option Value}
theorem call_again {as : List (Addr × Obj)} {d n lout ag j : Nat} (IH : WSpec w p loose mean mg mb as d n lout (againCall ag) 5 j) {dp un : Nat} {gd : Option (List Code)} {cn : Str} {cs : Scope} {a : Addr} {ccd : Value} {cl : List (Str × Addr)} {outer : List Env} {A₀ : Around} {base g₀ h₀ : Heap} {L : Addr} {m : Str → Option Value} {s : Shared} {Q E : Value → Shared → Prop} {lr ep eo : Nat} {vs ws : List Value} {R : Row} {deep : Int} {td : Tok} {o1 o2 : Obj} {news r1 r2 r3 : List (Addr × Obj)}
   (Γ : Gr w p loose mean mg mb A₀ base outer h₀) (T0 : KtsTurn (fsOf outer) g₀ h₀) (F : Fr h₀ L s.heap m) (hk : cs.kind = .function) (hdep : R.depth ≤ j) (hsz : ws.length + R.size ≤ 500) (hdp : dp + 150 + 5 + 20 * j < recursionLimit) (hun : un + 1000 + 2 * 5 + 200 * j < cLine)
   (N : News h₀ L s.heap news) (D1 : Del d o1 news r1) (D2 : Del n o2 r1 r2) (D3 : Del lout (listOf ws.toArray eo) r2 r3) (hdist : Dist [(d, o1), (n, o2), (lout, listOf ws.toArray eo)]) (hD : DrawsObj n o1 o2) (has : ∀ q ∈ as, h₀.get? q.1 = some q.2)
   (hlr : h₀.get? lr = some (listOf vs.toArray ep)) (hR : RowIn (fun b o => h₀.get? b = some o) vs R)
   (ret : ∀ h₀' o1' o2' eo' wn h' tk', OutIn (fun b o => h'.get? b = some o ∧ s.heap.get? b = none) wn (R.flat deep) → DrawsObj n o1' o2' → KtsTurn (fsOf outer) g₀ h₀' → KtsTurn (fsOf outer) h₀ h₀' → Gr w p loose mean mg mb A₀ base outer h₀' → Fr h₀' L h' m → News h₀' L h' ((d, o1') :: (n, o2') :: (lout, listOf (ws ++ wn).toArray eo') :: r3) →
     KeepsF [d, n, lout] (L :: fsOf outer) s.heap h' → Q (.bool true) { s with heap := h', toks := tk' }) :
   wpAny (model PySem.Challenge.rw_bb0046_01.row.prog w) (ktrTop dp un gd cn cs L a ccd cl outer) (call (.ref ag) [.ref lr, .ref ag] [("depth", .int deep td)]) Q E s := by
  obtain ⟨m1, q1⟩ := D1.mem
  obtain ⟨m2, q2⟩ := D2.mem
  obtain ⟨m3, q3⟩ := D3.mem
  have up : ∀ b o, h₀.get? b = some o → TreeP s.heap d n lout b o := fun b o e => by
    refine ⟨F.keep _ _ e, fun z => ?_, fun z => ?_, fun z => ?_⟩
    · have := (N _ m1).2.2; rw [show ((d, o1) : Addr × Obj).1 = b from z.symm, e] at this; cases this
    · have := (N _ (q1 _ m2).1).2.2; rw [show ((n, o2) : Addr × Obj).1 = b from z.symm, e] at this; cases this
    · have := (N _ (q1 _ (q2 _ m3).1).1).2.2; rw [show ((lout, listOf ws.toArray eo) : Addr × Obj).1 = b from z.symm, e] at this; cases this
  refine wpAny_call (IH (g₀ := h₀) Γ KtsTurn.refl F hk hdep hsz hdp hun (nw_cons N m1 (nw_two N (q1 _ m2).1 (q1 _ (q2 _ m3).1).1)) hdist hD (fun q hq => up _ _ (has q hq)) (up _ _ hlr) (hR.mono fun b o _ _ e => up b o e)
    fun h₀' o1' o2' eo' wn h' tk' a1 a2 a3 a4 a5 a6 a7 => ret h₀' o1' o2' eo' wn h' tk' a1 a2 (T0.trans a3) a3 a4 a5 (nwF_after N Γ.D a3 a6 a7 fun z hz => ⟨(q1 _ (q2 _ (q3 _ hz).1).1).1, ?_⟩) a7)
  simp only [List.mem_cons, List.not_mem_nil, or_false, not_or]
  exact ⟨(q1 _ (q2 _ (q3 _ hz).1).1).2, (q2 _ (q3 _ hz).1).2, (q3 _ hz).2⟩
end
section
local macro_rules | `(tactic| walk_at "callWith ref") => `(tactic| (k_here; (with_reducible show wpAny _ _ (callWith _ (Value.ref _) _ _ (backToKw _ _)) _ _ _); (rename FnAt _ _ => fnX); k_dflt ((first | with_reducible refine' callWith_KWF ?X ?hall ?_ | refine' callWith_KWF ?X ?hall ?_); (case X => exact FnAt_keep fnX (Fr.keep (by k_asm))); (case hall => exact rfl); k_whole)))
local macro_rules | `(tactic| walk_at "And") => `(tactic| ((with_reducible show FnAt _ _ ∧ _); (rename FnAt _ _ => fnX); refine ⟨FnAt_keep fnX (Fr.keep (by k_asm)), ?_⟩; try dsimp only [List.nil_append, List.cons_append]))
theorem reset_MZ : True := by
  w_top off
  trivial
section
variable {w : World} {p : Program} {loose : List Str} {mean : ExcName → Option Value} {mg mb : Str → Option Value}
theorem loopcall_spec {as : List (Addr × Obj)} {d n lout ag j : Nat} (IH : WSpec w p loose mean mg mb as d n lout (againCall ag) 5 j) (hag : ∃ oc od fd sl, (ag, (⟨oc, od, .func fd, sl⟩ : Obj)) ∈ as) (asOk : ∀ q ∈ as, ∀ es n, q.2.data ≠ .dict es n)
   {dp un : Nat} {gd : Option (List Code)} {cn : Str} {cs : Scope} {a : Addr} {ccd : Value} {cl : List (Str × Addr)} {outer : List Env} {A₀ : Around} {base g₀ h₀ : Heap} {L : Addr} {m : Str → Option Value} {s : Shared} {R' : Result → Shared → Prop} {lr ep eo x dx kd : Nat} {es : List DictEntry} {S : LS} {vs ws : List Value} {R : Row} {deep : Int} {o1 o2 : Obj}
   (Γ : Gr w p loose mean mg mb A₀ base outer h₀) (T0 : KtsTurn (fsOf outer) g₀ h₀) (F : Fr h₀ L s.heap m) (hk : cs.kind = .function) (hdep : R.depth ≤ j) (hsz : ws.length + R.size ≤ 500) (hdp : dp + 160 + 20 * j < recursionLimit) (hun : un + 1050 + 200 * j < cLine)
   (N : News h₀ L s.heap [(d, o1), (n, o2), (lout, listOf ws.toArray eo), (x, instObj 255 dx), (dx, dictOf es kd)]) (hdist : Dist [(d, o1), (n, o2), (lout, listOf ws.toArray eo), (x, instObj 255 dx), (dx, dictOf es kd)]) (hD : DrawsObj n o1 o2) (hL : LoopD es S) (hag2 : S.again = .ref ag) (hdS : S.depth = deep)
   (has : ∀ q ∈ as, h₀.get? q.1 = some q.2) (hlr : h₀.get? lr = some (listOf vs.toArray ep)) (hR : RowIn (fun b o => h₀.get? b = some o) vs R)
   (ret : ∀ h₀' o1' o2' eo' wn h' tk', OutIn (fun b o => h'.get? b = some o ∧ s.heap.get? b = none) wn (R.flat (deep + 1)) → DrawsObj n o1' o2' → KtsTurn (fsOf outer) g₀ h₀' → Gr w p loose mean mg mb A₀ base outer h₀' → Fr h₀' L h' m → News h₀' L h' [(d, o1'), (n, o2'), (lout, listOf (ws ++ wn).toArray eo'), (x, instObj 255 dx), (dx, dictOf es kd)] →
     KeepsF [d, n, lout, x, dx] (L :: fsOf outer) s.heap h' → R' (.ok (.ret (.bool true))) { s with heap := h', toks := tk' }) :
   codeAny (model PySem.Challenge.rw_bb0046_01.row.prog w) (ktrTop dp un gd cn cs L a ccd cl outer) (.call (.ref 245) ⟨[.ref x, .ref lr], []⟩) R' s := by
  obtain ⟨iterable, itor, again, depth, idx, len, aft, cur, bef, lcv⟩ := S
  dsimp only at hag2 hdS
  subst hag2 hdS
  simp only [Dist, AllNe, and_true] at hdist
  obtain ⟨⟨d1, d2, d3, d4⟩, ⟨e1, e2, e3⟩, ⟨f1, f2⟩, k1⟩ := hdist
  refine' enterS Γ F N ?kA ?kF ?kK ?k6 ?k7 ?k8 ?k9 ?kB ?_ ?c2 ?c3 ?c4 ?c5
  case kA => exact rfl
  case kF => exact rfl
  case kK => assumption
  case k6 => k_is
  case k7 => k_is
  case k8 => k_room
  case k9 => first | exact BindsTo.of_eq rfl | exact binds_K (by k_in) rfl (by k_is) rfl rfl rfl
  case c5 => decide
  case kB => exact locs rfl
  case c2 => exact rfl
  case c3 => exact rfl
  case c4 => exact rfl
  intro g' L' h' FG' F' N' Γ' G'
  obtain ⟨B', X', T', XB', TB', D'⟩ := Γ'
  try dsimp only
  try k_fold
  have up : ∀ b o, h₀.get? b = some o → g'.get? b = some o := fun b o e => G' _ _ (F.keep _ _ e) fun hm => by
    obtain ⟨z, hz, e2⟩ := List.mem_map.mp hm
    have := (N z hz).2.2
    rw [e2, e] at this; cases this
  obtain ⟨foc, fod, ffd, fsl, hfn⟩ := hag
  have fnX : FnAt ag g' := ⟨_, _, _, _, up _ _ (has _ hfn)⟩
  k_steps
  have Γ' : Gr w p loose mean mg mb (ktrTop dp un gd cn cs L a ccd cl outer) base (envX cn cs L a ccd cl :: outer) g' := ⟨B', X', T', XB', TB', D'⟩
  (rename Fr g' L' _ _ => kF)
  (rename News g' L' _ _ => kN)
  k_dflt (refine' call_again (outer := envX cn cs L a ccd cl :: outer) (deep := depth + 1) IH ?G ?T0 ?F ?kk ?dep ?sz ?dp ?un ?N ?D1 ?D2 ?D3 ?di ?dr ?as ?hl ?hR ?_)
  case G => exact Γ'
  case T0 => exact KtsTurn.refl
  case F => exact kF
  case kk => exact rfl
  case dep => exact hdep
  case sz => exact hsz
  case dp => ((try dsimp only [ktrTop]); omega)
  case un => ((try simp only [units_in1, units_deeper, Around.mark_units, units_caller]); (try dsimp only [ktrTop]); omega)
  case N => exact kN
  case dr => exact hD
  case D1 => (repeat' ((with_reducible show Del _ _ _ _); first | (refine' Del.head ?_; k_all) | (refine' Del.tail (by k_ne) ?_)))
  case D2 => (repeat' ((with_reducible show Del _ _ _ _); first | (refine' Del.head ?_; k_all) | (refine' Del.tail (by k_ne) ?_)))
  case D3 => (repeat' ((with_reducible show Del _ _ _ _); first | (refine' Del.head ?_; k_all) | (refine' Del.tail (by k_ne) ?_)))
  case di => (simp only [Dist, AllNe, and_true]; exact ⟨⟨d1, d2⟩, e1⟩)
  case as => exact fun q hq => up _ _ (has q hq)
  case hl => exact up _ _ hlr
  case hR => exact hR.mono fun b o _ _ e => up b o e
  intro g2 o12 o22 eo2 wn h2 tk2 hO hD2 T2 T3 Γ2 F2 N2 K2
  obtain ⟨B2, X2, P2, XB2, TB2, D2⟩ := Γ2
  have hO2 : OutIn (fun b o => h2.get? b = some o ∧ s.heap.get? b = none) wn (R.flat (depth + 1)) := hO.mono fun b its nn z => ⟨z.1, by
    cases e : s.heap.get? b with
    | none => rfl
    | some o =>
      exfalso
      by_cases hm : b ∈ List.map (fun x => x.1) [(d, o1), (n, o2), (lout, listOf ws.toArray eo), (x, instObj 255 dx), (dx, dictOf es kd)]
      · obtain ⟨q, hq, rfl⟩ := List.mem_map.mp hm
        have := (kN q hq).1
        rw [z.2] at this; cases this
      · have := kF.keep _ _ (G' _ _ e hm)
        rw [z.2] at this; cases this⟩
  clear kF kN
  k_steps
  (rename KtsTurn _ h₀ _ => kT)
  (rename Fr _ L _ m => kF)
  (rename News _ L _ _ => kN)
  exact ret _ o12 o22 eo2 wn _ _ hO2 hD2 (T0.trans kT) ⟨by assumption, by assumption, by assumption, XB', TB', by assumption⟩ kF (nw_sub kN fun q hq => by
    simp only [List.mem_cons, List.not_mem_nil, or_false] at hq ⊢
    rcases hq with e | e | e | e | e <;> simp [e]) (keepsF_of G' T2 F2)
end

/-! ## MZA -/
theorem OutIn.ledger {P : Addr → Obj → Prop} {vs : List Value} {xs : List (Int × Int)} (h : OutIn P vs xs) : ∃ fz : List (Addr × Obj), OutIn (fun b o => (b, o) ∈ fz) vs xs ∧ ∀ q ∈ fz, P q.1 q.2 := by
  induction h with
  | nil => exact ⟨[], .nil, fun q hq => nomatch hq⟩
  | @cons t a b ta tb vs xs h1 _ ih =>
    obtain ⟨fz, h2, h3⟩ := ih
    refine ⟨(t, tupOf #[.int a ta, .int b tb] 0) :: fz, .cons (.head _) (h2.mono fun _ _ _ z => .tail _ z), fun q hq => ?_⟩
    rcases List.mem_cons.mp hq with rfl | hq
    · exact h1
    · exact h3 q hq
section
variable {w : World} {p : Program} {loose : List Str} {mean : ExcName → Option Value} {mg mb : Str → Option Value}
theorem again_at {as : List (Addr × Obj)} {d n lout ag j : Nat} (IH : WSpec w p loose mean mg mb as d n lout (againCall ag) 5 j) (hag : ∃ oc od fd sl, (ag, (⟨oc, od, .func fd, sl⟩ : Obj)) ∈ as) (asOk : ∀ q ∈ as, ∀ es n, q.2.data ≠ .dict es n)
    {dp un : Nat} {gd : Option (List Code)} {cn : Str} {cs : Scope} {a : Addr} {ccd : Value} {cl : List (Str × Addr)} {outer : List Env} {A₀ : Around} {base ge g h : Heap} {L : Addr} {m : Str → Option Value} {s : Shared} {Q E : Value → Shared → Prop}
    {lb x dx la epb i tk : Nat} {vs ws vb : List Value} {b : Row} {deep : Int} {xs : List (Int × Int)} {pre : List (Addr × Obj)}
    (H : WSt w p loose mean mg mb A₀ base outer L ge d n lout ag x dx la vs ws deep i xs pre g h m) (hk : cs.kind = .function) (hdp : dp + 160 + 20 * j < recursionLimit) (hun : un + 1050 + 200 * j < cLine)
    (hge : KtsDicts (fsOf outer) ge) (has : ∀ q ∈ as, ge.get? q.1 = some q.2) (hlb : ge.get? lb = some (listOf vb.toArray epb)) (hR : RowIn (fun b o => ge.get? b = some o) vb b) (hdep : b.depth ≤ j) (hsz : ws.length + xs.length + b.size ≤ 500)
    (ret : ∀ g' h' tk', WSt w p loose mean mg mb A₀ base outer L ge d n lout ag x dx la vs ws deep i (xs ++ b.flat (deep + 1)) pre g' h' m → Q (.bool true) { s with heap := h', toks := tk' }) :
    wpAny (model PySem.Challenge.rw_bb0046_01.row.prog w) (ktrTop dp un gd cn cs L a ccd cl outer) (call (.ref x) [.ref lb]) Q E { s with heap := h, toks := tk } := by
  obtain ⟨o1, o2, eo, wn, it, l, od, io, lo, ola, S, last, fz, H⟩ := H
  obtain ⟨es, kd, rfl, hL⟩ := H.st.dict
  have kg : ∀ {b : Addr} {o : Obj}, (∀ es n, o.data ≠ .dict es n) → ge.get? b = some o → g.get? b = some o := fun hn e => H.turn.other _ _ e (notFrame hge e hn)
  have hol := H.out.length
  have inled : ∀ {q : Addr × Obj}, q ∈ sev d n lout x dx it la o1 o2 (listOf (ws ++ wn).toArray eo) (dictOf es kd) io ola → q ∈ pre ++ (sev d n lout x dx it la o1 o2 (listOf (ws ++ wn).toArray eo) (dictOf es kd) io ola ++ fz) := mem_sev
  have N5 : News g L h [(d, o1), (n, o2), (lout, listOf (ws ++ wn).toArray eo), (x, instObj 255 dx), (dx, dictOf es kd)] := nw_sub H.N fun q hq => mem_sev (by
    simp only [List.mem_cons, List.not_mem_nil, or_false] at hq ⊢
    rcases hq with e | e | e | e | e <;> simp [e])
  have hdist := H.dist
  simp only [sev, Dist, AllNe, and_true] at hdist
  obtain ⟨⟨d1, d2, d3, d4, d5, d6⟩, ⟨e1, e2, e3, e4, e5⟩, ⟨f1, f2, f3, f4⟩, ⟨k1, k2, k3⟩, ⟨j1, j2⟩, i1⟩ := hdist
  have IX : InstAt h x (instObj 255 dx) 255 (some (dictOf es kd)) := InstAt.of_news N5 (.tail _ (.tail _ (.tail _ (.head _)))) (.tail _ (.tail _ (.tail _ (.tail _ (.head _)))))
  refine wpAny_call (kco_code (C := 255) (K := hd.heap_39 w.params) (f := 245) (H.gr.X.keeps H.F.keep) IX rfl (by k_is) (by k_is) (by k_is) ?_)
  refine loopcall_spec IH hag asOk (s := { s with heap := h, toks := tk }) (g₀ := g) H.gr KtsTurn.refl H.F hk hdep (by rw [List.length_append]; omega) hdp hun N5 ?_ H.draws hL H.ag H.dep (fun q hq => kg (asOk q hq) (has q hq)) (kg (fun _ _ z => by cases z) hlb) (hR.mono fun b o _ hn e => kg hn e) ?_
  · simp only [Dist, AllNe, and_true]
    exact ⟨⟨d1, d2, d3, d4⟩, ⟨e1, e2, e3⟩, ⟨f1, f2⟩, k1⟩
  · intro g' o1' o2' eo' wn' h' tk' hO hD' T' Γ' F' N' K'
    obtain ⟨fz2, hO2, hfz2⟩ := hO.ledger
    refine ret g' h' tk' ?_
    have stay : ∀ z ∈ pre ++ (sev d n lout x dx it la o1 o2 (listOf (ws ++ wn).toArray eo) (dictOf es kd) io ola ++ fz), z.1 ∉ [d, n, lout, x, dx] → h'.get? z.1 = some z.2 ∧ z.1 ≠ L ∧ g'.get? z.1 = none := fun z hz hn =>
      nwF_after (rest := [z]) H.N H.gr.D T' N' K' (fun q hq => by rw [List.mem_singleton.mp hq]; exact ⟨hz, hn⟩) z (List.mem_append_right _ (.head _))
    have fz5 : ∀ z ∈ fz, z.1 ∉ [d, n, lout, x, dx] := fun z hz => by
      have ap : ∀ {q : Addr × Obj}, q ∈ sev d n lout x dx it la o1 o2 (listOf (ws ++ wn).toArray eo) (dictOf es kd) io ola → z.1 ≠ q.1 := fun hq => allNe_mem (H.apf _ hq) z hz
      simp only [List.mem_cons, List.not_mem_nil, or_false, not_or]
      exact ⟨ap (.head _), ap (.tail _ (.head _)), ap (.tail _ (.tail _ (.head _))), ap (.tail _ (.tail _ (.tail _ (.head _)))), ap (.tail _ (.tail _ (.tail _ (.tail _ (.head _)))))⟩
    have pre5 : ∀ z ∈ pre, z.1 ∉ [d, n, lout, x, dx] := fun z hz => by
      have ap : ∀ {q : Addr × Obj}, q ∈ sev d n lout x dx it la o1 o2 (listOf (ws ++ wn).toArray eo) (dictOf es kd) io ola → z.1 ≠ q.1 := fun hq e => allNe_mem (H.app z hz) _ (List.mem_append_left _ hq) e.symm
      simp only [List.mem_cons, List.not_mem_nil, or_false, not_or]
      exact ⟨ap (.head _), ap (.tail _ (.head _)), ap (.tail _ (.tail _ (.head _))), ap (.tail _ (.tail _ (.tail _ (.head _)))), ap (.tail _ (.tail _ (.tail _ (.tail _ (.head _)))))⟩
    -- a new pair lies apart from all that stood
    have nw : ∀ z ∈ fz2, ∀ q ∈ pre ++ (sev d n lout x dx it la o1 o2 (listOf (ws ++ wn).toArray eo) (dictOf es kd) io ola ++ fz), z.1 ≠ q.1 := fun z hz q hq e => by
      have := (H.N q hq).1
      rw [← e, (hfz2 z hz).2] at this; cases this
    have nwk : ∀ z ∈ fz2, h'.get? z.1 = some z.2 ∧ z.1 ≠ L ∧ g'.get? z.1 = none := fun z hz => by
      have := hfz2 z hz
      obtain ⟨q1, q2⟩ := this
      refine ⟨q1, fun e => ?_, T'.none_ _ ?_⟩
      · obtain ⟨oL, _, _, hL', _⟩ := H.F.ns
        rw [← e, show h.get? z.1 = none from q2] at hL'; cases hL'
      · cases e : g.get? z.1 with
        | none => rfl
        | some o => have := H.F.keep _ _ e; rw [show h.get? z.1 = none from q2] at this; cases this
    have sevne : ∀ {q : Nat}, (∀ z ∈ sev d n lout x dx it la o1 o2 (listOf (ws ++ wn).toArray eo) (dictOf es kd) io ola, q ≠ z.1) → ∀ z ∈ sev d n lout x dx it la o1' o2' (listOf (ws ++ wn ++ wn').toArray eo') (dictOf es kd) io ola, q ≠ z.1 := fun {q} hq z hz => by
      simp only [sev, List.mem_cons, List.not_mem_nil, or_false] at hz
      rcases hz with rfl | rfl | rfl | rfl | rfl | rfl | rfl
      · exact hq (d, o1) (.head _)
      · exact hq (n, o2) (.tail _ (.head _))
      · exact hq (lout, listOf (ws ++ wn).toArray eo) (.tail _ (.tail _ (.head _)))
      · exact hq _ (.tail _ (.tail _ (.tail _ (.head _))))
      · exact hq _ (.tail _ (.tail _ (.tail _ (.tail _ (.head _)))))
      · exact hq _ (.tail _ (.tail _ (.tail _ (.tail _ (.tail _ (.head _))))))
      · exact hq _ (.tail _ (.tail _ (.tail _ (.tail _ (.tail _ (.tail _ (.head _)))))))
    rw [List.append_assoc] at N' sevne
    refine ⟨o1', o2', eo', wn ++ wn', it, l, dictOf es kd, io, lo, ola, S, last, fz2 ++ fz, H.turn.trans T', Γ', F', ?_, ?_, ?_, ?_, hD', H.lst, H.st, ?_, H.nd, ?_, ?_, H.idx, H.dep, H.ag, H.cur, H.bef, (H.out.mono fun _ _ _ z => List.mem_append_right fz2 z).app (hO2.mono fun _ _ _ z => List.mem_append_left fz z)⟩
    · intro q hq
      rcases List.mem_append.mp hq with hq | hq
      · exact stay q (List.mem_append_left _ hq) (pre5 q hq)
      rcases List.mem_append.mp hq with hq | hq
      · simp only [sev, List.mem_cons, List.not_mem_nil, or_false] at hq
        rcases hq with rfl | rfl | rfl | rfl | rfl | rfl | rfl
        · exact N' _ (.head _)
        · exact N' _ (.tail _ (.head _))
        · exact N' _ (.tail _ (.tail _ (.head _)))
        · exact N' _ (.tail _ (.tail _ (.tail _ (.head _))))
        · exact N' _ (.tail _ (.tail _ (.tail _ (.tail _ (.head _)))))
        · refine stay (it, io) (inled (.tail _ (.tail _ (.tail _ (.tail _ (.tail _ (.head _))))))) ?_
          simp only [List.mem_cons, List.not_mem_nil, or_false, not_or]
          exact ⟨d5, e4, f3, k2, j1⟩
        · refine stay (la, ola) (inled (.tail _ (.tail _ (.tail _ (.tail _ (.tail _ (.tail _ (.head _)))))))) ?_
          simp only [List.mem_cons, List.not_mem_nil, or_false, not_or]
          exact ⟨d6, e5, f4, k3, j2⟩
      rcases List.mem_append.mp hq with hq | hq
      · exact nwk q hq
      · exact stay q (List.mem_append_right _ (List.mem_append_right _ hq)) (fz5 q hq)
    · simp only [sev, Dist, AllNe, and_true]
      exact ⟨⟨d1, d2, d3, d4, d5, d6⟩, ⟨e1, e2, e3, e4, e5⟩, ⟨f1, f2, f3, f4⟩, ⟨k1, k2, k3⟩, ⟨j1, j2⟩, i1⟩
    · refine fun q hq => allNe_mk fun z hz => ?_
      rcases List.mem_append.mp hz with hz | hz
      · exact sevne (fun y hy => nw z hz y (inled hy)) q hq
      · exact sevne (fun y hy => allNe_mem (H.apf y hy) z hz) q hq
    · intro y hy
      refine allNe_mk fun q hq => ?_
      rcases List.mem_append.mp hq with hq | hq
      · exact fun e => sevne (fun z hz e => allNe_mem (H.app y hy) z (List.mem_append_left _ hz) e.symm) q hq e.symm
      rcases List.mem_append.mp hq with hq | hq
      · exact nw q hq y (List.mem_append_left _ hy)
      · exact allNe_mem (H.app y hy) q (List.mem_append_right _ hq)
    · exact H.kl.imp (fun e => T'.other _ _ e (notFrame H.gr.D e H.nd)) fun q => List.mem_append_right _ q
    · have := H.lne
      simp only [sev, AllNe, and_true] at this ⊢
      exact this
    · have := H.lcv
      cases hl : last with
      | none => rw [hl] at this; exact this
      | some v =>
        rw [hl] at this
        obtain ⟨tv, tt, q1, q2, q3⟩ := this
        exact ⟨tv, tt, q1, q2, q3.imp (fun e => T'.other _ _ e (notFrame H.gr.D e fun _ _ z => by cases z)) fun q => List.mem_append_right _ q⟩
theorem ended_at {dp un : Nat} {gd : Option (List Code)} {cn : Str} {cs : Scope} {a : Addr} {ccd : Value} {cl : List (Str × Addr)} {outer : List Env} {A₀ : Around} {base ge g h : Heap} {L : Addr} {m : Str → Option Value} {s : Shared} {Q E : Value → Shared → Prop}
    {d n lout ag x dx la i tk : Nat} {vs ws : List Value} {deep : Int} {xs : List (Int × Int)}
    (H : WSt w p loose mean mg mb A₀ base outer L ge d n lout ag x dx la vs ws deep i xs [] g h m) (hi : i = vs.length) (hk : cs.kind = .function) (hdp : dp + 30 < recursionLimit) (hun : un + 100 < cLine)
    (ret : ∀ g' h' tk' o1 o2 eo wn fz, KtsTurn (fsOf outer) ge g' → Gr w p loose mean mg mb A₀ base outer g' → Fr g' L h' m → News g' L h' ((d, o1) :: (n, o2) :: (lout, listOf (ws ++ wn).toArray eo) :: fz) → (∀ q ∈ fz, q.1 ≠ d ∧ q.1 ≠ n ∧ q.1 ≠ lout) → DrawsObj n o1 o2 → OutIn (fun b o => (b, o) ∈ fz) wn xs → Q (.bool true) { s with heap := h', toks := tk' }) :
    wpAny (model PySem.Challenge.rw_bb0046_01.row.prog w) (ktrTop dp un gd cn cs L a ccd cl outer) (call (.ref 433) [.ref x]) Q E { s with heap := h, toks := tk } := by
  obtain ⟨o1, o2, eo, wn, it, l, od, io, lo, ola, S, last, fz, H⟩ := H
  have hdist := H.dist
  simp only [sev, Dist, AllNe, and_true] at hdist
  obtain ⟨⟨d1, d2, d3, d4, d5, d6⟩, ⟨e1, e2, e3, e4, e5⟩, ⟨f1, f2, f3, f4⟩, ⟨k1, k2, k3⟩, ⟨j1, j2⟩, i1⟩ := hdist
  have hlne := H.lne
  simp only [sev, AllNe, and_true] at hlne
  obtain ⟨l1, l2, l3, l4, l5, l6, l7⟩ := hlne
  have hst := H.st
  rw [hi, List.drop_length] at hst
  have N3 : News g L h [(x, instObj 255 dx), (dx, od), (it, io)] := nw_sub H.N fun q hq => mem_sev (by
    simp only [List.mem_cons, List.not_mem_nil, or_false] at hq ⊢
    rcases hq with e | e | e <;> simp [e])
  refine wpAny_call (ended_spec (s := { s with heap := h, toks := tk }) (g₀ := g) H.gr KtsTurn.refl H.F hk hdp hun N3 hst (Known.at (H.kl.mono (news' := [] ++ (sev d n lout x dx it la o1 o2 (listOf (ws ++ wn).toArray eo) od io ola ++ fz)) fun q hq => List.mem_append_right _ (List.mem_append_right _ hq)) H.F H.N) H.nd
    (fun e => k1 e.symm) (fun e => k2 e.symm) (fun e => j1 e.symm) (fun e => l4 e.symm) (fun e => l5 e.symm) (fun e => l6 e.symm) fun g' h' tk' T' Γ' F' K' => ?_)
  refine ret g' h' tk' o1 o2 eo wn fz (H.turn.trans T') Γ' F' (fun q hq => ?_) (fun q hq => ?_) H.draws H.out
  · have ap : ∀ {z : Addr × Obj}, q ∈ fz → z ∈ sev d n lout x dx it la o1 o2 (listOf (ws ++ wn).toArray eo) od io ola → q.1 ≠ z.1 := fun h1 h2 => allNe_mem (H.apf _ h2) q h1
    refine nwF_after (t := []) (rest := [q]) H.N H.gr.D T' News.nil K' (fun z hz => ?_) q (.head _)
    rw [List.mem_singleton.mp hz]
    simp only [List.mem_cons, List.not_mem_nil, or_false, not_or]
    rcases List.mem_cons.mp hq with rfl | hq
    · exact ⟨mem_sev (.head _), fun e => d3 e.symm, fun e => d4 e.symm, fun e => d5 e.symm⟩
    rcases List.mem_cons.mp hq with rfl | hq
    · exact ⟨mem_sev (.tail _ (.head _)), fun e => e2 e.symm, fun e => e3 e.symm, fun e => e4 e.symm⟩
    rcases List.mem_cons.mp hq with rfl | hq
    · exact ⟨mem_sev (.tail _ (.tail _ (.head _))), fun e => f1 e.symm, fun e => f2 e.symm, fun e => f3 e.symm⟩
    · exact ⟨List.mem_append_right _ (List.mem_append_right _ hq), ap hq (.tail _ (.tail _ (.tail _ (.head _)))), ap hq (.tail _ (.tail _ (.tail _ (.tail _ (.head _))))), ap hq (.tail _ (.tail _ (.tail _ (.tail _ (.tail _ (.head _))))))⟩
  · have ap : ∀ {z : Addr × Obj}, z ∈ sev d n lout x dx it la o1 o2 (listOf (ws ++ wn).toArray eo) od io ola → q.1 ≠ z.1 := fun h2 => allNe_mem (H.apf _ h2) q hq
    exact ⟨ap (.head _), ap (.tail _ (.head _)), ap (.tail _ (.tail _ (.head _)))⟩
end
end

/-! ## MZB -/
/-- the names of the frame of `_law_walk` -/
structure WM (m : Str → Option Value) (d lr lout ag x la : Nat) (deep : Int) (td : Tok) : Prop where
  draws : m "draws" = some (.ref d)
  row : m "row" = some (.ref lr)
  deep : m "deep" = some (.int deep td)
  again : m "again" = some (.ref ag)
  out : m "out" = some (.ref lout)
  loop : m "loop" = some (.ref x)
  last : m "last" = some (.ref la)
theorem allNe_ne {d y : Nat} {o : Obj} {a : List (Addr × Obj)} (h : AllNe d a) (hm : (y, o) ∈ a) : d ≠ y := fun e => allNe_mem h _ hm e.symm
theorem Row.isNil_nil : ∀ {b : Row}, b.isNil = true → b = .nil
  | .nil, _ => rfl
theorem nw_head3 {g h : Heap} {L : Addr} {a b c : Addr × Obj} {r : List (Addr × Obj)} (N : News g L h (a :: b :: c :: r)) : News g L h [a, b, c] := nw_sub N fun q hq => by
  simp only [List.mem_cons, List.not_mem_nil, or_false] at hq ⊢
  rcases hq with e | e | e <;> simp [e]
theorem handed_dist {lr q : Nat} {vs : List Value} {nw : List (Addr × Obj)} (h : Handed lr vs q nw) : Dist nw := by
  cases h with
  | same => trivial
  | tup => exact ⟨trivial, trivial⟩
  | rev h => exact ⟨⟨Nat.ne_of_lt h, trivial⟩, trivial, trivial⟩
theorem walk_dist {d n lout lr q : Nat} {a b c a1 b1 c1 a2 b2 c2 : Obj} {vs : List Value} {nw : List (Addr × Obj)} (hd : Dist [(d, a), (n, b), (lout, c)]) (h : Handed lr vs q nw) (ha : Apart [(d, a1), (n, b1), (lout, c1)] nw) : Dist ([(d, a2), (n, b2), (lout, c2)] ++ nw) := by
  refine dist_app ?_ (handed_dist h) fun p hp => ?_
  · simp only [Dist, AllNe, and_true] at hd ⊢
    exact hd
  · simp only [List.mem_cons, List.not_mem_nil, or_false] at hp
    rcases hp with rfl | rfl | rfl
    · exact ha (d, a1) (.head _)
    · exact ha (n, b1) (.tail _ (.head _))
    · exact ha (lout, c1) (.tail _ (.tail _ (.head _)))
section
variable {w : World} {p : Program} {loose : List Str} {mean : ExcName → Option Value} {mg mb : Str → Option Value} {A₀ : Around} {base : Heap} {outer : List Env} {L : Addr} {ge : Heap} {d n lout ag x dx la : Nat} {vs ws : List Value} {deep : Int} {i : Nat} {xs : List (Int × Int)} {pre : List (Addr × Obj)} {g h : Heap} {m : Str → Option Value}
    {o1 o2 : Obj} {eo : Nat} {wn : List Value} {it l : Nat} {od io lo ola : Obj} {S : LS} {last : Option Int} {fz : List (Addr × Obj)}
theorem WSt.F (H : WSt w p loose mean mg mb A₀ base outer L ge d n lout ag x dx la vs ws deep i xs pre g h m) : Fr g L h m := by
  obtain ⟨_, _, _, _, _, _, _, _, _, _, _, _, _, H⟩ := H
  exact H.F
theorem WSt.gr (H : WSt w p loose mean mg mb A₀ base outer L ge d n lout ag x dx la vs ws deep i xs pre g h m) : Gr w p loose mean mg mb A₀ base outer g := by
  obtain ⟨_, _, _, _, _, _, _, _, _, _, _, _, _, H⟩ := H
  exact H.gr
theorem WS.move {h' : Heap} {m' : Str → Option Value} {pre' : List (Addr × Obj)} (H : WS w p loose mean mg mb A₀ base outer L ge d n lout ag x dx la vs ws deep i xs pre g h m o1 o2 eo wn it l od io lo ola S last fz) (F : Fr g L h' m')
    (N : News g L h' (pre' ++ (sev d n lout x dx it la o1 o2 (listOf (ws ++ wn).toArray eo) od io ola ++ fz))) (ap : Apart pre' (sev d n lout x dx it la o1 o2 (listOf (ws ++ wn).toArray eo) od io ola ++ fz)) :
    WS w p loose mean mg mb A₀ base outer L ge d n lout ag x dx la vs ws deep i xs pre' g h' m' o1 o2 eo wn it l od io lo ola S last fz := { H with F := F, N := N, app := ap }
theorem ws_start {lr ep q I : Nat} {nw : List (Addr × Obj)} (hI : Iterd lr (listOf vs.toArray ep) vs q I io l lo nw) (hlr : g.get? lr = some (listOf vs.toArray ep)) (st : LoopSt I l od io lo S vs vs.length) (ag' : S.again = .ref ag) (de : S.depth = deep) (ix : S.idx = -1) (lv : S.lcv = .ref 92) (cu : S.cur = .ref 92) (be : S.bef = .ref 92)
    (hD : DrawsObj n o1 o2) (Γ : Gr w p loose mean mg mb A₀ base outer g) (F : Fr g L h m) (N : News g L h ((la, listOf #[] 0) :: (x, instObj 255 dx) :: (dx, od) :: (I, io) :: (d, o1) :: (n, o2) :: (lout, listOf ws.toArray eo) :: nw))
    (hd : Dist ((la, listOf #[] 0) :: (x, instObj 255 dx) :: (dx, od) :: (I, io) :: (d, o1) :: (n, o2) :: (lout, listOf ws.toArray eo) :: nw)) :
    WSt w p loose mean mg mb A₀ base outer L g d n lout ag x dx la vs ws deep 0 [] [] g h m := by
  have e0 : listOf ws.toArray eo = listOf (ws ++ []).toArray eo := by rw [List.append_nil]
  rw [e0] at N hd
  have kl : Known g nw l lo := by
    cases hI with
    | same _ _ => exact .inl hlr
    | tup _ => exact .inr (.head _)
    | rev _ _ _ => exact .inr (.head _)
  have nd : ∀ es n, lo.data ≠ .dict es n := by cases hI <;> exact fun _ _ z => by cases z
  simp only [Dist, AllNe] at hd
  obtain ⟨⟨a1, a2, a3, a4, a5, a6, a7⟩, ⟨b1, b2, b3, b4, b5, b6⟩, ⟨c1, c2, c3, c4, c5⟩, ⟨d1, d2, d3, d4⟩, ⟨e1, e2, e3⟩, ⟨f1, f2⟩, g1, g2⟩ := hd
  have apf : Apart (sev d n lout x dx I la o1 o2 (listOf (ws ++ []).toArray eo) od io (listOf #[] 0)) nw := fun q hq => by
    simp only [sev, List.mem_cons, List.not_mem_nil, or_false] at hq
    rcases hq with rfl | rfl | rfl | rfl | rfl | rfl | rfl
    · exact e3
    · exact f2
    · exact g1
    · exact b6
    · exact c5
    · exact d4
    · exact a7
  have N' : News g L h ([] ++ (sev d n lout x dx I la o1 o2 (listOf (ws ++ []).toArray eo) od io (listOf #[] 0) ++ nw)) := nw_sub N fun q hq => by
    simp only [sev, List.nil_append, List.cons_append, List.mem_cons] at hq ⊢
    rcases hq with e | e | e | e | e | e | e | e <;> simp [e]
  have lne : AllNe l (sev d n lout x dx I la o1 o2 (listOf (ws ++ []).toArray eo) od io (listOf #[] 0)) := allNe_mk fun q hq e => by
    rcases kl with z | z
    · have := (N' q (List.mem_append_right _ (List.mem_append_left _ hq))).2.2
      rw [e, z] at this; cases this
    · exact allNe_mem (apf q hq) _ z e.symm
  refine ⟨o1, o2, eo, [], I, l, od, io, lo, listOf #[] 0, S, none, nw, ?_⟩
  refine ⟨KtsTurn.refl, Γ, F, N', ?_, apf, (fun q hq => nomatch hq), hD, ⟨0, rfl⟩, st, kl, nd, lne, lv, by rw [ix]; rfl, de, ag', ⟨92, cu, fun z => absurd z (Nat.lt_irrefl _)⟩, ⟨92, be, fun z => absurd z (by decide)⟩, .nil⟩
  simp only [sev, Dist, AllNe, and_true]
  exact ⟨⟨e1, e2, fun z => b3 z.symm, fun z => c2 z.symm, fun z => d1 z.symm, fun z => a4 z.symm⟩, ⟨f1, fun z => b4 z.symm, fun z => c3 z.symm, fun z => d2 z.symm, fun z => a5 z.symm⟩, ⟨fun z => b5 z.symm, fun z => c4 z.symm, fun z => d3 z.symm, fun z => a6 z.symm⟩, ⟨b1, b2, fun z => a1 z.symm⟩, ⟨c1, fun z => a2 z.symm⟩, fun z => a3 z.symm⟩
theorem ws_step {od' io' : Obj} {t t2 : Nat} {td tk : Tok} {nn : Int} {h' : Heap} {m' : Str → Option Value} {pre' : List (Addr × Obj)} (H : WS w p loose mean mg mb A₀ base outer L ge d n lout ag x dx la vs ws deep i xs pre g h m o1 o2 eo wn it l od io lo ola S last fz)
    (F : Fr g L h' m') (N : News g L h' (pre' ++ (sev d n lout x dx it la o1 o2 (listOf (ws ++ (wn ++ [Value.ref t2])).toArray (eo + 1)) od' io' ola ++ ((t2, tupOf #[.int deep td, .int nn tk] 0) :: fz))))
    (st : LoopSt it l od' io' lo { S with aft := .ref 92, idx := S.idx + 1, bef := S.cur, cur := .ref t } (vs.drop (i + 1)) vs.length) (hv : vs[i]? = some (.ref t))
    (ht : AllNe t2 (sev d n lout x dx it la o1 o2 (listOf (ws ++ wn).toArray eo) od io ola)) (htp : AllNe t2 pre') (ap : Apart pre' (sev d n lout x dx it la o1 o2 (listOf (ws ++ wn).toArray eo) od io ola ++ fz)) :
    WSt w p loose mean mg mb A₀ base outer L ge d n lout ag x dx la vs ws deep (i + 1) (xs ++ [(deep, nn)]) pre' g h' m' := by
  simp only [sev, AllNe, and_true] at ht
  obtain ⟨t1', t2', t3', t4', t5', t6', t7'⟩ := ht
  have hd := H.dist
  simp only [sev, Dist, AllNe, and_true] at hd
  refine ⟨o1, o2, eo + 1, wn ++ [Value.ref t2], it, l, od', io', lo, ola, _, last, (t2, tupOf #[.int deep td, .int nn tk] 0) :: fz, H.turn, H.gr, F, N, ?_, ?_, ?_, H.draws, H.lst, st, H.kl.mono fun q hq => .tail _ hq, H.nd, ?_, ?_, ?_, H.dep, H.ag, ⟨t, rfl, fun _ => ?_⟩, ?_, ?_⟩
  · simp only [sev, Dist, AllNe, and_true]
    exact hd
  · have ap7 := H.apf
    intro q hq
    simp only [sev, List.mem_cons, List.not_mem_nil, or_false] at hq
    rcases hq with rfl | rfl | rfl | rfl | rfl | rfl | rfl
    · exact ⟨fun e => t1' e.symm, ap7 (d, o1) (.head _)⟩
    · exact ⟨fun e => t2' e.symm, ap7 (n, o2) (.tail _ (.head _))⟩
    · exact ⟨fun e => t3' e.symm, ap7 (lout, listOf (ws ++ wn).toArray eo) (.tail _ (.tail _ (.head _)))⟩
    · exact ⟨fun e => t4' e.symm, ap7 (x, instObj 255 dx) (.tail _ (.tail _ (.tail _ (.head _))))⟩
    · exact ⟨fun e => t5' e.symm, ap7 (dx, od) (.tail _ (.tail _ (.tail _ (.tail _ (.head _)))))⟩
    · exact ⟨fun e => t6' e.symm, ap7 (it, io) (.tail _ (.tail _ (.tail _ (.tail _ (.tail _ (.head _))))))⟩
    · exact ⟨fun e => t7' e.symm, ap7 (la, ola) (.tail _ (.tail _ (.tail _ (.tail _ (.tail _ (.tail _ (.head _)))))))⟩
  · intro y hy
    have hy2 := ap y hy
    rw [allNe_iff] at hy2
    simp only [sev, List.map_append, List.map_cons, List.map_nil, List.mem_append, List.mem_cons, List.not_mem_nil, or_false, not_or] at hy2
    obtain ⟨⟨z1, z2, z3, z4, z5, z6, z7⟩, z8⟩ := hy2
    rw [allNe_iff]
    simp only [sev, List.map_append, List.map_cons, List.map_nil, List.mem_append, List.mem_cons, List.not_mem_nil, or_false, not_or]
    exact ⟨⟨z1, z2, z3, z4, z5, z6, z7⟩, fun e => allNe_mem htp y hy e, z8⟩
  · have := H.lne
    simp only [sev, AllNe, and_true] at this ⊢
    exact this
  · have := H.lcv
    cases hl : last with
    | none => rw [hl] at this; exact this
    | some v =>
      rw [hl] at this
      obtain ⟨tv, tt, q1, q2, q3⟩ := this
      exact ⟨tv, tt, q1, q2, q3.mono fun q hq => .tail _ hq⟩
  · have := H.idx
    dsimp only
    push_cast
    omega
  · show vs[i + 1 - 1]? = some (Value.ref t)
    rw [Nat.add_sub_cancel]
    exact hv
  · obtain ⟨c, hc, hb⟩ := H.cur
    refine ⟨c, hc, fun z => ?_⟩
    have := hb (by omega)
    rw [show i + 1 - 2 = i - 1 by omega]
    exact this
  · exact (H.out.mono fun _ _ _ z => .tail _ z).app (.cons (.head _) .nil)
theorem ws_step2 {od' io' qo oI : Obj} {t t2 q I : Nat} {td tk : Tok} {nn : Int} {h' : Heap} {m' : Str → Option Value} {wf : List Value} (H : WS w p loose mean mg mb A₀ base outer L ge d n lout ag x dx la vs ws deep i xs [] g h m o1 o2 eo wn it l od io lo ola S last fz) (hwf : wf = ws ++ wn)
    (F : Fr g L h' m') (N : News g L h' ((t2, tupOf #[.int deep td, .int nn tk] 0) :: (q, qo) :: (x, instObj 255 dx) :: (dx, od') :: (it, io') :: (I, oI) :: (d, o1) :: (n, o2) :: (lout, listOf (wf ++ [Value.ref t2]).toArray (eo + 1)) :: (la, ola) :: fz))
    (kL : AllLt t2 ((q, qo) :: (x, instObj 255 dx) :: (dx, od') :: (it, io') :: (I, oI) :: (d, o1) :: (n, o2) :: (lout, listOf wf.toArray eo) :: (la, ola) :: fz))
    (st : LoopSt it l od' io' lo { S with aft := .ref 92, idx := S.idx + 1, bef := S.cur, cur := .ref t } (vs.drop (i + 1)) vs.length) (hv : vs[i]? = some (.ref t))
    (hI : AllNe I ([] ++ (sev d n lout x dx it la o1 o2 (listOf (ws ++ wn).toArray eo) od io ola ++ fz))) :
    WSt w p loose mean mg mb A₀ base outer L ge d n lout ag x dx la vs ws deep (i + 1) (xs ++ [(deep, nn)]) [(I, oI)] g h' m' := by
  subst hwf
  rw [List.append_assoc] at N
  obtain ⟨k1, k2, k3, k4, k5, k6, k7, k8, k9, k10⟩ := allLt_ne kL
  refine ws_step (td := td) (tk := tk) H F (nw_sub N fun z hz => ?_) st hv ?_ ⟨fun e => k5 e, trivial⟩ (fun y hy => by rw [List.mem_singleton.mp hy]; exact hI)
  · simp only [sev, List.cons_append, List.nil_append, List.mem_cons] at hz ⊢
    rcases hz with e | e | e | e | e | e | e | e | e | e <;> simp [e]
  · simp only [sev, AllNe, and_true]
    exact ⟨k6, k7, k8, k2, k3, k4, k9⟩
end
section
local macro_rules | `(tactic| walk_at "subscriptTail") => `(tactic| (k_here; (with_reducible show wpAny _ _ (subscriptTail _ _ (Value.ref _) (Value.int _ _)) _ _ _); (with_unfolding_all (first | with_reducible refine' k_itemA ?t ?h0 ?z ?k ?_ ?k6 | refine' k_itemA ?t ?h0 ?z ?k ?_ ?k6); (case t => (first | exact Fr.keep (by k_asm) _ _ (by k_asm) | exact Fr.keep (by k_asm) _ _ (Fr.keep (by k_asm) _ _ (by k_asm)) | exact Fr.keep (by k_asm) _ _ (KtsTurn.other (by assumption) _ _ (by assumption) (by assumption)) | ((first | with_reducible refine' News.get ?N ?m | refine' News.get ?N ?m); (case N => k_asm); (case m => k_mem)))); (case h0 => omega); (case z => (simp only [List.length_cons, List.length_nil]; omega)); (case k => (simp only [List.length_cons, List.length_nil]; omega)); (case k6 => with_unfolding_all rfl); k_whole); intro x' hx'))
local macro_rules | `(tactic| walk_at "subscriptTail Name BinOp ref int") => `(tactic| (k_here; (with_reducible show wpAny _ _ (subscriptTail _ _ (Value.ref _) (Value.int _ _)) _ _ _); (with_unfolding_all (first | with_reducible refine' k_itemA ?t ?h0 ?z ?k ?_ ?k6 | refine' k_itemA ?t ?h0 ?z ?k ?_ ?k6); (case t => (first | exact Fr.keep (by k_asm) _ _ (by k_asm) | exact Fr.keep (by k_asm) _ _ (Fr.keep (by k_asm) _ _ (by k_asm)) | exact Fr.keep (by k_asm) _ _ (KtsTurn.other (by assumption) _ _ (by assumption) (by assumption)) | ((first | with_reducible refine' News.get ?N ?m | refine' News.get ?N ?m); (case N => k_asm); (case m => k_mem)))); (case h0 => omega); (case z => (simp only [List.length_cons, List.length_nil]; omega)); (case k => (simp only [List.length_cons, List.length_nil]; omega)); (case k6 => with_unfolding_all rfl); k_whole); intro x' hx'))
local macro_rules | `(tactic| walk_at "subscriptTail Name Name ref int") => `(tactic| (k_here; (with_reducible show wpAny _ _ (subscriptTail _ _ (Value.ref _) (Value.int _ _)) _ _ _); (with_unfolding_all (first | with_reducible refine' k_itemA ?t ?h0 ?z ?k ?_ ?k6 | refine' k_itemA ?t ?h0 ?z ?k ?_ ?k6); (case t => (first | exact Fr.keep (by k_asm) _ _ (by k_asm) | exact Fr.keep (by k_asm) _ _ (Fr.keep (by k_asm) _ _ (by k_asm)) | exact Fr.keep (by k_asm) _ _ (KtsTurn.other (by assumption) _ _ (by assumption) (by assumption)) | ((first | with_reducible refine' News.get ?N ?m | refine' News.get ?N ?m); (case N => k_asm); (case m => k_mem)))); (case h0 => omega); (case z => (simp only [List.length_cons, List.length_nil]; omega)); (case k => (simp only [List.length_cons, List.length_nil]; omega)); (case k6 => with_unfolding_all rfl); k_whole); intro x' hx'))
local macro_rules | `(tactic| walk_at "subscriptTail") => `(tactic| (k_here; (with_reducible show wpAny _ _ (subscriptTail _ _ (Value.ref _) (Value.int _ _)) _ _ _); (with_unfolding_all (first | with_reducible refine' k_itemL ?t ?h0 ?z ?x ?_ ?k6 | refine' k_itemL ?t ?h0 ?z ?x ?_ ?k6); (case x => with_reducible assumption); (case t => (first | exact Fr.keep (by k_asm) _ _ (by k_asm) | exact Fr.keep (by k_asm) _ _ (Fr.keep (by k_asm) _ _ (by k_asm)) | exact Fr.keep (by k_asm) _ _ (KtsTurn.other (by assumption) _ _ (by assumption) (by assumption)) | ((first | with_reducible refine' News.get ?N ?m | refine' News.get ?N ?m); (case N => k_asm); (case m => k_mem)))); (case h0 => omega); (case z => omega); (case k6 => with_unfolding_all rfl); k_whole)))
local macro_rules | `(tactic| walk_at "subscriptTail Name BinOp ref int") => `(tactic| (k_here; (with_reducible show wpAny _ _ (subscriptTail _ _ (Value.ref _) (Value.int _ _)) _ _ _); (with_unfolding_all (first | with_reducible refine' k_itemL ?t ?h0 ?z ?x ?_ ?k6 | refine' k_itemL ?t ?h0 ?z ?x ?_ ?k6); (case x => with_reducible assumption); (case t => (first | exact Fr.keep (by k_asm) _ _ (by k_asm) | exact Fr.keep (by k_asm) _ _ (Fr.keep (by k_asm) _ _ (by k_asm)) | exact Fr.keep (by k_asm) _ _ (KtsTurn.other (by assumption) _ _ (by assumption) (by assumption)) | ((first | with_reducible refine' News.get ?N ?m | refine' News.get ?N ?m); (case N => k_asm); (case m => k_mem)))); (case h0 => omega); (case z => omega); (case k6 => with_unfolding_all rfl); k_whole)))
local macro_rules | `(tactic| walk_at "subscriptTail Name Name ref int") => `(tactic| (k_here; (with_reducible show wpAny _ _ (subscriptTail _ _ (Value.ref _) (Value.int _ _)) _ _ _); (with_unfolding_all (first | with_reducible refine' k_itemL ?t ?h0 ?z ?x ?_ ?k6 | refine' k_itemL ?t ?h0 ?z ?x ?_ ?k6); (case x => with_reducible assumption); (case t => (first | exact Fr.keep (by k_asm) _ _ (by k_asm) | exact Fr.keep (by k_asm) _ _ (Fr.keep (by k_asm) _ _ (by k_asm)) | exact Fr.keep (by k_asm) _ _ (KtsTurn.other (by assumption) _ _ (by assumption) (by assumption)) | ((first | with_reducible refine' News.get ?N ?m | refine' News.get ?N ?m); (case N => k_asm); (case m => k_mem)))); (case h0 => omega); (case z => omega); (case k6 => with_unfolding_all rfl); k_whole)))
local macro_rules | `(tactic| walk_at "ite") => `(tactic| (k_here; first
  | (refine PySem.W.ite_pos (by ((try simp only [beq_iff_eq, decide_eq_true_eq, ge_iff_le, gt_iff_lt]); omega)) ?_)
  | (refine PySem.W.ite_neg (by ((try simp only [beq_iff_eq, decide_eq_true_eq, ge_iff_le, gt_iff_lt]); omega)) ?_)))
local macro_rules | `(tactic| k_ne) => `(tactic| (refine neN ?_; (try dsimp only); first | with_reducible assumption | (refine Ne.symm ?_; with_reducible assumption) | exact allNe_ne (by with_reducible assumption) (by k_mem) | exact (allNe_ne (by with_reducible assumption) (by k_mem)).symm | exact Apart.ne (by assumption) (by k_mem) (by k_mem) | exact (Apart.ne (by assumption) (by k_mem) (by k_mem)).symm | omega))
local macro_rules | `(tactic| walk_at "call ref") => `(tactic| (k_here; (with_reducible show wpAny _ _ (call (Value.ref 412) _) _ _ _); k_dflt ((first | with_reducible refine' call_handed ?B ?F ?X ?T ?kk ?dp ?un ?N ?D1 ?D2 ?hD ?dn ?hl ?n1 ?n2 ?z ?_ | refine' call_handed ?B ?F ?X ?T ?kk ?dp ?un ?N ?D1 ?D2 ?hD ?dn ?hl ?n1 ?n2 ?z ?_); (case B => k_asm); (case F => k_asm); (case X => k_asm); (case T => k_asm); (case kk => exact rfl); (case N => k_asm); (case hD => k_asm); (case D1 => (repeat' ((with_reducible show Del _ _ _ _); first | ((first | with_reducible refine' Del.head ?_ | refine' Del.head ?_); k_all) | ((first | with_reducible refine' Del.tail (by k_ne) ?_ | refine' Del.tail (by k_ne) ?_))))); (case D2 => (repeat' ((with_reducible show Del _ _ _ _); first | ((first | with_reducible refine' Del.head ?_ | refine' Del.head ?_); k_all) | ((first | with_reducible refine' Del.tail (by k_ne) ?_ | refine' Del.tail (by k_ne) ?_))))); (case dn => k_ne); (case hl => exact Fr.keep (by k_asm) _ _ (by with_reducible assumption)); (case n1 => k_ne); (case n2 => k_ne); (case z => omega); (case dp => ((try dsimp only [ktrTop]); omega)); (case un => ((try simp only [units_in1, units_deeper, Around.mark_units, units_caller]); (try dsimp only [ktrTop]); omega))); k_whole; intro v' nw' o1' o2' h' tk' hH' hD' F' N' a' K'; (dsimp only [List.cons_append, List.nil_append] at N'); (try k_sweep)))
local macro_rules | `(tactic| walk_at "call ref") => `(tactic| (k_here; (with_reducible show wpAny _ _ (call (Value.ref 255) [Value.ref _, Value.ref 364, Value.ref _]) _ _ _); k_dflt ((first | with_reducible refine' new_loop0 (bs := [(_, _), (_, _), (_, _)]) ?B ?F ?X ?T ?kk ?dp ?un ?H ?hl ?N ?hd ?_ | refine' new_loop0 (bs := [(_, _), (_, _), (_, _)]) ?B ?F ?X ?T ?kk ?dp ?un ?H ?hl ?N ?hd ?_); (case B => k_asm); (case F => k_asm); (case X => k_asm); (case T => k_asm); (case kk => exact rfl); (case H => with_reducible assumption); (case hl => with_reducible assumption); (case N => k_asm); (case hd => exact walk_dist (by with_reducible assumption) (by with_reducible assumption) (by with_reducible assumption)); (case dp => ((try dsimp only [ktrTop]); omega)); (case un => ((try simp only [units_in1, units_deeper, Around.mark_units, units_caller]); (try dsimp only [ktrTop]); omega))); k_whole; intro x' dx' I' l' io' lo' nw' S' od' h' tk' it' st' ag' de' ix' lv' cu' be' F' N' d'; (dsimp only [List.cons_append, List.nil_append] at N' d'); (try k_sweep)))
local macro_rules | `(tactic| walk_at "call ref") => `(tactic| (k_here; (with_reducible show wpAny _ _ (call (Value.ref 255) [Value.ref _, Value.ref 364, Value.ref _, Value.int _ _]) _ _ _); k_dflt ((first | with_reducible refine' new_loop1 (bs := [(_, _), (_, _), (_, _)]) ?B ?F ?X ?T ?kk ?dp ?un ?H ?hl ?N ?hd ?_ | refine' new_loop1 (bs := [(_, _), (_, _), (_, _)]) ?B ?F ?X ?T ?kk ?dp ?un ?H ?hl ?N ?hd ?_); (case B => k_asm); (case F => k_asm); (case X => k_asm); (case T => k_asm); (case kk => exact rfl); (case H => with_reducible assumption); (case hl => with_reducible assumption); (case N => k_asm); (case hd => exact walk_dist (by with_reducible assumption) (by with_reducible assumption) (by with_reducible assumption)); (case dp => ((try dsimp only [ktrTop]); omega)); (case un => ((try simp only [units_in1, units_deeper, Around.mark_units, units_caller]); (try dsimp only [ktrTop]); omega))); k_whole; intro x' dx' I' l' io' lo' nw' S' od' h' tk' it' st' ag' de' ix' lv' cu' be' F' N' d'; (dsimp only [List.cons_append, List.nil_append] at N' d'); (try k_sweep)))
local macro_rules | `(tactic| walk_at "call ref") => `(tactic| (k_here; (with_reducible show wpAny _ _ (call (Value.ref 419) _) _ _ _); k_dflt ((first | with_reducible refine' asks_at ?W ?kk ?dp ?un ?ge ?lr ?R ?len ?att ?i ?_ | refine' asks_at ?W ?kk ?dp ?un ?ge ?lr ?R ?len ?att ?i ?_); (case W => with_reducible assumption); (case kk => exact rfl); (case ge => with_reducible assumption); (case lr => with_reducible assumption); (case R => with_reducible assumption); (case len => omega); (case att => first | rfl | (push_cast; omega)); (case i => omega); (case dp => ((try dsimp only [ktrTop]); omega)); (case un => ((try simp only [units_in1, units_deeper, Around.mark_units, units_caller]); (try dsimp only [ktrTop]); omega))); intro g' h' tk' W'; have F' := WSt.F W'; (obtain ⟨B', X', T', XB', TB', D'⟩ := WSt.gr W')))
local macro_rules | `(tactic| walk_at "call ref") => `(tactic| (k_here; (with_reducible show wpAny _ _ (call (Value.ref 433) _) _ _ _); k_dflt ((first | with_reducible refine' ended_at ?W ?i ?kk ?dp ?un ?_ | refine' ended_at ?W ?i ?kk ?dp ?un ?_); (case W => with_reducible assumption); (case kk => exact rfl); (case i => rfl); (case dp => ((try dsimp only [ktrTop]); omega)); (case un => ((try simp only [units_in1, units_deeper, Around.mark_units, units_caller]); (try dsimp only [ktrTop]); omega))); intro g' h' tk' o1' o2' eo' wn' fz' T1' G' F' N' ne' dr' ou'; (obtain ⟨B', X', T', XB', TB', D'⟩ := G')))
local macro_rules | `(tactic| walk_at "call ref") => `(tactic| (k_here; (with_reducible show wpAny _ _ (call (Value.ref 266) _) _ _ _); k_dflt ((first | with_reducible refine' call_step ?B ?F ?X ?T ?kk ?dp ?un ?N ?D1 ?D2 ?D3 ?st ?hits ?hc ?hl ?n1 ?n2 ?n3 ?n4 ?n5 ?n6 ?_ | refine' call_step ?B ?F ?X ?T ?kk ?dp ?un ?N ?D1 ?D2 ?D3 ?st ?hits ?hc ?hl ?n1 ?n2 ?n3 ?n4 ?n5 ?n6 ?_); (case B => k_asm); (case F => k_asm); (case X => k_asm); (case T => k_asm); (case kk => exact rfl); (case N => k_asm); (case st => with_reducible assumption); (case D1 => (repeat' ((with_reducible show Del _ _ _ _); first | ((first | with_reducible refine' Del.head ?_ | refine' Del.head ?_); k_all) | ((first | with_reducible refine' Del.tail (by k_ne) ?_ | refine' Del.tail (by k_ne) ?_))))); (case D2 => (repeat' ((with_reducible show Del _ _ _ _); first | ((first | with_reducible refine' Del.head ?_ | refine' Del.head ?_); k_all) | ((first | with_reducible refine' Del.tail (by k_ne) ?_ | refine' Del.tail (by k_ne) ?_))))); (case D3 => (repeat' ((with_reducible show Del _ _ _ _); first | ((first | with_reducible refine' Del.head ?_ | refine' Del.head ?_); k_all) | ((first | with_reducible refine' Del.tail (by k_ne) ?_ | refine' Del.tail (by k_ne) ?_))))); (case hits => with_reducible assumption); (case hc => with_reducible assumption); (case hl => ((first | with_reducible refine' Known.at (Known.mono ?La ?Lb) ?Lc ?Ld | refine' Known.at (Known.mono ?La ?Lb) ?Lc ?Ld); (case La => with_reducible assumption); (case Lc => k_asm); (case Ld => k_asm); (case Lb => (intro q hq; simp [hq])))); (case n1 => k_ne); (case n2 => k_ne); (case n3 => k_ne); (case n4 => k_ne); (case n5 => k_ne); (case n6 => k_ne); (case dp => ((try dsimp only [ktrTop]); omega)); (case un => ((try simp only [units_in1, units_deeper, Around.mark_units, units_caller]); (try dsimp only [ktrTop]); omega))); k_whole; intro q' od' io' h' tk' st' nq' F' N'; (obtain ⟨es', n', oe', hD'⟩ := LoopSt.dict st'); subst oe'; (try k_sweep)))
local macro_rules | `(tactic| walk_at "compareOp NotEq ref ref") => `(tactic| (k_here; (with_reducible show wpAny _ _ (compareOp CmpOp.NotEq (Value.ref _) (Value.ref _)) _ _ _); k_dflt (first
  | ((first | with_reducible refine' ne_same ?F ?a ?b ?c ?d ?u ?_ | refine' ne_same ?F ?a ?b ?c ?d ?u ?_); (case F => k_asm); (case a => with_reducible assumption); (case b => with_reducible assumption); (case c => with_reducible assumption); (case d => omega); (case u => ((try simp only [units_in1, units_deeper, Around.mark_units, units_caller]); (try dsimp only [ktrTop]); omega)))
  | ((first | with_reducible refine' ne_empty ?F ?N ?b ?c ?e ?bb ?d ?u ?_ | refine' ne_empty ?F ?N ?b ?c ?e ?bb ?d ?u ?_); (case F => k_asm); (case N => k_asm); (case b => with_reducible assumption); (case c => with_reducible assumption); (case e => k_mem); (case bb => with_reducible assumption); (case d => omega); (case u => ((try simp only [units_in1, units_deeper, Around.mark_units, units_caller]); (try dsimp only [ktrTop]); omega)))); k_whole))
local macro_rules | `(tactic| walk_at "call ref") => `(tactic| (k_here; (rename WSpec _ _ _ _ _ _ _ _ _ _ _ _ _ => ihX); (rename WS _ _ _ _ _ _ _ _ _ _ _ _ _ _ _ _ _ _ _ _ _ _ _ _ _ _ _ _ _ _ _ _ _ _ _ _ _ _ _ _ => wsX); (with_reducible show wpAny _ _ (call (Value.ref _) [Value.ref _]) _ _ _); k_dflt ((first | with_reducible refine' again_at ihX ?hag ?aok ?W ?kk ?dp ?un ?ge ?has ?lb ?R ?dep ?sz ?_ | refine' again_at ihX ?hag ?aok ?W ?kk ?dp ?un ?ge ?has ?lb ?R ?dep ?sz ?_); (case W => exact ⟨_, _, _, _, _, _, _, _, _, _, _, _, _, WS.move wsX (by k_asm) (nw_tl (by k_asm)) wsX.app⟩); (case hag => with_reducible assumption); (case aok => with_reducible assumption); (case kk => exact rfl); (case ge => with_reducible assumption); (case has => with_reducible assumption); (case lb => with_reducible assumption); (case R => with_reducible assumption); (case dep => omega); (case sz => omega); (case dp => ((try dsimp only [ktrTop]); omega)); (case un => ((try simp only [units_in1, units_deeper, Around.mark_units, units_caller]); (try dsimp only [ktrTop]); omega))); intro g' h' tk' W'; have F' := WSt.F W'; (obtain ⟨B', X', T', XB', TB', D'⟩ := WSt.gr W')))
local macro_rules | `(tactic| walk_at "callWith ref") => `(tactic| (k_here; (with_reducible show wpAny _ _ (callWith _ (Value.ref _) _ _ _) _ _ _); k_dflt ((first | with_reducible refine' kco_callWith (C := 255) (K := hd.heap_39 _) (f := 245) ?k1 ?k2 ?k3 ?k4 ?_ | refine' kco_callWith (C := 255) (K := hd.heap_39 _) (f := 245) ?k1 ?k2 ?k3 ?k4 ?_); (case k2 => k_inst); (case k1 => k_in); (case k3 => rfl); (case k4 => k_is); k_whole)))
theorem reset_MZB : True := by
  w_top off
  trivial
abbrev walkCall (d lout ag : Nat) : Nat → Int → Tok → Code := fun lr deep td => .call (.ref 426) ⟨[.ref d, .ref lr, .int deep td, .ref ag, .ref lout], []⟩
section
variable {w : World} {p : Program} {loose : List Str} {mean : ExcName → Option Value} {mg mb : Str → Option Value}
theorem walk_step {as : List (Addr × Obj)} {d n lout ag k : Nat} (hk5 : k ≤ 5) (IH : ∀ j, k = j + 1 → WSpec w p loose mean mg mb as d n lout (againCall ag) 5 j) (hag : ∃ oc od fd sl, (ag, (⟨oc, od, .func fd, sl⟩ : Obj)) ∈ as) (asOk : ∀ q ∈ as, ∀ es n, q.2.data ≠ .dict es n) :
    WSpec w p loose mean mg mb as d n lout (walkCall d lout ag) 0 k := by
  intro dp un gd cn cs a ccd cl outer A₀ base g₀ h₀ L m s R' lr ep eo vs ws R deep td o1 o2 Γ T0 F hk hdep hsz hdp hun N hdist hD has hlr hR ret
  have hdist' := hdist
  simp only [Dist, AllNe, and_true] at hdist'
  obtain ⟨⟨d1, d2⟩, d3⟩ := hdist'
  refine' enterS Γ F N ?kA ?kF ?kK ?k6 ?k7 ?k8 ?k9 ?kB ?_ ?c2 ?c3 ?c4 ?c5
  case kA => exact rfl
  case kF => exact rfl
  case kK => assumption
  case k6 => k_is
  case k7 => k_is
  case k8 => k_room
  case k9 => first | exact BindsTo.of_eq rfl | exact binds_K (by k_in) rfl (by k_is) rfl rfl rfl
  case c5 => decide
  case kB => exact locs rfl
  case c2 => exact rfl
  case c3 => exact rfl
  case c4 => exact rfl
  intro g' L' h' FG' F' N' Γ' G'
  obtain ⟨B', X', T', XB', TB', D'⟩ := Γ'
  try dsimp only
  try k_fold
  have up : ∀ b o, TreeP s.heap d n lout b o → g'.get? b = some o := fun b o e => G' _ _ e.1 (by
    simp only [List.map_cons, List.map_nil, List.mem_cons, List.not_mem_nil, or_false, not_or]
    exact e.2)
  have hasg : ∀ q ∈ as, g'.get? q.1 = some q.2 := fun q hq => up _ _ (has q hq)
  have hlrg := up _ _ hlr
  have hRg : RowIn (fun b o => g'.get? b = some o) vs R := hR.mono fun b o _ _ e => up b o e
  have hnl : R.len ≤ R.size := Row.len_size R
  have hvl := hRg.length
  have hnums := hRg.nums
  have hnn := Row.nums_length R
  have hge : KtsDicts (fsOf (envX cn cs L a ccd cl :: outer)) g' := D'
  have hlrn := hlr.2
  obtain ⟨n1, n2, n3⟩ := hlrn
  obtain ⟨Mid, hMid⟩ : ∃ Mid : Shared → Prop, Mid = fun s' => ∃ (x dx la : Nat) (h2 : Heap) (tk2 : Nat) (m2 : Str → Option Value), s' = { s with heap := h2, toks := tk2 } ∧ WM m2 d lr lout ag x la deep td ∧
      WSt w p loose mean mg mb (ktrTop dp un gd cn cs L a ccd cl outer) base (envX cn cs L a ccd cl :: outer) L' g' d n lout ag x dx la vs ws deep 0 [] [] g' h2 m2 := ⟨_, rfl⟩
  refine execs_split Mid 2 _ ?_ ?_
  · simp only [List.take_succ_cons, List.take_zero]
    k_steps
    all_goals
      (rename Iterd _ _ _ _ _ _ _ _ _ => kI)
      (rename LoopSt _ _ _ _ _ _ _ _ => kS)
      (rename LS.again _ = _ => e1)
      (rename LS.depth _ = _ => e2)
      (rename LS.idx _ = _ => e3)
      (rename LS.lcv _ = _ => e4)
      (rename LS.cur _ = _ => e5)
      (rename LS.bef _ = _ => e6)
      (rename DrawsObj _ _ _ => kD)
      (rename Fr g' L' _ _ => kF)
      (rename News g' L' _ _ => kN)
      (rename Dist (_ :: _) => kDi)
      (rename _ ∧ _ => kL)
      show Mid _
      rw [hMid]
      exact ⟨_, _, _, _, _, _, rfl, ⟨rfl, rfl, rfl, rfl, rfl, rfl, rfl⟩, ws_start kI hlrg kS e1 (by omega) e3 e4 e5 e6 kD ⟨B', X', T', XB', TB', D'⟩ kF kN ⟨allLt_ne kL, kDi⟩⟩
  · simp only [List.drop_succ_cons, List.drop_zero]
    clear F' N'
    intro s' hs'
    rw [hMid] at hs'
    obtain ⟨x, dx, la, h2, tk2, m2, rfl, ⟨q1, q2, q3, q4, q5, q6, q7⟩, hW⟩ := hs'
    obtain ⟨Mid2, hMid2⟩ : ∃ Mid2 : Shared → Prop, Mid2 = fun s' => ∃ (g2 h2 : Heap) (tk2 : Nat), s' = { s with heap := h2, toks := tk2 } ∧ WSt w p loose mean mg mb (ktrTop dp un gd cn cs L a ccd cl outer) base (envX cn cs L a ccd cl :: outer) L' g' d n lout ag x dx la vs ws deep 0 [] [] g2 h2 m2 := ⟨_, rfl⟩
    refine execs_split Mid2 1 _ ?_ ?_
    · simp only [List.take_succ_cons, List.take_zero]
      have F2 := hW.F
      k_steps
      (rename WSt _ _ _ _ _ _ _ _ _ _ _ _ _ _ _ _ _ _ _ _ _ _ _ _ _ _ _ => kW)
      show Mid2 _
      rw [hMid2]
      exact ⟨_, _, _, rfl, kW⟩
    · simp only [List.drop_succ_cons, List.drop_zero]
      clear hW
      intro s' hs'
      rw [hMid2] at hs'
      obtain ⟨g2, h2, tk2, rfl, hW⟩ := hs'
      obtain ⟨o12, o22, eo2, wn2, it2, l2, od2, io2, lo2, ola2, S2, last2, fz2, H2⟩ := hW
      obtain ⟨B2, X2, P2, XB2, TB2, D2⟩ := H2.gr
      have T2 := H2.turn
      have kg : ∀ {b : Addr} {o : Obj}, (∀ es n, o.data ≠ .dict es n) → g'.get? b = some o → g2.get? b = some o := fun hn e => T2.other _ _ e (notFrame hge e hn)
      have hlr2 := kg (fun _ _ z => by cases z) hlrg
      have F2 := H2.F
      have N2 := H2.N
      refine wpAny_execs_cons (wpAny_For ?_)
      obtain ⟨Mid3, hMid3⟩ : ∃ Mid3 : Value → Shared → Prop, Mid3 = fun v s' => ∃ (r : Addr) (h3 : Heap) (tk3 : Nat) (t u v' : Tok), v = .ref r ∧ s' = { s with heap := h3, toks := tk3 } ∧ IsRange h3 r 0 (vs.length : Int) 1 t u v' ∧ Fr g2 L' h3 m2 ∧ News g2 L' h3 ([] ++ (sev d n lout x dx it2 la o12 o22 (listOf (ws ++ wn2).toArray eo2) od2 io2 ola2 ++ fz2)) := ⟨_, rfl⟩
      refine wp_cut Mid3 ?_ ?_
      · k_steps
        (rename IsRange _ _ _ _ _ _ _ _ => hr)
        (rename Fr g2 L' _ _ => kF)
        (rename News g2 L' _ _ => kN)
        rw [hMid3]
        exact ⟨_, _, _, _, _, _, rfl, rfl, hr, kF, kN⟩
      · intro v s' hv
        rw [hMid3] at hv
        obtain ⟨r, h3, tk3, t, u, v', rfl, rfl, hr, kF, kN⟩ := hv
        clear F2 N2
        obtain ⟨Inv, hInv⟩ : ∃ Inv : Nat → Heap → (Str → Option Value) → List (Addr × Obj) → Prop, Inv = fun i g m news => WM m d lr lout ag x la deep td ∧ ∃ h0 m0 o1 o2 eo wn it l od io lo ola S last fz, WS w p loose mean mg mb (ktrTop dp un gd cn cs L a ccd cl outer) base (envX cn cs L a ccd cl :: outer) L' g' d n lout ag x dx la vs ws deep i ((R.upto i).flat deep) [] g h0 m0 o1 o2 eo wn it l od io lo ola S last fz ∧
          news = [] ++ (sev d n lout x dx it la o1 o2 (listOf (ws ++ wn).toArray eo) od io ola ++ fz) := ⟨_, rfl⟩
        refine range_loop rfl rfl rfl hr (by omega) (by omega) kF kN Inv ?_ ?_ ?_
        · rw [hInv]
          refine ⟨⟨q1, q2, q3, q4, q5, q6, q7⟩, h2, m2, o12, o22, eo2, wn2, it2, l2, od2, io2, lo2, ola2, S2, last2, fz2, ?_, rfl⟩
          rw [Row.upto_zero]
          exact H2
        · intro I oI i tk g3 m3 news3 h4 tk4 hi hJ hne hcls F3 N3
          replace F3 : Fr g3 L' h4 _ := F3
          replace N3 : News g3 L' h4 _ := N3
          rw [hInv] at hJ
          obtain ⟨⟨r1, r2, r3, r4, r5, r6, r7⟩, h0, m0, o13, o23, eo3, wn3, it3, l3, od3, io3, lo3, ola3, S3, last3, fz3, H3, rfl⟩ := hJ
          refine post_key (fun s₃ => ∃ h' tk' gg m' news', s₃ = { s with heap := h', toks := tk' } ∧ Fr gg L' h' m' ∧ News gg L' h' ((I, oI) :: news') ∧ AllNe I news' ∧ Inv (i + 1) gg m' news') (fun s₃ h => h) (fun Post hpost => ?_)
          clear kF kN hr
          have hiv : i < vs.length := by omega
          obtain ⟨t, lb, epb, tkn, nn, vb, b, hvt, n92, ht, hlb, hRb, hbd, hbs, hnum, _, hfl⟩ := hRg.at (List.getElem?_eq_getElem hiv)
          obtain ⟨Mid4, hMid4⟩ : ∃ Mid4 : Shared → Prop, Mid4 = fun s' => ∃ (h5 : Heap) (tk5 : Nat) (m5 : Str → Option Value), s' = { s with heap := h5, toks := tk5 } ∧ WM m5 d lr lout ag x la deep td ∧ m5 "item" = some (.ref t) ∧ m5 "at" = some (.int (i : Int) tk) ∧
            WSt w p loose mean mg mb (ktrTop dp un gd cn cs L a ccd cl outer) base (envX cn cs L a ccd cl :: outer) L' g' d n lout ag x dx la vs ws deep (i + 1) ((R.upto i).flat deep ++ [(deep, nn)]) [(I, oI)] g3 h5 m5 := ⟨_, rfl⟩
          obtain ⟨B3, X3, P3, XB3, TB3, D3⟩ := H3.gr
          have T3 := H3.turn
          have kg3 : ∀ {b : Addr} {o : Obj}, (∀ es n, o.data ≠ .dict es n) → g'.get? b = some o → g3.get? b = some o := fun hn e => T3.other _ _ e (notFrame hge e hn)
          refine execs_split Mid4 3 _ ?_ ?_
          · simp only [List.take_succ_cons, List.take_zero]
            have hlr3 := kg3 (fun _ _ z => by cases z) hlrg
            have ht3 := kg3 (fun _ _ z => by cases z) ht
            have hlb3 := kg3 (fun _ _ z => by cases z) hlb
            have hRb3 : RowIn (fun b o => g3.get? b = some o) vb b := hRb.mono fun b o _ hn e => kg3 hn e
            have hst := H3.st
            rw [List.drop_eq_getElem_cons hiv, hvt] at hst
            have hits : ItemsIn g3 (.ref t :: vs.drop (i + 1)) := by
              have e : RowNums g3 (vs.drop i) (R.nums.drop i) := (hnums.drop i).mono fun _ _ _ e => kg3 (fun _ _ z => by cases z) e
              rw [List.drop_eq_getElem_cons hiv, hvt] at e
              exact e.items
            have hcur : ∃ c : Nat, S3.cur = .ref c := let ⟨c, hc, _⟩ := H3.cur; ⟨c, hc⟩
            have hkl := H3.kl
            have hidx := H3.idx
            have hvi : vs[((i : Nat) : Int).toNat]? = some (Value.ref t) := by
              rw [Int.toNat_natCast, List.getElem?_eq_getElem hiv, hvt]
            have hd3 := H3.dist
            simp only [sev, Dist, AllNe, and_true] at hd3
            obtain ⟨⟨a1, a2, a3, a4, a5, a6⟩, ⟨b1, b2, b3, b4, b5⟩, ⟨c1, c2, c3, c4⟩, ⟨e1, e2, e3⟩, ⟨f1, f2⟩, k1⟩ := hd3
            have hl3 := H3.lne
            simp only [sev, AllNe, and_true] at hl3
            obtain ⟨l1, l2, l3, l4, l5, l6, l7⟩ := hl3
            have hap := H3.apf
            have z1 : AllNe d fz3 := hap (d, o13) (.head _)
            have z2 : AllNe n fz3 := hap (n, o23) (.tail _ (.head _))
            have z3 : AllNe lout fz3 := hap (lout, listOf (ws ++ wn3).toArray eo3) (.tail _ (.tail _ (.head _)))
            have z4 : AllNe x fz3 := hap (x, instObj 255 dx) (.tail _ (.tail _ (.tail _ (.head _))))
            have z5 : AllNe dx fz3 := hap (dx, od3) (.tail _ (.tail _ (.tail _ (.tail _ (.head _)))))
            have z6 : AllNe it3 fz3 := hap (it3, io3) (.tail _ (.tail _ (.tail _ (.tail _ (.tail _ (.head _))))))
            have z7 : AllNe la fz3 := hap (la, ola3) (.tail _ (.tail _ (.tail _ (.tail _ (.tail _ (.tail _ (.head _)))))))
            have hol := H3.out.length
            have hfl3 : ((R.upto i).flat deep).length = (R.upto i).size := Row.flat_length _ _
            have hne2 := hne
            simp only [sev, List.cons_append, List.nil_append, AllNe] at hne2
            obtain ⟨y1, y2, y3, y4, y5, y6, y7, y8⟩ := hne2
            obtain ⟨wf, hwf⟩ : ∃ wf, wf = ws ++ wn3 := ⟨_, rfl⟩
            have hwl : wf.length ≤ 600 := by rw [hwf, List.length_append]; omega
            rw [← hwf] at N3
            dsimp only [sev, List.cons_append, List.nil_append] at N3
            k_steps
            all_goals
              (rename LoopSt _ _ _ _ _ _ _ _ => kS)
              (rename Fr g3 L' _ _ => kF)
              (rename News g3 L' _ _ => kN)
              (rename _ ∧ _ => kL)
              show Mid4 _
              rw [hMid4]
              have kW := ws_step2 H3 hwf kF kN kL kS (by rw [List.getElem?_eq_getElem hiv, hvt]) hne
              refine ⟨_, _, _, rfl, ?_, ?_, ?_, kW⟩
              · exact ⟨r1, r2, r3, r4, r5, r6, r7⟩
              · exact rfl
              · exact rfl
          · simp only [List.drop_succ_cons, List.drop_zero]
            clear F3 N3 H3 hne
            intro s' hs'
            rw [hMid4] at hs'
            obtain ⟨h5, tk5, m5, rfl, ⟨r1, r2, r3, r4, r5, r6, r7⟩, hit5, hat5, hW5⟩ := hs'
            have F5 := hW5.F
            obtain ⟨Mid5, hMid5⟩ : ∃ Mid5 : Shared → Prop, Mid5 = fun s' => ∃ (g6 h6 : Heap) (tk6 : Nat), s' = { s with heap := h6, toks := tk6 } ∧
              WSt w p loose mean mg mb (ktrTop dp un gd cn cs L a ccd cl outer) base (envX cn cs L a ccd cl :: outer) L' g' d n lout ag x dx la vs ws deep (i + 1) ((R.upto i).flat deep ++ [(deep, nn)]) [(I, oI)] g6 h6 m5 := ⟨_, rfl⟩
            refine execs_split Mid5 1 _ ?_ ?_
            · simp only [List.take_succ_cons, List.take_zero]
              k_steps
              (rename WSt _ _ _ _ _ _ _ _ _ _ _ _ _ _ _ _ _ _ _ _ _ _ _ _ _ _ _ => kW)
              show Mid5 _
              rw [hMid5]
              exact ⟨_, _, _, rfl, kW⟩
            · simp only [List.drop_succ_cons, List.drop_zero]
              clear hW5 F5
              intro s' hs'
              rw [hMid5] at hs'
              obtain ⟨g6, h6, tk6, rfl, hW6⟩ := hs'
              obtain ⟨Mid6, hMid6⟩ : ∃ Mid6 : Shared → Prop, Mid6 = fun s' => ∃ (g6 h6 : Heap) (tk6 : Nat), s' = { s with heap := h6, toks := tk6 } ∧
                WSt w p loose mean mg mb (ktrTop dp un gd cn cs L a ccd cl outer) base (envX cn cs L a ccd cl :: outer) L' g' d n lout ag x dx la vs ws deep (i + 1) ((R.upto (i + 1)).flat deep) [(I, oI)] g6 h6 m5 := ⟨_, rfl⟩
              refine execs_split Mid6 1 _ ?_ ?_
              · simp only [List.take_succ_cons, List.take_zero]
                obtain ⟨o15, o25, eo5, wn5, it5, l5, od5, io5, lo5, ola5, S5, last5, fz5, H5⟩ := hW6
                obtain ⟨B5, X5, P5, XB5, TB5, D5⟩ := H5.gr
                have T5 := H5.turn
                have kg5 : ∀ {b : Addr} {o : Obj}, (∀ es n, o.data ≠ .dict es n) → g'.get? b = some o → g6.get? b = some o := fun hn e => T5.other _ _ e (notFrame hge e hn)
                have ht5 := kg5 (fun _ _ z => by cases z) ht
                have hlb5 := kg5 (fun _ _ z => by cases z) hlb
                have hRb5 : RowIn (fun b o => g6.get? b = some o) vb b := hRb.mono fun b o _ hn e => kg5 hn e
                have F5 := H5.F
                have N5 := H5.N
                obtain ⟨es5, kd5, e5, hL5⟩ := H5.st.dict
                subst e5
                dsimp only [sev, List.cons_append, List.nil_append] at N5
                have hxl : ((R.upto i).flat deep ++ [(deep, nn)]).length = (R.upto i).size + 1 := by rw [List.length_append, Row.flat_length]; rfl
                obtain ⟨j, rfl⟩ : ∃ j, k = j + 1 := ⟨k - 1, by omega⟩
                have ihj : WSpec w p loose mean mg mb as d n lout (againCall ag) 5 j := IH j rfl
                cases hb0 : b.isNil with
                | true =>
                  k_steps
                  (rename Fr g6 L' _ _ => kF)
                  (rename News g6 L' _ _ => kN)
                  show Mid6 _
                  rw [hMid6, hfl, Row.isNil_nil hb0]
                  exact ⟨_, _, _, rfl, _, _, _, _, _, _, _, _, _, _, _, _, _, H5.move kF (nw_tl kN) H5.app⟩
                | false =>
                  k_steps
                  (rename WSt _ _ _ _ _ _ _ _ _ _ _ _ _ _ _ _ _ _ _ _ _ _ _ _ _ _ _ => kW)
                  show Mid6 _
                  rw [hMid6, hfl]
                  rw [List.append_assoc] at kW
                  exact ⟨_, _, _, rfl, kW⟩
              · simp only [List.drop_succ_cons, List.drop_zero]
                clear hW6
                intro s' hs'
                rw [hMid6] at hs'
                obtain ⟨g7, h7, tk7, rfl, hW7⟩ := hs'
                have F7 := hW7.F
                obtain ⟨B7, X7, P7, XB7, TB7, D7⟩ := hW7.gr
                k_steps
                (rename WSt _ _ _ _ _ _ _ _ _ _ _ _ _ _ _ _ _ _ _ _ _ _ _ _ _ _ _ => kW)
                obtain ⟨o18, o28, eo8, wn8, it8, l8, od8, io8, lo8, ola8, S8, last8, fz8, H8⟩ := kW
                refine hpost _ ⟨_, _, _, m5, _, rfl, H8.F, H8.N, H8.app _ (.head _), ?_⟩
                rw [hInv]
                exact ⟨⟨r1, r2, r3, r4, r5, r6, r7⟩, _, m5, o18, o28, eo8, wn8, it8, l8, od8, io8, lo8, ola8, S8, last8, fz8, H8.move H8.F (nw_tl H8.N) (fun q hq => nomatch hq), rfl⟩
        · intro g3 m3 news3 h4 tk4 hJ F3 N3
          replace F3 : Fr g3 L' h4 _ := F3
          replace N3 : News g3 L' h4 _ := N3
          rw [hInv] at hJ
          obtain ⟨⟨r1, r2, r3, r4, r5, r6, r7⟩, h0, m0, o13, o23, eo3, wn3, it3, l3, od3, io3, lo3, ola3, S3, last3, fz3, H3, rfl⟩ := hJ
          rw [Int.toNat_natCast] at H3
          have hW3 : WSt w p loose mean mg mb (ktrTop dp un gd cn cs L a ccd cl outer) base (envX cn cs L a ccd cl :: outer) L' g' d n lout ag x dx la vs ws deep vs.length ((R.upto vs.length).flat deep) [] g3 h4 m3 := ⟨_, _, _, _, _, _, _, _, _, _, _, _, _, H3.move F3 N3 (fun q hq => nomatch hq)⟩
          rw [show R.upto vs.length = R by rw [hvl, Row.upto_len]] at hW3
          obtain ⟨B3, X3, P3, XB3, TB3, D3⟩ := H3.gr
          clear H3 kF kN H2 N3
          dsimp only
          try k_fold
          k_steps
          (rename KtsTurn _ h₀ _ => kT)
          (rename Fr _ L _ m => kF)
          (rename News _ L _ _ => kN)
          (rename Fr _ L' _ _ => kF')
          (rename News _ L' _ _ => kG)
          (rename KtsTurn _ g' _ => kT')
          (rename OutIn _ _ _ => kO)
          (rename DrawsObj _ _ _ => kDr)
          (rename ∀ q, q ∈ _ → _ ≠ d ∧ _ => kne)
          refine ret _ _ _ _ _ _ _ (kO.mono fun b its nn z => ⟨(kG _ (.tail _ (.tail _ (.tail _ z)))).1, ?_⟩) kDr (T0.trans kT) ⟨by assumption, by assumption, by assumption, XB', TB', by assumption⟩ kF (nw_head3 kN) (keepsF_of G' kT' kF')
          · cases e : s.heap.get? b with
            | none => rfl
            | some o =>
              exfalso
              have hg := G' _ _ e (by
                simp only [List.map_cons, List.map_nil, List.mem_cons, List.not_mem_nil, or_false, not_or]
                exact kne _ z)
              obtain ⟨sl, q⟩ := kT'.up hg
              have := (kG _ (.tail _ (.tail _ (.tail _ z)))).2.2
              rw [show _ = _ from this] at q; cases q
end

/-! ## MLA -/
section
open PySem.Spec
section
variable {prog : Program} {w : World} {p : Program} {loose : List Str} {mean : ExcName → Option Value} {mg mb : Str → Option Value} {A₀ A : Around} {s : Shared} {base h₀ : Heap} {outer : List Env} {env : Env} {L : Addr} {m : Str → Option Value} {news : List (Addr × Obj)}
    {R : Result → Shared → Prop} {name qual : Str} {params : Arguments} {body : List Stmt} {scope : Scope} {cl : List (Str × Addr)} {dV kV doc pm cdv ct : Value} {an : Option Addr} {fo : Obj} {f : Addr} {args : Args} {binds : List (Str × Value)}
theorem enterN (Γ : Gr w p loose mean mg mb A₀ base outer h₀) (F : Fr h₀ L s.heap m) (N : News h₀ L s.heap news) (hA : A.frames = some (env :: outer)) (hf : env.frame = some L) (hke : env.scope.kind = .function)
    (ho : s.heap.get? f = some fo) (hfo : fo.data = .func (fnX name qual params body scope cl dV kV doc pm an cdv ct)) (hcd : s.heap.CodeRec cdv qual) (hroom : A.depth < recursionLimit)
    (hbind : BindsTo s (fnX name qual params body scope cl dV kV doc pm an cdv ct) args binds) (hloc : ∀ y ∈ binds, scope.names.lookup y.1 = some .local)
    (h : ∀ g L' h₁, Fr h₀ L g m → Fr g L' h₁ (fun y => binds.reverse.lookup y) → News g L' h₁ news → Gr w p loose mean mg mb A base (env :: outer) g → GSub s.heap g (news.map (·.1)) →
      wpAny (model prog w) (A.deeper (envX qual scope L' f cdv cl)) (execs body (envX qual scope L' f cdv cl))
        (fun fl s' => LeaveS (fsOf (env :: outer)) A₀ base outer (hd.heap_39 w.params) p loose mean mg mb h₀ h₀ L m g R (match fl with | .ret v => v | _ => .none) s')
        (fun e s' => wpAny (model prog w) (A.deeper (envX qual scope L' f cdv cl)) (leaving (envX qual scope L' f cdv cl) e) (fun _ s'' => R (.error e) s'') (fun e' s'' => R (.error e') s'') s')
        { s with heap := h₁, toks := s.toks + binds.length })
    (hco : scope.isCoroutine = false) (hgen : scope.isGenerator = false) (hk : scope.kind = .function) (hcell : ∀ x ∈ scope.names, x.2 ≠ .cell) : codeAny (model prog w) A (.call (.ref f) args) R s := by
  obtain ⟨FG, BG, st, lv⟩ := groundX (R := R) Γ.B F N hA hf hke
  have X := Γ.X.keeps F.keep
  have hfs : fsOf (env :: outer) = L :: fsOf outer := by show List.filterMap _ _ = _; rw [List.filterMap_cons, hf]
  have DG : KtsDicts (fsOf (env :: outer)) (hideAll s.heap (news.map (·.1))) := fun b hb => by
    rw [hfs] at hb
    rcases List.mem_cons.mp hb with rfl | hb
    · obtain ⟨o, es, ep, a, b, _⟩ := FG.ns; exact ⟨o, es, ep, a, b⟩
    · obtain ⟨o, es, ep, a, b⟩ := Γ.D b hb; exact ⟨o, es, ep, st _ _ a, b⟩
  refine codeAny_call_def (fd := fnX name qual params body scope cl dV kV doc pm an cdv ct) (body := body) (binds := binds) hroom ho hfo (Γ.T.nolimit.keeps F.keep) hcd rfl hbind hcell hloc (fun h₁ hns hk₁ => ?_) hco hgen hk
  refine wpAny_mono (h _ s.heap.objs.size h₁ FG ⟨hns, fun b o e => hk₁ b o (of_hideAll _ e), Nat.le_of_eq (hideAll_size _ _)⟩
    (fun q hq => ⟨hk₁ _ _ (N q hq).1, Nat.ne_of_lt (Heap.lt_size (N q hq).1), hideAll_none _ (List.mem_map_of_mem hq)⟩) ⟨BG, Γ.X.keeps st, Γ.T.keeps st, Γ.XB, Γ.TB, DG⟩ fun b o e n => hideAll_get _ e n) (fun fl s' hl => ?_) fun _ _ y => y
  rcases hl with hl | ⟨g', L', m', news', T', F', N', k⟩
  · exact lv _ _ hl
  · obtain ⟨h₁, a1, a2, a3, a4⟩ := back_ground Γ F st FG.ns (by rw [hfs]; exact fun b hb => (List.mem_cons.mp hb).imp id id) T' F' N'
    exact k h₁ a1 a2 a3 a4.B a4.X a4.T a4.D
end
section
variable {M : Model} {A : Around} {E : Value → Shared → Prop} {s : Shared} {h₀ : Heap} {L a : Addr} {m : Str → Option Value} {cn : Str} {cs : Scope} {ccd : Value} {cl : List (Str × Addr)} {x : Str} {pos : Pos} {v : Value} {Q : Value → Shared → Prop} {c : Addr} {oc : Obj}
/-- a name of an outer frame -/
theorem ld_free (F : Fr h₀ L s.heap m) (hc : cl.lookup x = some c) (hv : h₀.get? c = some oc) (hd : oc.data = .cell (some v)) (h : Q v s)
    (hk : cs.kind = .function := by rfl) (hx : (envX cn cs L a ccd cl).kindOf x = some .free := by rfl) (hb : (x == ("__debug__" : Str)) = false := by decide) (hn : (x == ("__classdict__" : Str)) = false := by decide) :
    wpAny M A (eval (.Name x pos) (envX cn cs L a ccd cl)) Q E s := wpAny_Name (wpAny_loadName_free hk hx hc ⟨_, F.keep _ _ hv, hd⟩ h hn) hb
end
section
variable {w : World} {p : Program} {loose : List Str} {mean : ExcName → Option Value} {mg mb : Str → Option Value}
theorem call_walk {as : List (Addr × Obj)} {d n lout ag j : Nat} (HW : WSpec w p loose mean mg mb as d n lout (walkCall d lout ag) 0 j) {dp un : Nat} {gd : Option (List Code)} {cn : Str} {cs : Scope} {a : Addr} {ccd : Value} {cl : List (Str × Addr)} {outer : List Env} {A₀ : Around} {base g₀ h₀ : Heap} {L : Addr} {m : Str → Option Value} {s : Shared} {Q E : Value → Shared → Prop} {lr ep eo : Nat} {vs ws : List Value} {R : Row} {deep : Int} {td : Tok} {o1 o2 : Obj}
   (Γ : Gr w p loose mean mg mb A₀ base outer h₀) (T0 : KtsTurn (fsOf outer) g₀ h₀) (F : Fr h₀ L s.heap m) (hk : cs.kind = .function) (hdep : R.depth ≤ j) (hsz : ws.length + R.size ≤ 500) (hdp : dp + 150 + 20 * j < recursionLimit) (hun : un + 1000 + 200 * j < cLine)
   (N : News h₀ L s.heap [(d, o1), (n, o2), (lout, listOf ws.toArray eo)]) (hdist : Dist [(d, o1), (n, o2), (lout, listOf ws.toArray eo)]) (hD : DrawsObj n o1 o2) (has : ∀ q ∈ as, TreeP s.heap d n lout q.1 q.2)
   (hlr : TreeP s.heap d n lout lr (listOf vs.toArray ep)) (hR : RowIn (TreeP s.heap d n lout) vs R)
   (ret : ∀ h₀' o1' o2' eo' wn h' tk', OutIn (fun b o => h'.get? b = some o ∧ s.heap.get? b = none) wn (R.flat deep) → DrawsObj n o1' o2' → KtsTurn (fsOf outer) g₀ h₀' → Gr w p loose mean mg mb A₀ base outer h₀' → Fr h₀' L h' m → News h₀' L h' [(d, o1'), (n, o2'), (lout, listOf (ws ++ wn).toArray eo')] →
     KeepsF [d, n, lout] (L :: fsOf outer) s.heap h' → Q (.bool true) { s with heap := h', toks := tk' }) :
   wpAny (model PySem.Challenge.rw_bb0046_01.row.prog w) (ktrTop dp un gd cn cs L a ccd cl outer) (call (.ref 426) [.ref d, .ref lr, .int deep td, .ref ag, .ref lout]) Q E s :=
  wpAny_call (HW Γ T0 F hk hdep hsz (by omega) (by omega) N hdist hD has hlr hR ret)
theorem walk_all {as : List (Addr × Obj)} {d n lout ag : Nat} (hag : ∃ oc od fd sl, (ag, (⟨oc, od, .func fd, sl⟩ : Obj)) ∈ as) (asOk : ∀ q ∈ as, ∀ es n, q.2.data ≠ .dict es n)
    (hstep : ∀ j, j ≤ 5 → WSpec w p loose mean mg mb as d n lout (walkCall d lout ag) 0 j → WSpec w p loose mean mg mb as d n lout (againCall ag) 5 j) : ∀ j, j ≤ 5 → WSpec w p loose mean mg mb as d n lout (walkCall d lout ag) 0 j
  | 0, h => walk_step h (fun j e => by cases e) hag asOk
  | j + 1, h => walk_step h (fun i e => by cases e; exact hstep j (by omega) (walk_all hag asOk hstep j (by omega))) hag asOk
end
end

/-! ## MLB -/
section
variable {w : World} {p : Program} {loose : List Str} {mean : ExcName → Option Value} {mg mb : Str → Option Value}
theorem law_point {dp un : Nat} {gd : Option (List Code)} {cn : Str} {cs : Scope} {a : Addr} {ccd : Value} {cl : List (Str × Addr)} {outer : List Env} {A₀ : Around} {base g₀ h₀ : Heap} {L : Addr} {m : Str → Option Value} {s : Shared} {Q E : Value → Shared → Prop} {f c lout d n tr sl cB cA tb e0 et : Nat} {fo oc o1 o2 so oB oA to x1 x2 x3 x4 x5 x6 x7 : Obj} {vs : List Value} {fz : List (Addr × Obj)} {R : Row} {td : Tok} {fv : Array Value}
   (Γ : Gr w p loose mean mg mb A₀ base outer h₀) (T0 : KtsTurn (fsOf outer) g₀ h₀) (F : Fr h₀ L s.heap m) (hk : cs.kind = .function) (hdp : dp + 300 < recursionLimit) (hun : un + 3000 < cLine)
   (N : News h₀ L s.heap ((f, fo) :: (c, oc) :: (lout, listOf #[] e0) :: (d, o1) :: (n, o2) :: (tr, listOf vs.toArray et) :: (sl, so) :: (cB, oB) :: (cA, oA) :: (tb, to) :: fz))
   (hfo : ∃ oc od fd sl, fo = (⟨oc, od, .func fd, sl⟩ : Obj)) (hoc : oc.data = .fields fv) (hcA : oA.data = .cell (some (.ref d))) (hcB : oB.data = .cell (some (.ref lout)))
   (hD : DrawsObj n o1 o2) (hR : RowIn (fun b o => (b, o) ∈ fz) vs R) (hRs : R.size ≤ 4 * Wt 2) (hRd : R.depth ≤ 2 + 1)
   (kf : c < f) (kc : AllLt c ((lout, listOf #[] e0) :: (d, o1) :: (n, o2) :: (tr, listOf vs.toArray et) :: (sl, so) :: (cB, oB) :: (cA, oA) :: (tb, to) :: fz)) (klo : AllLt lout ((d, o1) :: (n, o2) :: (tr, listOf vs.toArray et) :: (sl, so) :: (cB, oB) :: (cA, oA) :: (tb, to) :: fz))
   (ka : Apart [(d, x1), (n, x2), (sl, x3), (cB, x4), (cA, x5), (tb, x6)] ((tr, x7) :: fz)) (kd : AllLt d [(n, o2), (sl, so), (cB, oB), (cA, oA), (tb, to)]) (kn : sl ≠ n ∧ cB ≠ n ∧ cA ≠ n ∧ tb ≠ n)
   (hstep : ∀ j, j ≤ 5 → WSpec w p loose mean mg mb [(f, fo), (c, oc), (cB, oB), (cA, oA)] d n lout (walkCall d lout f) 0 j → WSpec w p loose mean mg mb [(f, fo), (c, oc), (cB, oB), (cA, oA)] d n lout (againCall f) 5 j)
   (ret : ∀ h₀' o1' o2' eo' wn fzn h' tk', OutIn (fun b o => (b, o) ∈ fzn) wn (R.flat 0) → RowIn (fun b o => (b, o) ∈ fzn) vs R → KtsTurn (fsOf outer) g₀ h₀' → Gr w p loose mean mg mb A₀ base outer h₀' → Fr h₀' L h' m →
     News h₀' L h' ((f, fo) :: (c, oc) :: (lout, listOf wn.toArray eo') :: (d, o1') :: (n, o2') :: (tr, listOf vs.toArray et) :: (sl, so) :: (cB, oB) :: (cA, oA) :: (tb, to) :: fzn) → Q (.bool true) { s with heap := h', toks := tk' }) :
   wpAny (model PySem.Challenge.rw_bb0046_01.row.prog w) (ktrTop dp un gd cn cs L a ccd cl outer) (call (.ref 426) [.ref d, .ref tr, .int 0 td, .ref f, .ref lout]) Q E s := by
  simp only [AllLt] at kc klo kd
  obtain ⟨c1, c2, c3, c4, c5, c6, c7, c8, c9⟩ := kc
  obtain ⟨l1, l2, l3, l4, l5, l6, l7, l8⟩ := klo
  obtain ⟨d1, d2, d3, d4, d5, _⟩ := kd
  obtain ⟨n1, n2, n3, n4⟩ := kn
  have adz := ka (d, x1) (.head _)
  have anz := ka (n, x2) (.tail _ (.head _))
  have w2 : Wt 2 = 21 := rfl
  have hne : ∀ q ∈ ((f, fo) :: (c, oc) :: (tr, listOf vs.toArray et) :: (sl, so) :: (cB, oB) :: (cA, oA) :: (tb, to) :: fz : List (Addr × Obj)), (q.1 : Nat) ≠ d ∧ (q.1 : Nat) ≠ n ∧ (q.1 : Nat) ≠ lout := fun q hq => by
    simp only [List.mem_cons] at hq
    rcases hq with rfl | rfl | rfl | rfl | rfl | rfl | rfl | hq
    · refine ⟨neN ?_, neN ?_, neN ?_⟩ <;> (dsimp only; omega)
    · refine ⟨neN ?_, neN ?_, neN ?_⟩ <;> (dsimp only; omega)
    · exact ⟨adz.1, anz.1, Nat.ne_of_lt l3⟩
    · exact ⟨Nat.ne_of_lt d2, n1, Nat.ne_of_lt l4⟩
    · exact ⟨Nat.ne_of_lt d3, n2, Nat.ne_of_lt l5⟩
    · exact ⟨Nat.ne_of_lt d4, n3, Nat.ne_of_lt l6⟩
    · exact ⟨Nat.ne_of_lt d5, n4, Nat.ne_of_lt l7⟩
    · exact ⟨allNe_mem adz.2 q hq, allNe_mem anz.2 q hq, Nat.ne_of_lt (allLt_mem l8 q hq)⟩
  obtain ⟨foc, fod, ffd, fsl, hfe⟩ := hfo
  have asOk : ∀ q ∈ [(f, fo), (c, oc), (cB, oB), (cA, oA)], ∀ es n, q.2.data ≠ .dict es n := fun q hq es k z => by
    simp only [List.mem_cons, List.not_mem_nil, or_false] at hq
    rcases hq with rfl | rfl | rfl | rfl
    · rw [hfe] at z; cases z
    · rw [show oc.data = _ from z] at hoc; cases hoc
    · rw [show oB.data = _ from z] at hcB; cases hcB
    · rw [show oA.data = _ from z] at hcA; cases hcA
  have hW : WSpec w p loose mean mg mb [(f, fo), (c, oc), (cB, oB), (cA, oA)] d n lout (walkCall d lout f) 0 3 := walk_all (as := [(f, fo), (c, oc), (cB, oB), (cA, oA)]) (d := d) (n := n) (lout := lout) (ag := f) (w := w) (p := p) (loose := loose) (mean := mean) (mg := mg) (mb := mb) ⟨foc, fod, ffd, fsl, by rw [hfe]; exact .head _⟩ asOk hstep 3 (by decide)
  have N3 : News h₀ L s.heap [(d, o1), (n, o2), (lout, listOf #[] e0)] := nw_sub N fun q hq => by
    simp only [List.mem_cons, List.not_mem_nil, or_false] at hq ⊢
    rcases hq with e | e | e <;> simp [e]
  have tp : ∀ {q : Addr × Obj}, q ∈ ((f, fo) :: (c, oc) :: (tr, listOf vs.toArray et) :: (sl, so) :: (cB, oB) :: (cA, oA) :: (tb, to) :: fz : List (Addr × Obj)) → TreeP s.heap d n lout q.1 q.2 := fun {q} hq => ⟨(N q (by
    simp only [List.mem_cons] at hq ⊢
    rcases hq with e | e | e | e | e | e | e | e <;> simp [e])).1, hne q hq⟩
  have hRt : RowIn (TreeP s.heap d n lout) vs R := hR.mono fun b o _ _ z => tp (q := (b, o)) (by simp [z])
  refine call_walk (g₀ := h₀) (ws := []) (eo := e0) hW Γ KtsTurn.refl F hk hRd (by simp only [List.length_nil]; omega) (by omega) (by omega) N3 ?_ hD (fun q hq => tp (by
    simp only [List.mem_cons, List.not_mem_nil, or_false] at hq ⊢
    rcases hq with e | e | e | e <;> simp [e])) (tp (q := (tr, listOf vs.toArray et)) (by simp)) hRt ?_
  · simp only [Dist, AllNe, and_true]
    exact ⟨⟨Nat.ne_of_lt d1, Nat.ne_of_gt l1⟩, Nat.ne_of_gt l2⟩
  · intro h₀' o1' o2' eo' wn h' tk' hO hD' T' Γ' F' N' K'
    rw [List.nil_append] at N'
    obtain ⟨fz2, hO2, hz2⟩ := hO.ledger
    have stay : ∀ q ∈ ((f, fo) :: (c, oc) :: (tr, listOf vs.toArray et) :: (sl, so) :: (cB, oB) :: (cA, oA) :: (tb, to) :: fz : List (Addr × Obj)), h'.get? q.1 = some q.2 ∧ q.1 ≠ L ∧ h₀'.get? q.1 = none := fun q hq =>
      nwF_after (rest := [q]) N Γ.D T' N' K' (fun z hz => by
        rw [List.mem_singleton.mp hz]
        simp only [List.mem_cons, List.not_mem_nil, or_false, not_or]
        refine ⟨?_, (hne q hq).1, (hne q hq).2.1, (hne q hq).2.2⟩
        simp only [List.mem_cons] at hq
        rcases hq with e | e | e | e | e | e | e | e <;> simp [e]) q (List.mem_append_right _ (.head _))
    refine ret h₀' o1' o2' eo' wn (fz ++ fz2) h' tk' (hO2.mono fun _ _ _ z => List.mem_append_right _ z) (hR.mono fun _ _ _ _ z => List.mem_append_left _ z) (T0.trans T') Γ' F' fun q hq => ?_
    simp only [List.mem_cons, List.mem_append] at hq
    rcases hq with rfl | rfl | rfl | rfl | rfl | rfl | rfl | rfl | rfl | rfl | hq | hq
    · exact stay _ (by simp)
    · exact stay _ (by simp)
    · exact N' _ (.tail _ (.tail _ (.head _)))
    · exact N' _ (.head _)
    · exact N' _ (.tail _ (.head _))
    · exact stay _ (by simp)
    · exact stay _ (by simp)
    · exact stay _ (by simp)
    · exact stay _ (by simp)
    · exact stay _ (by simp)
    · exact stay q (by simp [hq])
    · obtain ⟨q1, q2⟩ := hz2 q hq
      refine ⟨q1, fun e => ?_, T'.none_ _ ?_⟩
      · obtain ⟨oL, _, _, hL', _⟩ := F.ns
        rw [← e, show s.heap.get? q.1 = none from q2] at hL'; cases hL'
      · cases e : h₀.get? q.1 with
        | none => rfl
        | some o => have := F.keep _ _ e; rw [show s.heap.get? q.1 = none from q2] at this; cases this
end

/-! ## MLC -/
theorem back0F {h₀ h₁ h : Heap} {L : Addr} {m : Str → Option Value} (T : KtsTurn [] h₀ h₁) (F : Fr h₁ L h m) : Fr h₀ L h m := ⟨F.ns, fun b o e => F.keep _ _ (T.other b o e List.not_mem_nil), by rw [← T.size]; exact F.above⟩
theorem back0N {h₀ h₁ h : Heap} {L : Addr} {news : List (Addr × Obj)} (T : KtsTurn [] h₀ h₁) (N : News h₁ L h news) : News h₀ L h news := fun q hq => ⟨(N q hq).1, (N q hq).2.1, by
  cases e : h₀.get? q.1 with
  | none => rfl
  | some o =>
    obtain ⟨sl, z⟩ := T.up e
    rw [(N q hq).2.2] at z; cases z⟩
section
variable {g h h' : Heap} {L : Addr} {m : Str → Option Value} {d n lout : Nat} {o1 o2 o3 : Obj}
theorem treeP_g (G : GSub h g (List.map (fun x => x.1) [(d, o1), (n, o2), (lout, o3)])) {b : Addr} {o : Obj} (e : TreeP h d n lout b o) : g.get? b = some o := G _ _ e.1 (by
  simp only [List.map_cons, List.map_nil, List.mem_cons, List.not_mem_nil, or_false, not_or]
  exact e.2)
theorem treeP_up (G : GSub h g (List.map (fun x => x.1) [(d, o1), (n, o2), (lout, o3)])) (F : Fr g L h' m) {b : Addr} {o : Obj} (e : TreeP h d n lout b o) : TreeP h' d n lout b o := ⟨F.keep _ _ (treeP_g G e), e.2⟩
theorem treeR_up (G : GSub h g (List.map (fun x => x.1) [(d, o1), (n, o2), (lout, o3)])) (F : Fr g L h' m) {vs : List Value} {R : Row} (e : RowIn (TreeP h d n lout) vs R) : RowIn (TreeP h' d n lout) vs R := e.mono fun _ _ _ _ z => treeP_up G F z
theorem treeA_up (G : GSub h g (List.map (fun x => x.1) [(d, o1), (n, o2), (lout, o3)])) (F : Fr g L h' m) {as : List (Addr × Obj)} (e : ∀ q ∈ as, TreeP h d n lout q.1 q.2) : ∀ q ∈ as, TreeP h' d n lout q.1 q.2 := fun q hq => treeP_up G F (e q hq)
theorem outs_up {h2 : Heap} {wn : List Value} {xs : List (Int × Int)} (G : GSub h g (List.map (fun x => x.1) [(d, o1), (n, o2), (lout, o3)])) (F : Fr g L h' m) (N : News g L h' [(d, o1), (n, o2), (lout, o3)]) (O : OutIn (fun b o => h2.get? b = some o ∧ h'.get? b = none) wn xs) :
    OutIn (fun b o => h2.get? b = some o ∧ h.get? b = none) wn xs := O.mono fun b its k z => ⟨z.1, by
  cases e : h.get? b with
  | none => rfl
  | some o =>
    exfalso
    by_cases hm : b ∈ List.map (fun x => x.1) [(d, o1), (n, o2), (lout, o3)]
    · obtain ⟨q, hq, rfl⟩ := List.mem_map.mp hm
      have := (N q hq).1
      rw [z.2] at this; cases this
    · have := F.keep _ _ (G _ _ e hm)
      rw [z.2] at this; cases this⟩
end
theorem draws_mk {n : Nat} {cur : Int} {t : Tok} {vs : List Value} {ns : List Int} {ep ep2 : Nat} (hI : IntsAre vs ns) (h : vs.length ≤ 8) : DrawsObj n (listOf #[.int cur t, .ref n] ep) (listOf vs.toArray ep2) := ⟨cur, t, ep, vs, ep2, ns, rfl, rfl, hI, h⟩
theorem rowIn_led {g h : Heap} {L : Addr} {fz news : List (Addr × Obj)} {vs : List Value} {R : Row} (hR : RowIn (fun b o => (b, o) ∈ fz) vs R) (N : News g L h news) (hs : ∀ q ∈ fz, q ∈ news) : RowIn (fun b o => h.get? b = some o) vs R := hR.mono fun b o _ _ z => (N (b, o) (hs _ z)).1
abbrev pairDat (p : Int × Int) : PyData := .tuple [.int p.1, .int p.2]
theorem OutIn.reads {h : Heap} {vs : List Value} {xs : List (Int × Int)} (x : OutIn (fun b o => h.get? b = some o) vs xs) : ∃ as, ReadsAll h vs (xs.map pairDat) as := by
  induction x with
  | nil => exact ⟨_, .nil⟩
  | cons h1 _ ih =>
    obtain ⟨as, a1⟩ := ih
    exact ⟨_, .cons (reads_tuple_at h1 rfl rfl (.cons (Reads.int _ _) (.cons (Reads.int _ _) .nil))) a1⟩
theorem pairs_lay (xs : List (Int × Int)) : PyData.canLayAll0 (xs.map pairDat) = true := by
  induction xs with
  | nil => rfl
  | cons p r ih => simp only [List.map_cons, PyData.canLayAll0, PyData.canLay0, ih, Bool.and_self]
theorem pairs_depth (xs : List (Int × Int)) : PyData.depthAll (xs.map pairDat) ≤ 1 := by
  induction xs with
  | nil => exact Nat.zero_le _
  | cons p r ih => simp only [List.map_cons, PyData.depthAll, PyData.depth]; omega
section
variable {prog : Program} {w : World} {A : Around} {E : Value → Shared → Prop} {s : Shared} {g : Heap} {L a b : Addr} {news f1 f2 : List (Addr × Obj)} {Q : Value → Shared → Prop} {v1 v2 : List Value} {e1 e2 : Nat} {xs : List (Int × Int)}
theorem eq_out (N : News g L s.heap news) (ha : (a, listOf v1.toArray e1) ∈ news) (hb : (b, listOf v2.toArray e2) ∈ news) (O1 : OutIn (fun b o => (b, o) ∈ f1) v1 xs) (O2 : OutIn (fun b o => (b, o) ∈ f2) v2 xs) (s1 : ∀ q ∈ f1, q ∈ news) (s2 : ∀ q ∈ f2, q ∈ news) (hu : A.units + 64 < cLine) (h : Q (.bool true) s) :
    wpAny (model prog w) A (compareOp .Eq (.ref a) (.ref b)) Q E s := by
  obtain ⟨as, ra⟩ := (O1.mono fun b its n z => (N (b, tupOf its n) (s1 _ z)).1 : OutIn (fun b o => s.heap.get? b = some o) v1 xs).reads
  obtain ⟨bs, rb⟩ := (O2.mono fun b its n z => (N (b, tupOf its n) (s2 _ z)).1 : OutIn (fun b o => s.heap.get? b = some o) v2 xs).reads
  have ra := reads_list_at (N _ ha).1 rfl rfl ra
  have rb := reads_list_at (N _ hb).1 rfl rfl rb
  have hl : (PyData.list (xs.map pairDat)).canLay0 = true := by simp only [PyData.canLay0, pairs_lay]
  have hs : SeqAt.shaped (.list (xs.map pairDat)) = true := by
    have := pairs_depth xs
    have hd2 : (PyData.list (xs.map pairDat)).depth ≤ 64 := by simp only [PyData.depth]; omega
    unfold SeqAt.shaped
    rw [hl, decide_eq_true hd2]; rfl
  refine eq_dataH ra rb hs hs hu ?_
  rw [SeqAt.eqv_refl _ hl]
  exact h
end
section
variable {w : World} {p : Program} {loose : List Str} {mean : ExcName → Option Value} {mg mb : Str → Option Value}
theorem call_bare {dp un : Nat} {gd : Option (List Code)} {cn : Str} {cs : Scope} {a : Addr} {ccd : Value} {cl : List (Str × Addr)} {outer : List Env} {A₀ : Around} {base g₀ h₀ : Heap} {L : Addr} {m : Str → Option Value} {s : Shared} {Q E : Value → Shared → Prop} {lr ep : Nat} {vs : List Value} {news : List (Addr × Obj)}
   (Γ : Gr w p loose mean mg mb A₀ base outer h₀) (T0 : KtsTurn (fsOf outer) g₀ h₀) (F : Fr h₀ L s.heap m) (hk : cs.kind = .function) (hdp : dp + 80 < recursionLimit) (hun : un + 300 < cLine) (N : News h₀ L s.heap news) (hlr : s.heap.get? lr = some (listOf vs.toArray ep))
   (ret : ∀ h₀' h' tk', KtsTurn (fsOf outer) g₀ h₀' → Gr w p loose mean mg mb A₀ base outer h₀' → Fr h₀' L h' m → News h₀' L h' news → Q (.bool true) { s with heap := h', toks := tk' }) :
   wpAny (model PySem.Challenge.rw_bb0046_01.row.prog w) (ktrTop dp un gd cn cs L a ccd cl outer) (call (.ref 447) [.ref lr]) Q E s :=
  wpAny_call (bare_spec (g₀ := h₀) Γ KtsTurn.refl F hk hdp hun hlr fun h₀' h' tk' a1 a2 a3 a4 => ret h₀' h' tk' (T0.trans a1) a2 a3 (by
    have := nwF_after (t := []) (rest := news) N Γ.D a1 News.nil a4 fun q hq => ⟨hq, List.not_mem_nil⟩
    rwa [List.nil_append] at this))
end
end
end
end
end
end
end
end

/-! ## LAW -/
section
local macro_rules | `(tactic| k_ne) => `(tactic| (refine neN ?_; (try dsimp only); first | with_reducible assumption | (refine Ne.symm ?_; with_reducible assumption) | exact Apart.ne (by assumption) (by k_mem) (by k_mem) | exact (Apart.ne (by assumption) (by k_mem) (by k_mem)).symm | omega))
local macro_rules | `(tactic| k_all) => `(tactic| first | exact List.forall_mem_nil _ | ((first | with_reducible refine' List.forall_mem_cons.mpr ⟨?a, ?b⟩ | refine' List.forall_mem_cons.mpr ⟨?a, ?b⟩); (case a => k_ne); (case b => k_all)) | ((first | with_reducible refine' allNe_mem ?a | refine' allNe_mem ?a); (case a => first | with_reducible assumption | exact allNe_app (by with_reducible assumption) (Apart.tl (by assumption) (by k_mem)))))
local macro_rules | `(tactic| walk_at "call builtin:list.append") => `(tactic| (k_here; (with_reducible show wpAny _ _ (call (Value.builtin _) [Value.ref _, _]) _ _ _); k_dflt ((first | with_reducible refine' k_append ?F ?N ?U ?z ?_ | refine' k_append ?F ?N ?U ?z ?_); (case F => k_asm); (case N => k_asm); (case U => k_upd); (case z => omega)); k_whole; intro h' F' N'; (try k_sweep)))
local macro_rules | `(tactic| k_all) => `(tactic| first | exact List.forall_mem_nil _ | ((first | with_reducible refine' List.forall_mem_cons.mpr ⟨?a, ?b⟩ | refine' List.forall_mem_cons.mpr ⟨?a, ?b⟩); (case a => k_ne); (case b => k_all)) | ((first | with_reducible refine' allNe_mem ?a | refine' allNe_mem ?a); (case a => first | with_reducible assumption | exact allNe_app (by with_reducible assumption) (Apart.tl (by assumption) (by k_mem)) | exact Apart.tl (by assumption) (by k_mem))))
local macro_rules | `(tactic| walk_at "call ref") => `(tactic| (k_here; (with_reducible show wpAny _ _ (call (Value.ref 384) _) _ _ _); k_dflt ((first | with_reducible refine' call_tree (k := 2) ?IH ?B ?F ?X ?T ?kk ?de ?dp ?un ?N ?D1 ?D2 ?hD ?dn ?_ | refine' call_tree (k := 2) ?IH ?B ?F ?X ?T ?kk ?de ?dp ?un ?N ?D1 ?D2 ?hD ?dn ?_); (case B => k_asm); (case F => k_asm); (case X => k_asm); (case T => k_asm); (case IH => exact tree_spec 2); (case kk => exact rfl); (case N => k_asm); (case D1 => (repeat' ((with_reducible show Del _ _ _ _); first | ((first | with_reducible refine' Del.head ?_ | refine' Del.head ?_); k_all) | ((first | with_reducible refine' Del.tail (by k_ne) ?_ | refine' Del.tail (by k_ne) ?_))))); (case D2 => (repeat' ((with_reducible show Del _ _ _ _); first | ((first | with_reducible refine' Del.head ?_ | refine' Del.head ?_); k_all) | ((first | with_reducible refine' Del.tail (by k_ne) ?_ | refine' Del.tail (by k_ne) ?_))))); (case hD => ((first | with_reducible refine' draws_mk ?da ?db | refine' draws_mk ?da ?db); (case da => assumption); (case db => ((rename List.length _ = List.length (List.map _ _) => hm8); rw [List.length_map] at hm8; omega)))); (case dn => k_ne); (case de => decide); (case dp => decide); (case un => decide)); k_whole; intro l' vs' ep' R' o1' o2' fz' h' tk' hR' hl' hs' hd' hD' F' N' d' x' K'; (dsimp only [List.cons_append, List.nil_append] at N'); (try k_sweep)))
local macro_rules | `(tactic| walk_at "call ref") => `(tactic| (k_here; (with_reducible show wpAny _ _ (call (Value.ref 440) _) _ _ _); k_dflt ((first | with_reducible refine' call_flat (k := 3) ?IH ?B ?F ?X ?T ?kk ?de ?sz ?dp ?un ?N ?hl ?hR ?_ | refine' call_flat (k := 3) ?IH ?B ?F ?X ?T ?kk ?de ?sz ?dp ?un ?N ?hl ?hR ?_); (case B => k_asm); (case F => k_asm); (case X => k_asm); (case T => k_asm); (case IH => exact flat_spec 3); (case kk => exact rfl); (case N => k_asm); (case hl => exact News.get (by k_asm) (by k_mem)); (case hR => exact rowIn_led (by with_reducible assumption) (by k_asm) (fun q hq => by simp [hq])); (case de => omega); (case sz => (have w2 : Wt 2 = 21 := rfl; omega)); (case dp => decide); (case un => decide)); k_whole; intro l' ws' ep' fz' h' tk' hO' F' N' d' x' K'; (dsimp only [List.cons_append] at N'); (try k_sweep)))
local macro_rules | `(tactic| walk_at "compareOp Eq ref ref") => `(tactic| (k_here; (with_reducible show wpAny _ _ (compareOp CmpOp.Eq (Value.ref _) (Value.ref _)) _ _ _); k_dflt ((first | with_reducible refine' eq_out ?N ?ma ?mb ?o1 ?o2 ?s1 ?s2 ?u ?_ | refine' eq_out ?N ?ma ?mb ?o1 ?o2 ?s1 ?s2 ?u ?_); (case N => k_asm); (case ma => k_mem); (case mb => k_mem); (case o1 => with_reducible assumption); (case o2 => with_reducible assumption); (case s1 => (intro q hq; simp [hq])); (case s2 => (intro q hq; simp [hq])); (case u => exact Nat.le_of_ble_eq_true rfl)); k_whole))
local macro_rules | `(tactic| walk_at "call ref") => `(tactic| (k_here; (with_reducible show wpAny _ _ (call (Value.ref 447) _) _ _ _); k_dflt ((first | with_reducible refine' call_bare ?G ?T0 ?F ?kk ?dp ?un ?N ?hl ?_ | refine' call_bare ?G ?T0 ?F ?kk ?dp ?un ?N ?hl ?_); (case F => k_asm); (case G => exact ⟨by assumption, by assumption, by assumption, by assumption, by assumption, fun b hb => nomatch hb⟩); (case T0 => exact KtsTurn.refl); (case kk => exact rfl); (case N => k_asm); (case hl => exact News.get (by k_asm) (by k_mem)); (case dp => decide); (case un => decide)); k_whole; intro g' h' tk' T0' G' F' N'; (k_dflt (have F2' := back0F T0' F')); (k_dflt (have N2' := back0N T0' N')); (clear N' F' G' T0')))
local macro_rules | `(tactic| walk_at "eval Name") => `(tactic| (k_here; (rename WSpec _ _ _ _ _ _ _ _ _ _ _ _ _ => ihX); k_dflt ((first | with_reducible refine' ld_free ?F ?cc ?v ?dd ?_ | refine' ld_free ?F ?cc ?v ?dd ?_); (case F => k_asm); (case cc => rfl); (case v => with_reducible assumption); (case dd => assumption); k_whole)))
local macro_rules | `(tactic| walk_at "call ref") => `(tactic| (k_here; (rename WSpec _ _ _ _ _ _ _ _ _ _ _ _ _ => ihX); (with_reducible show wpAny _ _ (call (Value.ref 426) _) _ _ _); k_dflt ((first | with_reducible refine' call_walk ihX ?G ?T0 ?F ?kk ?dep ?sz ?dp ?un ?N ?di ?hD ?has ?hl ?hR ?_ | refine' call_walk ihX ?G ?T0 ?F ?kk ?dep ?sz ?dp ?un ?N ?di ?hD ?has ?hl ?hR ?_); (case F => k_asm); (case G => exact ⟨by assumption, by assumption, by assumption, by assumption, by assumption, by assumption⟩); (case T0 => exact KtsTurn.refl); (case kk => exact rfl); (case N => k_asm); (case di => assumption); (case hD => assumption); (case dep => assumption); (case sz => assumption); (case has => with_reducible assumption); (case hl => with_reducible assumption); (case hR => with_reducible assumption); (case dp => ((try dsimp only [ktrTop]); omega)); (case un => ((try simp only [units_in1, units_deeper, Around.mark_units, units_caller]); (try dsimp only [ktrTop]); omega))); k_whole; intro g' o1' o2' eo' wn' h' tk' hO' hD' T1' G' F' N' K'; (obtain ⟨B', X', T', XB', TB', D'⟩ := G')))
theorem reset_LAW : True := by
  w_top off
  trivial
theorem law_holds : PySem.Challenge.rw_bb0046_01.Holds := hd (by
  k_go0
  all_goals try k_fold
  iterate 71 (first | (k_unfold; (try dsimp only)) | (k_end; kc_close) | walk1 | (dsimp only; walk1) | (leave1; try dsimp only))
  k_dflt (refine' law_point ?G ?T0 ?F ?kk ?dp ?un ?N ?fo ?oc ?cA ?cB ?hD ?hR ?hs ?hd ?kf ?kc ?klo ?ka ?kd ?kn ?step ?_)
  case F => k_asm
  case G => exact ⟨by assumption, by assumption, by assumption, by assumption, by assumption, fun b hb => nomatch hb⟩
  case T0 => exact KtsTurn.refl
  case kk => exact rfl
  case dp => decide
  case un => decide
  case N => k_asm
  case fo => exact ⟨_, _, _, _, rfl⟩
  case oc => assumption
  case cA => assumption
  case cB => assumption
  case hD => assumption
  case hR => assumption
  case hs => assumption
  case hd => assumption
  case kf => assumption
  case kc => (simp only [AllLt, and_true]; assumption)
  case klo => (simp only [AllLt, and_true]; assumption)
  case ka => assumption
  case kd => (simp only [AllLt, and_true]; assumption)
  case kn => assumption
  case step =>
    intro j hj5 HW dp un gd cn cs a ccd cl outer A₀ base g₀ h₀ L m s R' lr ep eo vs ws R deep td o1 o2 Γ T0 F hk hdep hsz hdp hun N hdist hD has hlr hR ret
    have hf := (has _ (.head _)).1
    have hc := (has _ (.tail _ (.head _))).1
    have hB := has _ (.tail _ (.tail _ (.head _)))
    have hA := has _ (.tail _ (.tail _ (.tail _ (.head _))))
    refine' enterN Γ F N ?kA ?kF ?kK hf ?kfo ?hcd ?k8 ?k9 ?kB ?_ ?c2 ?c3 ?c4 ?c5
    case kA => exact rfl
    case kF => exact rfl
    case kK => assumption
    case kfo => exact rfl
    case hcd => exact ⟨_, _, _, _, rfl, hc, by assumption, by assumption⟩
    case k8 => (dsimp only [ktrTop]; omega)
    case k9 => exact BindsTo.of_eq rfl
    case c5 => decide
    case kB => exact locs rfl
    case c2 => exact rfl
    case c3 => exact rfl
    case c4 => exact rfl
    intro g' L' h' FG' F' N' Γ' G'
    obtain ⟨B', X', T', XB', TB', D'⟩ := Γ'
    have hBg := treeP_g G' hB
    have hAg := treeP_g G' hA
    have hasg := treeA_up G' F' has
    have hlrg := treeP_up G' F' hlr
    have hRg := treeR_up G' F' hR
    have F0 := F'
    have N0 := N'
    try dsimp only
    try k_fold
    k_steps
    (rename KtsTurn _ g' _ => kT')
    (rename KtsTurn _ h₀ _ => kT)
    (rename Fr _ L _ m => kF)
    (rename News _ L _ _ => kN)
    (rename Fr _ L' _ _ => kF')
    (rename OutIn _ _ _ => kO)
    (rename DrawsObj _ _ _ => kD)
    exact ret _ _ _ _ _ _ _ (outs_up G' F0 N0 kO) kD (T0.trans kT) ⟨by assumption, by assumption, by assumption, XB', TB', by assumption⟩ kF kN (keepsF_of G' kT' kF')
  k_whole
  intro g' o1' o2' eo' wn' fz' h' tk' hO' hR' T' G' F' N'
  replace F' := back0F T' F'
  replace N' := back0N T' N'
  clear T' G'
  k_steps)
#print axioms law_holds
end
end
end Mine
theorem PySem.Challenge.cw_bb0046_01_holds : PySem.Challenge.rw_bb0046_01.Holds := by
  exact Mine.law_holds
