import PyProof.Rows.All
import Wide.All
import OpenK.AllK
import Wide.FinOn
import Lean
import PySem.Challenge.RW_bb0002_01
open PySem PySem.W PySem.W.X PyProof.Rows
set_option Elab.async false
set_option maxRecDepth 100000
set_option maxHeartbeats 0
set_option linter.all false
namespace Mine
section
local macro_rules | `(tactic| o_law) => `(tactic| refine' (fun (_ : PySem.Challenge.rw_bb0002_01.row.Holds → PySem.Challenge.rw_bb0002_01.row.Holds) (_ : True) (h : PySem.Challenge.rw_bb0002_01.Holds) => h) (fun x => ?_) ?hw ?_)
local macro_rules | `(tactic| o_head $_) => `(tactic| assumption)
local macro_rules | `(tactic| w_witness2) => `(tactic| trivial)
open_top kf for PySem.Challenge.rw_bb0002_01
end
section
local macro_rules | `(tactic| k_head) => `(tactic| z_head)
open_top hd for PySem.Challenge.rw_bb0002_01
end
theorem kf_sub (p : Params) : (kf.heap_1 p).map (fun q => (hd.heap_668 p).lookup q.1) = (kf.heap_1 p).map (fun q => some q.2) := by kernel_rfl
theorem filled : PySem.Challenge.rw_bb0002_01 = PySem.Challenge.rw_bb0002_01 ∧ kf.heap_1 = kf.heap_1 := by
  k_fill
  exact ⟨rfl, rfl⟩
section
open PySem.Spec PySem.Calls
local macro_rules | `(tactic| walk_at "binaryOp Mod int int") => `(tactic| fail "hook binaryOp Mod int int")
local macro_rules | `(tactic| walk_at "binaryOp FloorDiv int int") => `(tactic| fail "hook binaryOp FloorDiv int int")
local macro_rules | `(tactic| walk_at "binaryOp Mult int int") => `(tactic| fail "hook binaryOp Mult int int")
local macro_rules | `(tactic| walk_at "call ref") => `(tactic| fail "hook call ref")
local macro_rules | `(tactic| walk_at "call builtin:len") => `(tactic| fail "hook call builtin:len")
local macro_rules | `(tactic| walk_at "compareOp NotEq int int") => `(tactic| fail "hook compareOp NotEq int int")
local macro_rules | `(tactic| walk_at "exec For Name Name cons nil") => `(tactic| fail "hook exec For Name Name cons nil")
local macro_rules | `(tactic| walk_at "Keeps") => `(tactic| fail "hook Keeps")
local macro_rules | `(tactic| walk_at "And") => `(tactic| fail "hook And")
local macro_rules | `(tactic| walk_at "call type:tuple") => `(tactic| fail "hook call type:tuple")
local macro_rules | `(tactic| walk_at "call builtin:list.append") => `(tactic| fail "hook call builtin:list.append")
local macro_rules | `(tactic| walk_at "subscriptTail") => `(tactic| fail "hook subscriptTail")
local macro_rules | `(tactic| walk_at "exec While") => `(tactic| fail "hook exec While")
local macro_rules | `(tactic| walk_at "exec While BoolOp") => `(tactic| fail "hook exec While BoolOp")
local macro_rules | `(tactic| walk_at "OwitStop") => `(tactic| fail "hook OwitStop")
local macro_rules | `(tactic| walk_at "exec For") => `(tactic| fail "hook exec For")
local macro_rules | `(tactic| walk_at "call type:set") => `(tactic| fail "hook call type:set")
local macro_rules | `(tactic| walk_at "binaryOp BitAnd ref ref") => `(tactic| fail "hook binaryOp BitAnd ref ref")
local macro_rules | `(tactic| walk_at "pyIter ref") => `(tactic| fail "hook pyIter ref")
local macro_rules | `(tactic| walk_at "call builtin:iter") => `(tactic| fail "hook call builtin:iter")
local macro_rules | `(tactic| walk_at "OwitIt") => `(tactic| fail "hook OwitIt")
local macro_rules | `(tactic| walk_at "inplaceOp Add") => `(tactic| fail "hook inplaceOp Add")
local macro_rules | `(tactic| walk_at "inplaceOp Add ref") => `(tactic| fail "hook inplaceOp Add ref")
local macro_rules | `(tactic| walk_at "inplaceOp Add ref ref") => `(tactic| fail "hook inplaceOp Add ref ref")
local macro_rules | `(tactic| walk_at "binaryOp Mult int ref") => `(tactic| fail "hook binaryOp Mult int ref")
local macro_rules | `(tactic| walk_at "inplaceOp Add int ref") => `(tactic| fail "hook inplaceOp Add int ref")
local macro_rules | `(tactic| walk_at "eval GeneratorExp") => `(tactic| fail "hook eval GeneratorExp")
local macro_rules | `(tactic| walk_at "call builtin:sorted") => `(tactic| fail "hook call builtin:sorted")
local macro_rules | `(tactic| walk_at "call builtin:str.join") => `(tactic| fail "hook call builtin:str.join")
local macro_rules | `(tactic| walk_at "binaryOp Add str str") => `(tactic| fail "hook binaryOp Add str str")
local macro_rules | `(tactic| walk_at "getMethod ref") => `(tactic| fail "hook getMethod ref")
local macro_rules | `(tactic| walk_at "evalAll") => `(tactic| fail "hook evalAll")
local macro_rules | `(tactic| walk_at "compareOp Gt int ref") => `(tactic| fail "hook compareOp Gt int ref")
local macro_rules | `(tactic| walk_at "compareOp Eq int ref") => `(tactic| fail "hook compareOp Eq int ref")
local macro_rules | `(tactic| walk_at "exec For Name Call cons nil") => `(tactic| fail "hook exec For Name Call cons nil")
local macro_rules | `(tactic| walk_at "compareOp Gt") => `(tactic| fail "hook compareOp Gt")
local macro_rules | `(tactic| walk_at "compareOp Eq") => `(tactic| fail "hook compareOp Eq")
local macro_rules | `(tactic| walk_at "Exists") => `(tactic| fail "hook Exists")
local macro_rules | `(tactic| walk_at "exec For Name Attribute cons nil") => `(tactic| fail "hook exec For Name Attribute cons nil")
local macro_rules | `(tactic| walk_at "Held") => `(tactic| fail "hook Held")
local macro_rules | `(tactic| walk_at "compareOp In str ref") => `(tactic| fail "hook compareOp In str ref")
local macro_rules | `(tactic| walk_at "subscriptTail Name Constant ref int") => `(tactic| fail "hook subscriptTail Name Constant ref int")
local macro_rules | `(tactic| walk_at "compareOp NotIn bool ref") => `(tactic| fail "hook compareOp NotIn bool ref")
local macro_rules | `(tactic| walk_at "ite") => `(tactic| fail "hook ite")
local macro_rules | `(tactic| walk_at "compareOp Eq ref ref") => `(tactic| fail "hook compareOp Eq ref ref")
local macro_rules | `(tactic| walk_at "eval ListComp") => `(tactic| fail "hook eval ListComp")
local macro_rules | `(tactic| walk_at "call type:enumerate") => `(tactic| fail "hook call type:enumerate")
local macro_rules | `(tactic| walk_at "subscriptTail Name Slice ref ref") => `(tactic| fail "hook subscriptTail Name Slice ref ref")
local macro_rules | `(tactic| walk_at "exec Assign cons ListComp") => `(tactic| fail "hook exec Assign cons ListComp")
local macro_rules | `(tactic| walk_at "call type:str") => `(tactic| fail "hook call type:str")
local macro_rules | `(tactic| walk_at "eval Name") => `(tactic| fail "hook eval Name")
local macro_rules | `(tactic| walk_at "compareOp NotIn int ref") => `(tactic| fail "hook compareOp NotIn int ref")
local macro_rules | `(tactic| walk_at "binaryOp Pow int int") => `(tactic| fail "hook binaryOp Pow int int")
local macro_rules | `(tactic| walk_at "call builtin:max") => `(tactic| fail "hook call builtin:max")
local macro_rules | `(tactic| walk_at "subscriptTail Name BinOp") => `(tactic| fail "hook subscriptTail Name BinOp")
local macro_rules | `(tactic| walk_at "exec For Tuple Call cons nil") => `(tactic| fail "hook exec For Tuple Call cons nil")
local macro_rules | `(tactic| walk_at "binaryOp Add ref ref") => `(tactic| fail "hook binaryOp Add ref ref")
-- L0
section
set_option maxHeartbeats 0
abbrev prog : Program := PySem.Challenge.pw_bb0002_01
abbrev loose0 : List Str := [Str.ofString "CandidateSet", Str.ofString "str_set_of_candidates", Str.ofString "combinations",
      Str.ofString "get_marginal_scorefct", Str.ofString "Rule", Str.ofString "available_algorithms",
      Str.ofString "compute_thiele_method", Str.ofString "_thiele_methods_bruteforce",
      Str.ofString "_thiele_methods_branchandbound", Str.ofString "compute_cc", Str.ofString "Profile"]

structure Aft (s s' : Shared) : Prop where
  os : s'.os = s.os
  gens : AllBare s.gens → AllBare s'.gens
  size : s.gens.size ≤ s'.gens.size
theorem Aft.same {s : Shared} {h : Heap} {t : Nat} : Aft s { s with heap := h, toks := t } := ⟨rfl, id, Nat.le_refl _⟩
theorem Aft.trans {s s' s'' : Shared} (a : Aft s s') (b : Aft s' s'') : Aft s s'' := ⟨b.os.trans a.os, fun x => b.gens (a.gens x), Nat.le_trans a.size b.size⟩

abbrev CallC (w : World) (f : Addr) (vs : List Value) (news : List (Addr × Obj)) (ddp dun : Nat) (Post : List (Addr × Obj) → Value → Prop) : Prop :=
  ∀ (lo : List Str) (mean : ExcName → Option Value) (mg mb : Str → Option Value) (dp un : Nat) (gd : Option (List Code)) (cn : Str) (cs : Scope) (a : Addr) (ccd : Value) (cl : List (Str × Addr)) (outer : List Env) (A₀ : Around) (base h₀ : Heap) (L : Addr) (m : Str → Option Value) (s : Shared) (Q E : Value → Shared → Prop),
    Below A₀ base outer h₀ → Fr h₀ L s.heap m → (kf.heap_1 w.params).In h₀ → News h₀ L s.heap news → Top topProg lo mean mg mb h₀ → cs.kind = .function → dp + ddp < recursionLimit → un + dun < cLine → AllBare s.gens →
    (∀ r news' s', Aft s s' → Fr h₀ L s'.heap m → News h₀ L s'.heap news' → Post news' r → Q r s') →
    wpAny (model prog w) (ktrTop dp un gd cn cs L a ccd cl outer) (call (.ref f) vs) Q E s
/-- a stop of the walk: the goal is handed to the text -/
def Held (p : Prop) : Prop := p
theorem Held.out {p : Prop} (h : Held p) : p := h
theorem Held.mk {p : Prop} (h : p) : Held p := h
end
-- L1
section
set_option maxHeartbeats 0
local macro_rules | `(tactic| k_room) => `(tactic| ktr_room)
local macro_rules | `(tactic| k_units) => `(tactic| ktr_units)
local macro_rules | `(tactic| k_enter) => `(tactic| (refine' code_def ?k1 ?k2 ?k3 ?k4 ?k5 ?kA ?kF ?kK ?k6 ?k7 ?k8 ?k9 ?kB ?_ ?c2 ?c3 ?c4 ?c5; (case kA => exact rfl); (case kF => exact rfl); (case kK => first | exact rfl | assumption); (case k1 => k_asm); (case k2 => k_asm); (case k3 => k_asm); (case k4 => k_asm); (case k5 => k_asm); (case k6 => k_is); (case k7 => k_is); (case k8 => ktr_room); (case k9 => first | exact BindsTo.of_eq rfl | exact binds_K (by k_in) rfl (by k_is) rfl rfl rfl); (case c5 => decide); (case kB => exact locs rfl); (case c2 => exact rfl); (case c3 => exact rfl); (case c4 => exact rfl); k_whole; intro g' L' h' FG' F' N' B' X' T'; (try dsimp only); (try k_fold)))
section
variable {w : World} {A : Around} {E : Value → Shared → Prop} {s : Shared} {a b : Int} {t u : Tok} {Q : Value → Shared → Prop}
theorem mod_one (hb : b = 1) (h : Q (.int 0 s.toks) { s with toks := s.toks + 1 }) : wpAny (model prog w) A (binaryOp .Mod (.int a t) (.int b u)) Q E s := by
  subst hb
  refine mod_int' (by decide) ?_
  rw [Int.fmod_one]; exact h
theorem fdiv_one (hb : b = 1) (h : Q (.int a s.toks) { s with toks := s.toks + 1 }) : wpAny (model prog w) A (binaryOp .FloorDiv (.int a t) (.int b u)) Q E s := by
  subst hb
  refine floordiv_int (by decide) ?_ (Or.inl (PyProof.noPylong_of_log2 (by decide +kernel)))
  rw [Int.fdiv_one]; exact h
theorem mul_one' (hb : b = 1) (ha : a.natAbs ≤ 100000) (h : Q (.int a s.toks) { s with toks := s.toks + 1 }) : wpAny (model prog w) A (binaryOp .Mult (.int a t) (.int b u)) Q E s := by
  subst hb
  refine PyProof.Rows.mul_int ?_ ?_
  · rw [Int.mul_one]; exact h
  · exact IntMulOk.of_right (by decide)
end
local macro_rules | `(tactic| fail "hook binaryOp Mod int int") => `(tactic| (with_reducible refine mod_one ?e ?_; (case e => rfl)))
local macro_rules | `(tactic| fail "hook binaryOp FloorDiv int int") => `(tactic| (with_reducible refine fdiv_one ?e ?_; (case e => rfl)))
local macro_rules | `(tactic| fail "hook binaryOp Mult int int") => `(tactic| (with_reducible refine mul_one' ?e ?f ?_; (case e => rfl); (case f => omega)))
theorem sub2 {a b : Addr × Obj} {l big : List (Addr × Obj)} (ha : a ∈ big) (hb : b ∈ big) (hl : ∀ p ∈ l, p ∈ big) : ∀ p ∈ a :: b :: l, p ∈ big := by
  intro p hp
  rcases List.mem_cons.mp hp with rfl | hp
  · exact ha
  rcases List.mem_cons.mp hp with rfl | hp
  · exact hb
  exact hl p hp
abbrev frD (w : World) (n : Int) (t1 t2 t3 t4 : Tok) : Obj :=
  dictOf [⟨PyData.keyHash w.params (Str.ofString "numerator"), .str (Str.ofString "numerator") t1, .int n t2⟩, ⟨PyData.keyHash w.params (Str.ofString "denominator"), .str (Str.ofString "denominator") t3, .int 1 t4⟩] 2
abbrev FrPost (w : World) (n : Int) (news : List (Addr × Obj)) (news' : List (Addr × Obj)) (r : Value) : Prop :=
  ∃ (x d : Addr) (t1 t2 t3 t4 : Tok), r = .ref x ∧ news' = (x, instObj 305 d) :: (d, frD w n t1 t2 t3 t4) :: news ∧ (∀ p ∈ news, p.1 < d) ∧ d < x
theorem fr_new (w : World) (n : Int) (tk : Tok) (news : List (Addr × Obj)) (h0 : -1000 ≤ n) (h1 : n ≤ 1000) :
    CallC w 305 [.int n tk] news 20 200 (FrPost w n news) := by
  intro lo mean mg mb dp un gd cn cs a ccd cl outer A₀ base h₀ L m s Q E B F X N T hk hd hu hG hret
  k_steps
  all_goals (refine' hret _ _ _ Aft.same ?f (cb_drop ?n (sub2 ?ha ?hb ?hl)) ⟨_, _, _, _, _, _, rfl, rfl, ?o1, ?o2⟩; (case f => k_asm); (case n => assumption); (case ha => repeat (first | exact List.Mem.head _ | refine' List.Mem.tail _ ?_)); (case hb => repeat (first | exact List.Mem.head _ | refine' List.Mem.tail _ ?_)); (case hl => (intro p hp; repeat (first | exact hp | refine' List.Mem.tail _ ?_))); (case o1 => assumption); (case o2 => assumption))
end
-- L2
section
set_option maxHeartbeats 0
local macro_rules | `(tactic| k_room) => `(tactic| ktr_room)
local macro_rules | `(tactic| k_units) => `(tactic| ktr_units)
local macro_rules | `(tactic| k_enter) => `(tactic| (refine' code_def ?k1 ?k2 ?k3 ?k4 ?k5 ?kA ?kF ?kK ?k6 ?k7 ?k8 ?k9 ?kB ?_ ?c2 ?c3 ?c4 ?c5; (case kA => exact rfl); (case kF => exact rfl); (case kK => first | exact rfl | assumption); (case k1 => k_asm); (case k2 => k_asm); (case k3 => k_asm); (case k4 => k_asm); (case k5 => k_asm); (case k6 => k_is); (case k7 => k_is); (case k8 => ktr_room); (case k9 => first | exact BindsTo.of_eq rfl | exact binds_K (by k_in) rfl (by k_is) rfl rfl rfl); (case c5 => decide); (case kB => exact locs rfl); (case c2 => exact rfl); (case c3 => exact rfl); (case c4 => exact rfl); k_whole; intro g' L' h' FG' F' N' B' X' T'; (try dsimp only); (try k_fold)))
local macro_rules | `(tactic| k_mem) => `(tactic| first | exact List.Mem.head _ | assumption | (refine' List.Mem.tail _ ?_; k_mem))
local macro_rules | `(tactic| fail "hook binaryOp Mod int int") => `(tactic| (with_reducible refine mod_one ?e ?_; (case e => rfl)))
local macro_rules | `(tactic| fail "hook binaryOp FloorDiv int int") => `(tactic| (with_reducible refine fdiv_one ?e ?_; (case e => rfl)))
local macro_rules | `(tactic| fail "hook binaryOp Mult int int") => `(tactic| (with_reducible refine mul_one' ?e ?f ?_; (case e => rfl); (case f => omega)))
theorem lt_of {big l : List (Addr × Obj)} {d : Addr} (h : ∀ p ∈ big, p.1 < d) (hs : ∀ p ∈ l, p ∈ big) : ∀ p ∈ l, p.1 < d := fun p hp => h p (hs p hp)
theorem fr_new2 (w : World) (n : Int) (tk tk2 : Tok) (news : List (Addr × Obj)) (h0 : -1000 ≤ n) (h1 : n ≤ 1000) :
    CallC w 305 [.int n tk, .int 1 tk2] news 20 200 (FrPost w n news) := by
  intro lo mean mg mb dp un gd cn cs a ccd cl outer A₀ base h₀ L m s Q E B F X N T hk hd hu hG hret
  k_steps
  all_goals (refine' hret _ _ _ ?a ?f (cb_drop ?n (sub2 ?ha ?hb ?hl)) ⟨_, _, _, _, _, _, rfl, rfl, ?o1, ?o2⟩; (case a => first | exact Aft.same | (rename Aft _ _ => q; exact ⟨q.os, q.gens, q.size⟩)); (case f => k_asm); (case n => assumption); (case ha => repeat (first | exact List.Mem.head _ | refine' List.Mem.tail _ ?_)); (case hb => repeat (first | exact List.Mem.head _ | refine' List.Mem.tail _ ?_)); (case hl => (intro p hp; repeat (first | exact hp | refine' List.Mem.tail _ ?_))); (case o1 => first | assumption | (refine' lt_of ?q ?s; (case q => assumption); (case s => (intro p hp; repeat (first | exact hp | refine' List.Mem.tail _ ?_))))); (case o2 => assumption))
local macro_rules | `(tactic| fail "hook call ref") => `(tactic| (k_here; (with_reducible show wpAny _ _ (call (Value.ref 305) [Value.int _ _, Value.int _ _]) _ _ _); k_dflt (refine' (fr_new2 _ _ _ _ _ ?c0 ?c1) _ _ _ _ _ _ _ _ _ _ _ _ _ _ _ _ _ _ _ _ _ ?cB ?cF ?cX ?cN ?cT ?cK ?cD ?cU ?cG ?_; (case cB => k_asm); (case cF => k_asm); (case cX => k_asm); (case cN => k_asm); (case cT => k_asm); (case cK => first | exact rfl | assumption); (case cD => ktr_room); (case cU => ktr_units); (case cG => assumption); (case c0 => omega); (case c1 => omega)); (intro r' nw' s' hA' F' N' hP'; obtain ⟨x', d', t1', t2', t3', t4', e1', e2', l1, l2⟩ := hP'; subst e1'; subst e2'; (try dsimp only [frD] at N'); (have hG' := Aft.gens hA' (by assumption)); (have l1c := l1); (try k_lt l1); (try k_lt2 l2); (try dsimp only); (try k_fold))))
theorem fr_rmul (w : World) (n wt : Int) (x d : Addr) (t1 t2 t3 t4 tk : Tok) (news : List (Addr × Obj)) (hx : (x, instObj 305 d) ∈ news) (hd : (d, frD w n t1 t2 t3 t4) ∈ news) (h0 : -1000 ≤ n * wt) (h1 : n * wt ≤ 1000) (h2 : 0 ≤ wt) (h3 : wt ≤ 100) :
    CallC w 253 [.ref x, .int wt tk] news 30 300 (FrPost w (n * wt) news) := by
  intro lo mean mg mb dp un gd cn cs a ccd cl outer A₀ base h₀ L m s Q E B F X N T hk hdp hu hG hret
  dsimp only [frD] at hd
  k_steps
  all_goals (refine' hret _ _ _ ?a ?f (cb_drop ?n (sub2 ?ha ?hb ?hl)) ⟨_, _, _, _, _, _, rfl, rfl, ?o1, ?o2⟩; (case a => first | exact Aft.same | (rename Aft _ _ => q; exact ⟨q.os, q.gens, q.size⟩)); (case f => k_asm); (case n => assumption); (case ha => repeat (first | exact List.Mem.head _ | refine' List.Mem.tail _ ?_)); (case hb => repeat (first | exact List.Mem.head _ | refine' List.Mem.tail _ ?_)); (case hl => (intro p hp; repeat (first | exact hp | refine' List.Mem.tail _ ?_))); (case o1 => first | assumption | (refine' lt_of ?q ?s; (case q => assumption); (case s => (intro p hp; repeat (first | exact hp | refine' List.Mem.tail _ ?_))))); (case o2 => assumption))
theorem fr_radd0 (w : World) (n : Int) (x d : Addr) (t1 t2 t3 t4 tk : Tok) (news : List (Addr × Obj)) (hx : (x, instObj 305 d) ∈ news) (hd : (d, frD w n t1 t2 t3 t4) ∈ news) (h0 : -1000 ≤ n) (h1 : n ≤ 1000) :
    CallC w 225 [.ref x, .int 0 tk] news 30 300 (FrPost w (n + 0) news) := by
  intro lo mean mg mb dp un gd cn cs a ccd cl outer A₀ base h₀ L m s Q E B F X N T hk hdp hu hG hret
  dsimp only [frD] at hd
  k_steps
  all_goals (refine' hret _ _ _ ?a ?f (cb_drop ?n (sub2 ?ha ?hb ?hl)) ⟨_, _, _, _, _, _, rfl, rfl, ?o1, ?o2⟩; (case a => first | exact Aft.same | (rename Aft _ _ => q; exact ⟨q.os, q.gens, q.size⟩)); (case f => k_asm); (case n => assumption); (case ha => repeat (first | exact List.Mem.head _ | refine' List.Mem.tail _ ?_)); (case hb => repeat (first | exact List.Mem.head _ | refine' List.Mem.tail _ ?_)); (case hl => (intro p hp; repeat (first | exact hp | refine' List.Mem.tail _ ?_))); (case o1 => first | assumption | (refine' lt_of ?q ?s; (case q => assumption); (case s => (intro p hp; repeat (first | exact hp | refine' List.Mem.tail _ ?_))))); (case o2 => assumption))
theorem fr_radd (w : World) (n : Int) (x d : Addr) (t1 t2 t3 t4 tk : Tok) (news : List (Addr × Obj)) (hx : (x, instObj 305 d) ∈ news) (hd : (d, frD w n t1 t2 t3 t4) ∈ news) (h0 : -1000 ≤ n) (h1 : n ≤ 1000) :
    CallC w 225 [.ref x, .int 0 tk] news 30 300 (FrPost w n news) := by
  have q := fr_radd0 w n x d t1 t2 t3 t4 tk news hx hd h0 h1
  rw [Int.add_zero] at q
  exact q
theorem fr_add (w : World) (n k : Int) (x d y e : Addr) (t1 t2 t3 t4 u1 u2 u3 u4 : Tok) (news : List (Addr × Obj)) (hx : (x, instObj 305 d) ∈ news) (hd : (d, frD w n t1 t2 t3 t4) ∈ news) (hy : (y, instObj 305 e) ∈ news) (he : (e, frD w k u1 u2 u3 u4) ∈ news)
    (h0 : -100 ≤ n) (h1 : n ≤ 100) (h2 : -100 ≤ k) (h3 : k ≤ 100) :
    CallC w 218 [.ref x, .ref y] news 30 300 (FrPost w (n + k) news) := by
  intro lo mean mg mb dp un gd cn cs a ccd cl outer A₀ base h₀ L m s Q E B F X N T hk hdp hu hG hret
  dsimp only [frD] at hd he
  k_steps
  all_goals (refine' hret _ _ _ ?a ?f (cb_drop ?n (sub2 ?ha ?hb ?hl)) ⟨_, _, _, _, _, _, rfl, rfl, ?o1, ?o2⟩; (case a => first | exact Aft.same | (rename Aft _ _ => q; exact ⟨q.os, q.gens, q.size⟩)); (case f => k_asm); (case n => assumption); (case ha => repeat (first | exact List.Mem.head _ | refine' List.Mem.tail _ ?_)); (case hb => repeat (first | exact List.Mem.head _ | refine' List.Mem.tail _ ?_)); (case hl => (intro p hp; repeat (first | exact hp | refine' List.Mem.tail _ ?_))); (case o1 => first | assumption | (refine' lt_of ?q ?s; (case q => assumption); (case s => (intro p hp; repeat (first | exact hp | refine' List.Mem.tail _ ?_))))); (case o2 => assumption))
end
-- P1
section
/-! the plain law: what the graph says, no program in sight -/
abbrev Edge := Nat × Nat
def meets (e f : Edge) : Bool := e.1 == f.1 || e.2 == f.2
def apartB : List Edge → Bool
  | [] => true
  | e :: es => es.all (fun f => !meets e f) && apartB es
def hits (c : List Nat) (e : Edge) : Bool := c.contains e.1 || c.contains e.2
def subs {α : Type} : List α → List (List α)
  | [] => [[]]
  | a :: l => subs l ++ (subs l).map (a :: ·)
/-- the rising lists of k numbers, each at least lo and below n, in the order in which the program makes them -/
def combos : Nat → Nat → Nat → List (List Nat)
  | 0, _, k => if k = 0 then [[]] else []
  | f + 1, lo, k => if k = 0 then [[]] else (combos f (lo + 1) (k - 1)).map (lo :: ·) ++ combos f (lo + 1) k
def allEdges (right : Nat) : List Edge := (List.range 3).flatMap fun a => (List.range right).map fun j => (a, 3 + j)
def best : List (List Edge) → List Edge
  | [] => []
  | G :: Gs => if apartB G && (best Gs).length < G.length then G else best Gs

theorem subs_sublist {α : Type} : ∀ {l m : List α}, m ∈ subs l → m.Sublist l
  | [], m, h => by simp [subs] at h; simp [h]
  | a :: l, m, h => by
    simp only [subs, List.mem_append, List.mem_map] at h
    rcases h with h | ⟨k, h, rfl⟩
    · exact (subs_sublist h).cons _
    · exact (subs_sublist h).cons_cons _
theorem mem_subs {α : Type} {l m : List α} (h : m.Sublist l) : m ∈ subs l := by
  induction h with
  | slnil => simp [subs]
  | cons a _ ih => simp [subs, ih]
  | cons_cons a _ ih => simp [subs, ih]
theorem best_apart : ∀ Gs, apartB (best Gs) = true
  | [] => rfl
  | G :: Gs => by
    unfold best
    split
    · rename_i h; simp only [Bool.and_eq_true] at h; exact h.1
    · exact best_apart Gs
theorem best_mem : ∀ Gs, best Gs = [] ∨ best Gs ∈ Gs
  | [] => .inl rfl
  | G :: Gs => by
    unfold best
    split
    · exact .inr (.head _)
    · rcases best_mem Gs with h | h
      · exact .inl h
      · exact .inr (.tail _ h)
theorem apart_pw : ∀ {G : List Edge}, apartB G = true ↔ G.Pairwise (fun e f => meets e f = false)
  | [] => by simp [apartB]
  | e :: es => by simp [apartB, apart_pw (G := es), List.pairwise_cons, List.all_eq_true]
theorem meets_comm (e f : Edge) : meets e f = meets f e := by
  unfold meets
  rw [Bool.beq_comm (a := e.1), Bool.beq_comm (a := e.2)]
theorem apart_perm {G H : List Edge} (p : G.Perm H) (h : apartB G = true) : apartB H = true :=
  apart_pw.mpr (p.pairwise (apart_pw.mp h) fun {a b} q => by rw [meets_comm]; exact q)
/-- a cover has at least as many members as there are edges no two of which meet -/
theorem apart_le : ∀ (G : List Edge) (c : List Nat), G.Pairwise (fun e f => meets e f = false) → (∀ e ∈ G, e.1 < 3 ∧ 3 ≤ e.2) → (∀ e ∈ G, hits c e = true) → G.length ≤ c.length
  | [], c, _, _, _ => Nat.zero_le _
  | e :: G, c, hp, hr, hc => by
    rw [List.pairwise_cons] at hp
    obtain ⟨v, hv, hve⟩ : ∃ v, v ∈ c ∧ (v = e.1 ∨ v = e.2) := by
      have := hc e (.head _)
      unfold hits at this
      rw [Bool.or_eq_true, List.contains_iff_mem, List.contains_iff_mem] at this
      rcases this with h | h
      · exact ⟨_, h, .inl rfl⟩
      · exact ⟨_, h, .inr rfl⟩
    have hl := List.length_erase_of_mem hv
    have h0 : 0 < c.length := List.length_pos_of_mem hv
    have ih := apart_le G (c.erase v) hp.2 (fun f hf => hr f (.tail _ hf)) fun f hf => by
      have h1 := hc f (.tail _ hf)
      have h2 := hp.1 f hf
      have h3 := hr f (.tail _ hf)
      have h4 := hr e (.head _)
      unfold meets at h2
      simp only [Bool.or_eq_false_iff, beq_eq_false_iff_ne, ne_eq] at h2
      unfold hits at h1 ⊢
      rw [Bool.or_eq_true, List.contains_iff_mem, List.contains_iff_mem] at h1 ⊢
      rcases h1 with h | h
      · refine .inl ((List.mem_erase_of_ne ?_).mpr h)
        rcases hve with rfl | rfl
        · exact fun q => h2.1 q.symm
        · omega
      · refine .inr ((List.mem_erase_of_ne ?_).mpr h)
        rcases hve with rfl | rfl
        · omega
        · exact fun q => h2.2 q.symm
    simp only [List.length_cons]
    omega
theorem nodup_le {α : Type} [BEq α] [LawfulBEq α] : ∀ (l c : List α), l.Nodup → (∀ x ∈ l, x ∈ c) → l.length ≤ c.length
  | [], c, _, _ => Nat.zero_le _
  | x :: l, c, hp, hc => by
    rw [List.nodup_cons] at hp
    have hv := hc x (.head _)
    have hl := List.length_erase_of_mem hv
    have h0 : 0 < c.length := List.length_pos_of_mem hv
    have ih := nodup_le l (c.erase x) hp.2 fun y hy => (List.mem_erase_of_ne (by rintro rfl; exact hp.1 hy)).mpr (hc y (.tail _ hy))
    simp only [List.length_cons]
    omega

def konigB (right : Nat) : Bool := (subs (allEdges right)).all fun S => decide (4 < S.length) || (combos (3 + right) 0 (best (subs S)).length).any fun c => S.all (hits c)
theorem konig2 : konigB 2 = true := by decide +kernel
theorem konig3 : konigB 3 = true := by decide +kernel

theorem allEdges_nodup {right : Nat} (hr : right = 2 ∨ right = 3) : (allEdges right).Nodup := by
  rcases hr with rfl | rfl <;> decide
theorem mem_allEdges {right : Nat} {e : Edge} (h1 : e.1 < 3) (h2 : 3 ≤ e.2) (h3 : e.2 < 3 + right) : e ∈ allEdges right := by
  unfold allEdges
  rw [List.mem_flatMap]
  refine ⟨e.1, List.mem_range.mpr h1, List.mem_map.mpr ⟨e.2 - 3, List.mem_range.mpr (by omega), ?_⟩⟩
  apply Prod.ext
  · rfl
  · show 3 + (e.2 - 3) = e.2
    omega
theorem combos_len : ∀ (f lo k : Nat) {c : List Nat}, c ∈ combos f lo k → c.length = k
  | 0, lo, k, c, h => by
    unfold combos at h
    split at h
    · simp at h; subst h; simp_all
    · simp at h
  | f + 1, lo, k, c, h => by
    unfold combos at h
    split at h
    · simp at h; subst h; simp_all
    · rw [List.mem_append, List.mem_map] at h
      rcases h with ⟨d, hd, rfl⟩ | h
      · have := combos_len f (lo + 1) (k - 1) hd
        simp only [List.length_cons]; omega
      · exact combos_len f (lo + 1) k h
def dd : List Edge → List Edge
  | [] => []
  | e :: es => if es.contains e then dd es else e :: dd es
theorem dd_sub : ∀ es, (dd es).Sublist es
  | [] => .slnil
  | e :: es => by
    unfold dd
    split
    · exact (dd_sub es).cons _
    · exact (dd_sub es).cons_cons _
theorem mem_dd : ∀ {es : List Edge} {e : Edge}, e ∈ dd es ↔ e ∈ es
  | [], e => Iff.rfl
  | f :: es, e => by
    unfold dd
    split
    · rename_i h
      rw [List.contains_iff_mem] at h
      rw [mem_dd, List.mem_cons]
      constructor
      · exact .inr
      · rintro (rfl | q)
        · exact h
        · exact q
    · rw [List.mem_cons, List.mem_cons, mem_dd]
theorem dd_nodup : ∀ es, (dd es).Nodup
  | [] => .nil
  | e :: es => by
    unfold dd
    split
    · exact dd_nodup es
    · rename_i h
      rw [List.contains_iff_mem] at h
      rw [List.nodup_cons]
      exact ⟨fun q => h (mem_dd.mp q), dd_nodup es⟩
theorem pw_mem {G : List Edge} (hp : G.Pairwise (fun e f => meets e f = false)) {x y : Edge} (hx : x ∈ G) (hy : y ∈ G) (hne : x ≠ y) : meets x y = false := by
  induction hp with
  | nil => cases hx
  | cons h1 _ ih =>
    rcases List.mem_cons.mp hx with e1 | hx2
    · rcases List.mem_cons.mp hy with e2 | hy2
      · exact absurd (e1.trans e2.symm) hne
      · rw [e1]; exact h1 _ hy2
    · rcases List.mem_cons.mp hy with e2 | hy2
      · rw [meets_comm, e2]; exact h1 _ hx2
      · exact ih hx2 hy2
theorem konig {right : Nat} (hr : right = 2 ∨ right = 3) {es : List Edge} (hlen : es.length ≤ 4) (hes : ∀ e ∈ es, e.1 < 3 ∧ 3 ≤ e.2 ∧ e.2 < 3 + right) :
    ∃ G, G.Sublist es ∧ apartB G = true ∧ ∃ c ∈ combos (3 + right) 0 G.length, ∀ e ∈ es, hits c e = true := by
  have hB : konigB right = true := by
    rcases hr with e | e
    · rw [e]; exact konig2
    · rw [e]; exact konig3
  have hAn := allEdges_nodup hr
  let S := (allEdges right).filter (es.contains ·)
  have hSsub : S.Sublist (allEdges right) := List.filter_sublist
  have hS : S ∈ subs (allEdges right) := mem_subs hSsub
  have hSn : S.Nodup := hSsub.nodup hAn
  have hSm : ∀ e, e ∈ S ↔ e ∈ es := fun e => by
    show e ∈ (allEdges right).filter _ ↔ _
    rw [List.mem_filter, List.contains_iff_mem]
    exact ⟨fun q => q.2, fun q => ⟨mem_allEdges (hes e q).1 (hes e q).2.1 (hes e q).2.2, q⟩⟩
  have hS4 : S.length ≤ 4 := Nat.le_trans (nodup_le S es hSn fun x hx => (hSm x).mp hx) hlen
  unfold konigB at hB
  rw [List.all_eq_true] at hB
  have h1 := hB S hS
  rw [Bool.or_eq_true] at h1
  rcases h1 with h1 | h1
  · simp at h1; omega
  rw [List.any_eq_true] at h1
  obtain ⟨c, hc, hcv⟩ := h1
  rw [List.all_eq_true] at hcv
  have hG0a := best_apart (subs S)
  have hG0s : (best (subs S)).Sublist S := by
    rcases best_mem (subs S) with h | h
    · rw [h]; exact List.nil_sublist _
    · exact subs_sublist h
  have hG0n := hG0s.nodup hSn
  let G := (dd es).filter ((best (subs S)).contains ·)
  have hGm : ∀ e, e ∈ G ↔ e ∈ best (subs S) := fun e => by
    show e ∈ (dd es).filter _ ↔ _
    rw [List.mem_filter, List.contains_iff_mem, mem_dd]
    exact ⟨fun q => q.2, fun q => ⟨(hSm e).mp (hG0s.subset q), q⟩⟩
  have hGn : G.Nodup := List.filter_sublist.nodup (dd_nodup es)
  have hl : G.length = (best (subs S)).length := Nat.le_antisymm (nodup_le _ _ hGn fun x hx => (hGm x).mp hx) (nodup_le _ _ hG0n fun x hx => (hGm x).mpr hx)
  refine ⟨G, List.filter_sublist.trans (dd_sub es), ?_, c, by rw [hl]; exact hc, fun e he => hcv e ((hSm e).mpr he)⟩
  rw [apart_pw]
  exact List.Pairwise.imp_of_mem (fun {x y} hx hy hne => pw_mem (apart_pw.mp hG0a) ((hGm x).mp hx) ((hGm y).mp hy) hne) hGn

/-- the group of edges that a mask picks -/
def grp : List Edge → Nat → List Edge
  | [], _ => []
  | e :: es, k => if k % 2 = 1 then e :: grp es (k / 2) else grp es (k / 2)
theorem grp_sub : ∀ es k, (grp es k).Sublist es
  | [], _ => .slnil
  | e :: es, k => by
    unfold grp
    split
    · exact (grp_sub es _).cons_cons _
    · exact (grp_sub es _).cons _
theorem sub_grp {G es : List Edge} (h : G.Sublist es) : ∃ k, k < 2 ^ es.length ∧ grp es k = G := by
  induction h with
  | slnil => exact ⟨0, by decide, rfl⟩
  | cons a _ ih =>
    obtain ⟨k, hk, e⟩ := ih
    refine ⟨2 * k, by rw [List.length_cons, Nat.pow_succ]; omega, ?_⟩
    unfold grp
    rw [if_neg (by omega), show 2 * k / 2 = k by omega]
    exact e
  | cons_cons a _ ih =>
    obtain ⟨k, hk, e⟩ := ih
    refine ⟨2 * k + 1, by rw [List.length_cons, Nat.pow_succ]; omega, ?_⟩
    unfold grp
    rw [if_pos (by omega), show (2 * k + 1) / 2 = k by omega, e]
/-- the most that the first k masks give -/
def mostL (es : List Edge) : Nat → Nat
  | 0 => 0
  | k + 1 => if apartB (grp es k) then max (mostL es k) (grp es k).length else mostL es k
theorem mostL_ge (es : List Edge) : ∀ (n k : Nat), k < n → apartB (grp es k) = true → (grp es k).length ≤ mostL es n
  | 0, k, h, _ => absurd h (Nat.not_lt_zero _)
  | n + 1, k, h, ha => by
    unfold mostL
    by_cases e : k = n
    · subst e
      rw [if_pos ha]
      exact Nat.le_max_right _ _
    · have ih := mostL_ge es n k (by omega) ha
      split
      · exact Nat.le_trans ih (Nat.le_max_left _ _)
      · exact ih
theorem mostL_le (es : List Edge) (b : Nat) (h : ∀ k, apartB (grp es k) = true → (grp es k).length ≤ b) : ∀ n, mostL es n ≤ b
  | 0 => Nat.zero_le _
  | n + 1 => by
    unfold mostL
    split
    · rename_i ha
      exact Nat.max_le.mpr ⟨mostL_le es b h n, h n ha⟩
    · exact mostL_le es b h n
theorem most_facts {right : Nat} (hr : right = 2 ∨ right = 3) {es : List Edge} (hlen : es.length ≤ 4) (hes : ∀ e ∈ es, e.1 < 3 ∧ 3 ≤ e.2 ∧ e.2 < 3 + right) :
    (∃ c ∈ combos (3 + right) 0 (mostL es (2 ^ es.length)), ∀ e ∈ es, hits c e = true) ∧
    (∀ c : List Nat, c.length < mostL es (2 ^ es.length) → ∃ e ∈ es, hits c e = false) := by
  obtain ⟨G, hG, hGa, c, hc, hcv⟩ := konig hr hlen hes
  have hcl := combos_len _ _ _ hc
  have up : ∀ d : List Nat, (∀ e ∈ es, hits d e = true) → mostL es (2 ^ es.length) ≤ d.length := fun d hd =>
    mostL_le es d.length (fun k ha => apart_le _ d (apart_pw.mp ha) (fun e he => ⟨(hes e ((grp_sub es k).subset he)).1, (hes e ((grp_sub es k).subset he)).2.1⟩) fun e he => hd e ((grp_sub es k).subset he)) _
  obtain ⟨k, hk, hkG⟩ := sub_grp hG
  have lo : G.length ≤ mostL es (2 ^ es.length) := by
    have := mostL_ge es _ k hk (by rw [hkG]; exact hGa)
    rw [hkG] at this
    exact this
  have hi := up c hcv
  have e : mostL es (2 ^ es.length) = G.length := by omega
  refine ⟨by rw [e]; exact ⟨c, hc, hcv⟩, fun d hd => ?_⟩
  by_cases q : ∀ e ∈ es, hits d e = true
  · exact absurd (up d q) (by omega)
  · rw [Classical.not_forall] at q
    obtain ⟨e, q⟩ := q
    rw [Classical.not_imp] at q
    exact ⟨e, q.1, by simpa using q.2⟩
theorem most_le3 {right : Nat} {es : List Edge} (hes : ∀ e ∈ es, e.1 < 3 ∧ 3 ≤ e.2 ∧ e.2 < 3 + right) (n : Nat) : mostL es n ≤ 3 ∧ mostL es n ≤ es.length :=
  ⟨mostL_le es 3 (fun k ha => apart_le _ [0, 1, 2] (apart_pw.mp ha) (fun e he => ⟨(hes e ((grp_sub es k).subset he)).1, (hes e ((grp_sub es k).subset he)).2.1⟩) fun e he => by
    have := (hes e ((grp_sub es k).subset he)).1
    unfold hits
    rw [Bool.or_eq_true, List.contains_iff_mem]
    refine .inl ?_
    simp only [List.mem_cons, List.not_mem_nil, or_false]
    omega) n, mostL_le es es.length (fun k _ => (grp_sub es k).length_le) n⟩
theorem most_pos {es : List Edge} (h : 0 < es.length) : 1 ≤ mostL es (2 ^ es.length) := by
  cases es with
  | nil => cases h
  | cons e es =>
    obtain ⟨k, hk, hg⟩ := sub_grp (G := [e]) (es := e :: es) ((List.nil_sublist es).cons_cons e)
    have := mostL_ge (e :: es) _ k hk (by rw [hg]; rfl)
    rw [hg] at this
    exact this
/-- the score of a committee: each voter's weight, where it meets the voter's two candidates -/
def sc : List (Edge × Nat) → List Nat → Nat
  | [], _ => 0
  | v :: vs, c => (if hits c v.1 then v.2 else 0) + sc vs c
def tot : List (Edge × Nat) → Nat
  | [] => 0
  | v :: vs => v.2 + tot vs
theorem sc_le : ∀ vs c, sc vs c ≤ tot vs
  | [], _ => Nat.le_refl _
  | v :: vs, c => by
    have := sc_le vs c
    unfold sc tot
    split <;> omega
theorem sc_all : ∀ {vs : List (Edge × Nat)} {c : List Nat}, (∀ v ∈ vs, hits c v.1 = true) → sc vs c = tot vs
  | [], _, _ => rfl
  | v :: vs, c, h => by
    have := sc_all (vs := vs) (c := c) fun x hx => h x (.tail _ hx)
    unfold sc tot
    rw [if_pos (h v (.head _)), this]
theorem all_sc : ∀ {vs : List (Edge × Nat)} {c : List Nat}, (∀ v ∈ vs, 1 ≤ v.2) → tot vs ≤ sc vs c → ∀ v ∈ vs, hits c v.1 = true
  | [], _, _, _ => fun _ h => nomatch h
  | v :: vs, c, hw, h => by
    have l1 := sc_le vs c
    have h1 := hw v (.head _)
    unfold sc tot at h
    intro x hx
    by_cases q : hits c v.1 = true
    · rw [if_pos q] at h
      rcases List.mem_cons.mp hx with rfl | hx
      · exact q
      · exact all_sc (fun y hy => hw y (.tail _ hy)) (by omega) x hx
    · rw [if_neg q] at h
      omega
/-- what the law asks of every winner -/
theorem winner {right : Nat} (hr : right = 2 ∨ right = 3) {vs : List (Edge × Nat)} (hlen : vs.length ≤ 4) (hvs : ∀ v ∈ vs, v.1.1 < 3 ∧ 3 ≤ v.1.2 ∧ v.1.2 < 3 + right) (hw : ∀ v ∈ vs, 1 ≤ v.2)
    {most seats : Nat} (hm : most = mostL (vs.map (·.1)) (2 ^ (vs.map (·.1)).length)) (hs : seats ≤ most) {c : List Nat} (hc : c.length = seats)
    (hmax : ∀ d ∈ combos (3 + right) 0 seats, sc vs d ≤ sc vs c) : ((vs.map (·.1)).filter (fun e => !hits c e) = []) ↔ seats = most := by
  have hes : ∀ e ∈ vs.map (·.1), e.1 < 3 ∧ 3 ≤ e.2 ∧ e.2 < 3 + right := fun e he => by
    obtain ⟨v, hv, rfl⟩ := List.mem_map.mp he
    exact hvs v hv
  obtain ⟨⟨d, hd, hdc⟩, hno⟩ := most_facts hr (es := vs.map (·.1)) (by rw [List.length_map]; exact hlen) hes
  rw [← hm] at hd hno
  constructor
  · intro he
    by_cases q : seats = most
    · exact q
    · obtain ⟨e, he1, he2⟩ := hno c (by omega)
      have : e ∈ (vs.map (·.1)).filter (fun e => !hits c e) := List.mem_filter.mpr ⟨he1, by rw [he2]; rfl⟩
      rw [he] at this
      cases this
  · rintro rfl
    have h1 := hmax d hd
    rw [sc_all (vs := vs) (c := d) fun v hv => hdc v.1 (List.mem_map.mpr ⟨v, hv, rfl⟩)] at h1
    rw [List.filter_eq_nil_iff]
    intro e he
    obtain ⟨v, hv, rfl⟩ := List.mem_map.mp he
    rw [all_sc hw h1 v hv]
    decide
end
-- P2
section
/-! the items of a list that a mask picks -/
def mpick {α : Type} : List α → Nat → List α
  | [], _ => []
  | e :: es, k => if k % 2 = 1 then e :: mpick es (k / 2) else mpick es (k / 2)
theorem mpick_map {α β : Type} (f : α → β) : ∀ (l : List α) (k : Nat), (mpick l k).map f = mpick (l.map f) k
  | [], _ => rfl
  | e :: es, k => by
    unfold mpick
    split
    · rename_i h
      rw [List.map_cons, mpick_map f es, List.map_cons]
      simp [h]
    · rename_i h
      rw [mpick_map f es, List.map_cons]
      simp [h]
theorem grp_mpick : ∀ (l : List Edge) (k : Nat), grp l k = mpick l k
  | [], _ => rfl
  | e :: es, k => by
    unfold grp mpick
    rw [grp_mpick es]
theorem mpick_sub {α : Type} : ∀ (l : List α) (k : Nat), (mpick l k).Sublist l
  | [], _ => .slnil
  | e :: es, k => by
    unfold mpick
    split
    · exact (mpick_sub es _).cons_cons _
    · exact (mpick_sub es _).cons _
theorem mpick_snoc {α : Type} (e : α) : ∀ (l : List α) (k : Nat), mpick (l ++ [e]) k = mpick l k ++ (if k / 2 ^ l.length % 2 = 1 then [e] else [])
  | [], k => by
    simp [mpick]
  | a :: l, k => by
    have ih := mpick_snoc e l (k / 2)
    rw [show k / 2 / 2 ^ l.length = k / 2 ^ (l.length + 1) by rw [Nat.div_div_eq_div_mul, Nat.pow_succ, Nat.mul_comm]] at ih
    rw [List.cons_append]
    unfold mpick
    rw [ih, List.length_cons]
    split <;> rfl
theorem most_step (es : List Edge) (i : Nat) : mostL es (i + 1) = if apartB (mpick es i) then max (mostL es i) (mpick es i).length else mostL es i := by
  rw [← grp_mpick]
  rfl
end
-- S1
section
set_option maxHeartbeats 4000000
/-- an element of a set of small naturals: its number and its int's token -/
abbrev ev (e : Nat × Tok) : Int × Value := ((e.1 : Int), Value.int (e.1 : Int) e.2)
abbrev setT (led : Bool) (xs : List Nat) : SetTable := { mask := 7, place := xs.toArray, dummies := #[], finger := 0, led, moves := 0, plain := true }
abbrev setO (C : Value) (d : Option Addr) (led : Bool) (ep : Nat) (es : List (Nat × Tok)) : Obj := { cls := C, dict := d, data := .set (es.map ev).toArray ep (setT led (es.map (·.1))) }
/-- small, rising, at most three -/
structure Rise (xs : List Nat) : Prop where
  len : xs.length ≤ 3
  lt : ∀ x ∈ xs, x < 8
  up : xs.Pairwise (· < ·)
theorem fits_setT (led : Bool) {xs : List Nat} (h : xs.length ≤ 4) : (setT led xs).fits xs.length = true := by
  simp only [SetTable.fits, SetTable.fill, List.size_toArray, beq_self_eq_true, Bool.true_and, decide_eq_true_eq, List.length_nil]
  omega
theorem free0 : ∀ (led : Bool) (x : Fin 8), (setT led []).freeSlot ((x.1 : Nat) : Int) = some (x.1, false) ∧ (setT led []).put x.1 = (setT led [x.1], 0) := by decide +kernel
theorem free1 : ∀ (led : Bool) (a x : Fin 8), a < x → (setT led [a.1]).freeSlot ((x.1 : Nat) : Int) = some (x.1, false) ∧ (setT led [a.1]).put x.1 = (setT led [a.1, x.1], 1) := by decide +kernel
theorem free1' : ∀ (led : Bool) (a x : Fin 8), x < a → (setT led [a.1]).freeSlot ((x.1 : Nat) : Int) = some (x.1, false) ∧ (setT led [a.1]).put x.1 = (setT led [x.1, a.1], 0) := by decide +kernel
theorem free2 : ∀ (led : Bool) (a b x : Fin 8), a < b → b < x → (setT led [a.1, b.1]).freeSlot ((x.1 : Nat) : Int) = some (x.1, false) ∧ (setT led [a.1, b.1]).put x.1 = (setT led [a.1, b.1, x.1], 2) := by decide +kernel
theorem hash_small {prog : Program} {w : World} {x : Nat} (h : x < 8) : (intKind prog w).hash (x : Int) = (x : Int) := by
  have : x = 0 ∨ x = 1 ∨ x = 2 ∨ x = 3 ∨ x = 4 ∨ x = 5 ∨ x = 6 ∨ x = 7 := by omega
  rcases this with rfl | rfl | rfl | rfl | rfl | rfl | rfl | rfl <;> rfl
/-- a new element laid into a set -/
theorem lay_new (led : Bool) (es : List (Nat × Tok)) (x : Nat) (v : Value) (p : Nat) (es' : List (Nat × Tok))
    (hl : es'.length ≤ 4) (hf : (setT led (es.map (·.1))).freeSlot (x : Int) = some (x, false)) (hp : (setT led (es.map (·.1))).put x = (setT led (es'.map (·.1)), p))
    (hi : SetTable.insertAt (es.map ev).toArray p ((x : Int), v) = (es'.map ev).toArray) :
    layNew (setT led (es.map (·.1))) (es.map ev).toArray (x : Int) v = ((es'.map ev).toArray, setT led (es'.map (·.1)), false, false) := by
  have hfit := fits_setT led (xs := es'.map (·.1)) (by simpa using hl)
  have hsz : (es'.map ev).toArray.size = (es'.map (·.1)).length := by simp
  unfold layNew
  rw [hf]
  dsimp only
  rw [hp]
  dsimp only
  rw [hi, hsz]
  unfold SetTable.orStandIn
  rw [hfit]
  simp
theorem notFull (led : Bool) {xs : List Nat} (h : xs.length ≤ 4) : (setT led xs).tooFull = false := by
  simp only [SetTable.tooFull, SetTable.fill, List.size_toArray, decide_eq_false_iff_not, List.length_nil]
  omega
section
variable {w : World} {A : Around} {E : Value → Shared → Prop} {s : Shared} {a : Addr} {C : Value} {d : Option Addr} {led : Bool} {ep : Nat} {es es' : List (Nat × Tok)} {x : Nat} {t : Tok}
theorem elems_ev (h8 : ∀ e ∈ es, e.1 < 8) : ElemsOf (intKind prog w) (es.map ev) := by
  intro e he
  obtain ⟨e', he', rfl⟩ := List.mem_map.mp he
  exact ⟨⟨(e'.1 : Int), intKind_is _ _ _ _, (hash_small (h8 e' he')).symm⟩, rfl⟩
theorem state_set {Q : (Array (Int × Value) × Nat × SetTable) → Shared → Prop} (ho : s.heap.get? a = some (setO C d led ep es)) (hl : es.length ≤ 4) (h : Q ((es.map ev).toArray, ep, setT led (es.map (·.1))) s) :
    wpAny (model prog w) A (setState a) Q E s := by
  refine wpAny_setState_of ho rfl ?_ h
  have := fits_setT led (xs := es.map (·.1)) (by simpa using hl)
  simpa using this
theorem add_hashed {Q : Bool → Shared → Prop} (ho : s.heap.get? a = some (setO C d led ep es)) (hx : x < 8) (h8 : ∀ e ∈ es, e.1 < 8) (hl : es.length ≤ 3) (hnew : ∀ e ∈ es, e.1 ≠ x)
    (hlay : layNew (setT led (es.map (·.1))) (es.map ev).toArray (x : Int) (.int x t) = ((es'.map ev).toArray, setT led (es'.map (·.1)), false, false)) (hl' : es'.length ≤ 4)
    (h : ∀ h', Heap.SameBut a s.heap h' → h'.get? a = some (setO C d led (ep + 1) es') → Q true { s with heap := h' }) :
    wpAny (model prog w) A (setAddHashed a (.int x t) (x : Int)) Q E s := by
  have hel := elems_ev (w := w) h8
  unfold setAddHashed setAddHashedIn
  refine wpAny_holding (wpAny_bind (state_set ho (by omega) ?_))
  dsimp only
  rw [byScan_of (knd := intKind prog w) rfl (by simp [scanBound]; omega) (by simpa using hel)]
  simp only [↓reduceIte]
  unfold setAddByScan
  refine wpAny_bind ?_
  refine wpAny_bind (wpAny_rule ?_)
  have hs := fun (Q' : ScanMet → Shared → Prop) => wpAny_setScan_of (Q := Q') (w := w) (A := A) (E := E) (s := s) (a := a) (knd := intKind prog w) (k := (x : Int)) (x := .int x t) (adding := true) (o := setO C d led ep es) (es := (es.map ev).toArray) (ep := ep) (t := setT led (es.map (·.1)))
    (intKind_is _ _ _ _) ho rfl (by have := fits_setT led (xs := es.map (·.1)) (by simp; omega); simpa using this) (by simpa using hel)
  rw [hash_small hx] at hs
  refine wpAny_bind (hs _ ?_)
  have hnone : List.findIdx? (fun e : Int × Value => (intKind prog w).is (x : Int) e.2) (es.map ev).toArray.toList = none := by
    rw [List.findIdx?_eq_none_iff]
    intro e he
    obtain ⟨e', he', rfl⟩ := List.mem_map.mp (show e ∈ es.map ev by simpa using he)
    cases hq : (intKind prog w).is (x : Int) (ev e').2 with
    | false => rfl
    | true =>
      have h1 := (intKind prog w).inj _ _ _ hq (intKind_is prog w (e'.1 : Int) e'.2)
      exact absurd (by omega) (hnew e' he')
  rw [hnone]
  dsimp only
  rw [hlay]
  dsimp only
  refine wpAny_bind (wpAny_pure ?_)
  rw [hashByValue_scannable 8 (x := .int x t) rfl]
  refine wpAny_bind (wpAny_pure ?_)
  simp only [show plainKind (Value.int (x : Int) t) = true from rfl, if_true]
  refine wpAny_bind (wpAny_storeSet_of ho rfl ?_ (by simp [sizeLine_eq]; omega))
  simp only [notFull led (xs := es'.map (·.1)) (by simpa using hl'), Bool.and_false, Bool.false_eq_true, if_false]
  refine wpAny_pure (wpAny_pure ?_)
  refine h _ (Heap.SameBut.update s.heap a _) ?_
  rw [Heap.get?_update_self _ ho rfl]
  rfl
theorem set_add {Q : Bool → Shared → Prop} (ho : s.heap.get? a = some (setO C d led ep es)) (hx : x < 8) (h8 : ∀ e ∈ es, e.1 < 8) (hl : es.length ≤ 3) (hnew : ∀ e ∈ es, e.1 ≠ x)
    (hlay : layNew (setT led (es.map (·.1))) (es.map ev).toArray (x : Int) (.int x t) = ((es'.map ev).toArray, setT led (es'.map (·.1)), false, false)) (hl' : es'.length ≤ 4)
    (h : ∀ h', Heap.SameBut a s.heap h' → h'.get? a = some (setO C d led (ep + 1) es') → Q true { s with heap := h', toks := s.toks + 1 }) :
    wpAny (model prog w) A (setAdd a (.int x t)) Q E s := by
  unfold setAdd
  refine wpAny_holding (wpAny_bind ((intKind prog w).pyHash (intKind_is _ _ _ t) ?_))
  rw [hash_small hx]
  exact add_hashed (s := { s with toks := s.toks + 1 }) ho hx h8 hl hnew hlay hl' h
/-- appended at the end: it is greater than all -/
theorem lay_end (h8 : x < 8) (hl : es.length ≤ 2) (hr : (es.map (·.1)).Pairwise (· < ·)) (hlt : ∀ e ∈ es, e.1 < x) :
    layNew (setT led (es.map (·.1))) (es.map ev).toArray (x : Int) (.int x t) = (((es ++ [(x, t)]).map ev).toArray, setT led ((es ++ [(x, t)]).map (·.1)), false, false) := by
  match es, hl, hr, hlt with
  | [], _, _, _ =>
    have q := free0 led ⟨x, h8⟩
    exact lay_new led [] x _ 0 [(x, t)] (by simp) q.1 q.2 rfl
  | [e], _, _, hlt =>
    have h1 := hlt e (by simp)
    have q := free1 led ⟨e.1, by omega⟩ ⟨x, h8⟩ h1
    exact lay_new led [e] x _ 1 [e, (x, t)] (by simp) q.1 q.2 rfl
  | [e, f], _, hr, hlt =>
    have h1 := hlt f (by simp)
    have h2 : e.1 < f.1 := by simpa using hr
    have q := free2 led ⟨e.1, by omega⟩ ⟨f.1, by omega⟩ ⟨x, h8⟩ h2 h1
    exact lay_new led [e, f] x _ 2 [e, f, (x, t)] (by simp) q.1 q.2 rfl
theorem lay_front {e : Nat × Tok} (h8 : e.1 < 8) (hlt : x < e.1) :
    layNew (setT led ([e].map (·.1))) ([e].map ev).toArray (x : Int) (.int x t) = (([(x, t), e].map ev).toArray, setT led ([(x, t), e].map (·.1)), false, false) := by
  have q := free1' led ⟨e.1, h8⟩ ⟨x, by omega⟩ hlt
  exact lay_new led [e] x _ 0 [(x, t), e] (by simp) q.1 q.2 rfl
end
end
-- S2
section
set_option maxHeartbeats 4000000
section
variable {w : World} {A : Around} {E : Value → Shared → Prop} {S I : Addr} {C : Value} {d : Option Addr} {led : Bool} {fp wr : List Addr} {n : Nat} {P : Nat → Value → Prop} {St : Nat → Heap → Prop}
theorem at_other {a : Addr} {h h' : Heap} (hs : Heap.SameBut a h h') {b : Addr} {o : Obj} (hb : b ≠ a) (e : h.get? b = some o) : h'.get? b = some o := (hs.2 b hb).trans e
theorem upd_loop {R : Result → Shared → Prop} (W : Walks prog w A.in1 I fp wr n P St) (hSf : S ∉ fp) (vals : List (Nat × Tok)) (hn : vals.length = n) (hP : ∀ i v, P i v → ∃ e, vals[i]? = some e ∧ v = .int (e.1 : Int) e.2)
    (hup : (vals.map (·.1)).Pairwise (· < ·)) (h8 : ∀ e ∈ vals, e.1 < 8) (h3 : n ≤ 3) :
    ∀ (k i ep : Nat) (s : Shared), n - i = k → i ≤ n → St i s.heap → s.heap.get? S = some (setO C d led ep (vals.take i)) →
      (∀ h' tk ep', (∀ b o, b ∉ S :: wr → s.heap.get? b = some o → h'.get? b = some o) → h'.get? S = some (setO C d led ep' vals) → R (.ok (.ret .none)) { s with heap := h', toks := tk }) →
      codeAny (model prog w) A (.builtin "set.update.loop" ⟨[.ref S, .ref I], []⟩) R s := by
  have hSw : S ∉ wr := fun h => hSf (W.sub _ h)
  intro k
  induction k with
  | zero =>
    intro i ep s hk hi hst hS hR
    have hin : i = n := by omega
    subst hin
    refine codeAny_builtin F.entry_set_update_loop ?_
    rw [Around.under_plainId F.plain_set_update_loop _]
    show wpAny _ A.in1 (pyNext (.ref I) >>= _) _ _ s
    refine wpAny_bind (W.done s _ _ hst fun h' tk hk => ?_)
    show wpAny _ A.in1 (ret Value.none) _ _ _
    refine wpAny_pure (hR h' tk ep (fun b o hb e => hk b o (fun q => hb (List.mem_cons_of_mem _ q)) e) ?_)
    rw [List.take_of_length_le (by omega)] at hS
    exact hk S _ hSw hS
  | succ k ih =>
    intro i ep s hk hi hst hS hR
    have hlt : i < n := by omega
    refine codeAny_builtin F.entry_set_update_loop ?_
    rw [Around.under_plainId F.plain_set_update_loop _]
    show wpAny _ A.in1 (pyNext (.ref I) >>= _) _ _ s
    refine wpAny_bind (W.item i s _ _ hlt hst fun v h₁ tk₁ hPv hst₁ hk₁ => ?_)
    obtain ⟨e, he, rfl⟩ := hP i v hPv
    show wpAny _ A.in1 (holding [Value.int (e.1 : Int) e.2] (setAdd S (.int (e.1 : Int) e.2)) >>= _) _ _ _
    have hS₁ : h₁.get? S = some (setO C d led ep (vals.take i)) := hk₁ S _ hSw hS
    have hle : (vals.take i).length ≤ 2 := by rw [List.length_take]; omega
    have hsub : ∀ x ∈ vals.take i, x ∈ vals := fun x hx => List.mem_of_mem_take hx
    have hei : e ∈ vals := List.mem_of_getElem? he
    have hlts : ∀ x ∈ vals.take i, x.1 < e.1 := by
      intro x hx
      obtain ⟨j, hj, rfl⟩ := List.getElem_of_mem hx
      rw [List.length_take] at hj
      have hup' := List.pairwise_iff_getElem.mp hup j i (by rw [List.length_map]; omega) (by rw [List.length_map]; omega) (by omega)
      rw [List.getElem_map, List.getElem_map] at hup'
      have e2 : vals[i]'(by omega) = e := by
        rw [List.getElem?_eq_getElem (by omega)] at he
        exact Option.some.inj he
      rw [List.getElem_take]
      rw [e2] at hup'
      exact hup'
    have hr2 : ((vals.take i).map (·.1)).Pairwise (· < ·) := by
      rw [List.map_take]
      exact hup.sublist (List.take_sublist _ _)
    refine wpAny_bind (wpAny_holding (set_add (es' := vals.take i ++ [e]) (led := led) hS₁ (h8 e hei) (fun x hx => h8 x (hsub x hx)) (by omega) (fun x hx => Nat.ne_of_lt (hlts x hx))
      (lay_end (led := led) (h8 e hei) hle hr2 hlts) (by simp; omega) fun h₂ hs₂ hg₂ => ?_))
    have ht : vals.take i ++ [e] = vals.take (i + 1) := by
      rw [List.take_add_one, he]; rfl
    rw [ht] at hg₂
    refine wpAny_pure ⟨plainId_quiet F.plain_set_update_loop _, ih (i + 1) (ep + 1) _ (by omega) hlt (W.frame _ _ _ hst₁ fun b hb o eo => at_other hs₂ (fun q => hSf (q ▸ hb)) eo) hg₂ fun h' tk ep' hk' hS' => ?_⟩
    refine hR h' tk ep' (fun b o hb eo => hk' b o hb (at_other hs₂ (fun q => hb (q ▸ List.mem_cons_self)) (hk₁ b o (fun q => hb (List.mem_cons_of_mem _ q)) eo))) hS'
/-- `updateFrom` upon an empty set, from a list or a tuple of rising small ints -/
theorem upd_from {s : Shared} {id : String} {l : Addr} {ol : Obj} {T : String} {nl ep : Nat} {vals : List (Nat × Tok)} {Q : Unit → Shared → Prop} (hh : A.handled = none)
    (hS : s.heap.get? S = some (setO C d led ep [])) (hl : s.heap.get? l = some ol) (hT : T = "list" ∨ T = "tuple") (hc : ol.cls = .type T) (hd : ol.data = .seq (vals.map fun e => Value.int (e.1 : Int) e.2).toArray nl)
    (hup : (vals.map (·.1)).Pairwise (· < ·)) (h8 : ∀ e ∈ vals, e.1 < 8) (h3 : vals.length ≤ 3)
    (h : ∀ h' tk ep', (∀ b o, b ≠ S → s.heap.get? b = some o → h'.get? b = some o) → h'.get? S = some (setO C d led ep' vals) → Q () { s with heap := h', toks := tk }) :
    wpAny (model prog w) A (Builtin.Frozenset.updateFrom id S (.ref l)) Q E s := by
  have hlS : l ≠ S := by
    rintro rfl
    rw [hl] at hS
    cases hS
    cases hd
  have hlt : l < s.heap.objs.size := Heap.lt_size hl
  have hSt : S < s.heap.objs.size := Heap.lt_size hS
  have hTy : s.TypeIs (.ref l) T := ⟨ol, hl, hc⟩
  have n1 : isSubtype (.type T) (.type "set") = pure false := by
    rcases hT with rfl | rfl
    · exact F.sub_list_set
    · rw [isSubtype_type]; kernel_rfl
  have n2 : isSubtype (.type T) (.type "frozenset") = pure false := by
    rcases hT with rfl | rfl
    · exact F.sub_list_frozenset
    · rw [isSubtype_type]; kernel_rfl
  have n3 : (Value.type T == Value.type "dict") = false := by rcases hT with rfl | rfl <;> decide
  have hval : ∀ (i : Nat) (v : Value), (vals.map fun e => Value.int (e.1 : Int) e.2).toArray[i]? = some v → ∃ e, vals[i]? = some e ∧ v = .int (e.1 : Int) e.2 := by
    intro i v hv
    simp only [List.getElem?_toArray, List.getElem?_map, Option.map_eq_some_iff] at hv
    obtain ⟨e, he, rfl⟩ := hv
    exact ⟨e, he, rfl⟩
  have fin : ∀ it, (∀ A' : Around, A'.handled = none → ∃ fp St, Walks prog w A' s.heap.objs.size fp [s.heap.objs.size] vals.length (fun i v => (vals.map fun e => Value.int (e.1 : Int) e.2).toArray[i]? = some v) St ∧ St 0 (s.heap.push it) ∧ S ∉ fp) → it.isFreed = false →
      wpAny (model prog w) A (runValue (.builtin "set.update.loop" ⟨[.ref S, .ref s.heap.objs.size], []⟩)) (fun _ s' => Q () s') E { s with heap := s.heap.push it } := by
    intro it hW hf
    obtain ⟨fp, St, W, st, hSf⟩ := hW A.in1 (by simpa using hh)
    refine wpAny_runValue (upd_loop (C := C) (d := d) (led := led) W hSf vals rfl hval hup h8 h3 (vals.length - 0) 0 ep _ rfl (Nat.zero_le _) st (Heap.get?_push_of_some _ hS) fun h' tk ep' hk hS' => ?_)
    exact h h' tk ep' (fun b o hb e => hk b o (by
      simp only [List.mem_cons, List.not_mem_nil, or_false, not_or]
      exact ⟨hb, Nat.ne_of_lt (Heap.lt_size e)⟩) (Heap.get?_push_of_some _ e)) hS'
  unfold Builtin.Frozenset.updateFrom Builtin.Frozenset.isAnySet
  have hsz : (vals.map fun e => Value.int (e.1 : Int) e.2).toArray.size = vals.length := by simp
  have off : S ∉ [s.heap.objs.size, l] := fun q => by
    rcases List.mem_cons.mp q with q | q
    · exact Nat.ne_of_lt hSt q
    · exact hlS (List.mem_singleton.mp q).symm
  have last : wpAny (model prog w) A (pyIter (.ref l)) (fun it s' => wpAny (model prog w) A (runValue (.builtin "set.update.loop" ⟨[.ref S, it], []⟩)) (fun _ s' => Q () s') E s') E s := by
    rcases hT with rfl | rfl
    · have hli : s.heap.IsList l (vals.map fun e => Value.int (e.1 : Int) e.2).toArray := ⟨ol, hl, hc, nl, hd⟩
      refine wpAny_pyIter_list hli (fin _ (fun A' hA => ?_) rfl)
      have W := Walks.list (prog := prog) (w := w) hA s.heap.objs.size l (Nat.ne_of_lt hlt) (vals.map fun e => Value.int (e.1 : Int) e.2).toArray
      rw [hsz] at W
      exact ⟨_, _, W, ⟨⟨_, Heap.get?_push_size _ rfl, rfl, rfl⟩, hli.push _⟩, off⟩
    · have hti : s.heap.IsTuple l (vals.map fun e => Value.int (e.1 : Int) e.2).toArray := ⟨ol, hl, hc, nl, hd⟩
      refine wpAny_pyIter_tuple hti (fin _ (fun A' hA => ?_) rfl)
      have W := Walks.tuple (prog := prog) (w := w) hA s.heap.objs.size l (Nat.ne_of_lt hlt) (vals.map fun e => Value.int (e.1 : Int) e.2).toArray
      rw [hsz] at W
      exact ⟨_, _, W, ⟨⟨_, Heap.get?_push_size _ rfl, rfl, rfl⟩, hti.push _⟩, off⟩
  refine wpAny_bind (wpAny_bind (wpAny_isInstance hTy n1 ?_))
  refine wpAny_isInstance hTy n2 ?_
  simp only [Bool.false_eq_true, if_false]
  refine wpAny_bind (wpAny_typeOf hTy ?_)
  rw [n3]
  simp only [Bool.false_eq_true, if_false]
  refine wpAny_bind (wpAny_mono last (fun it s' q => wpAny_bind (wpAny_mono q (fun _ _ r => wpAny_pure r) fun _ _ r => r)) fun _ _ r => r)
/-- the body of `set.__init__` upon an empty set -/
theorem init_body {s : Shared} {l : Addr} {nm : String} {ep : Nat} {Q : Fin → Shared → Prop} (hS : s.heap.get? S = some (setO C d led ep []))
    (hN : Looks (model prog w) s.heap (typeNameOfCut 200 (.ref S)) nm)
    (h : wpAny (model prog w) A (Builtin.Frozenset.updateFrom "set.__init__" S (.ref l)) (fun _ s' => Q (.done (.ret .none)) s') E s) :
    wpAny (model prog w) A (Builtin.«set.__init__» ⟨[.ref S, .ref l], []⟩) Q E s := by
  unfold Builtin.«set.__init__» noKeywords
  refine wpAny_bind (wpAny_pure ?_)
  refine wpAny_bind (hN.here ?_)
  refine wpAny_bind (wpAny_pure ?_)
  refine wpAny_bind (wpAny_pure ?_)
  unfold setUsed
  refine wpAny_bind (wpAny_bind (state_set hS (by simp) (wpAny_pure ?_)))
  dsimp only
  refine wpAny_bind (wpAny_mono h (fun _ s' q => wpAny_pure q) fun _ _ q => q)
end
end
-- S4
section
set_option maxHeartbeats 4000000
/-- whether a set made here may be walked by its places -/
abbrev ledW (w : World) : Bool := !w.params.followText "set-order"
theorem pick_go {α : Type} (next : Nat → Nat) : ∀ (fuel k : Nat) (left : List α) (out : Array α), left.length = fuel →
    (pickOrder.go next fuel k left out).size = out.size + fuel ∧ ∀ x ∈ pickOrder.go next fuel k left out, x ∈ out ∨ x ∈ left
  | 0, k, left, out, _ => ⟨by simp [pickOrder.go], fun x hx => .inl (by simpa [pickOrder.go] using hx)⟩
  | fuel + 1, k, left, out, hl => by
    have hlt : next k % left.length < left.length := Nat.mod_lt _ (by omega)
    unfold pickOrder.go
    rw [List.getElem?_eq_getElem hlt]
    dsimp only
    obtain ⟨h1, h2⟩ := pick_go next fuel (k + 1) (left.eraseIdx (next k % left.length)) (out.push left[next k % left.length]) (by rw [List.length_eraseIdx_of_lt hlt]; omega)
    refine ⟨by rw [h1, Array.size_push]; omega, fun x hx => ?_⟩
    rcases h2 x hx with h | h
    · rcases Array.mem_push.mp h with h | h
      · exact .inl h
      · exact .inr (h ▸ List.getElem_mem hlt)
    · exact .inr (List.mem_of_mem_eraseIdx h)
theorem pick_ok {α : Type} (next : Nat → Nat) (xs : Array α) : (pickOrder next xs).size = xs.size ∧ ∀ x ∈ pickOrder next xs, x ∈ xs := by
  obtain ⟨h1, h2⟩ := pick_go next xs.size 0 xs.toList #[] (by simp)
  refine ⟨by unfold pickOrder; simpa using h1, fun x hx => ?_⟩
  rcases h2 x hx with h | h
  · simp at h
  · exact Array.mem_toList_iff.mp h
abbrev pls (es : List (Nat × Tok)) : Array Nat := (es.map (·.1)).toArray
theorem bel1 : ∀ a : Fin 8, SetTable.below #[a.1] 0 = 0 ∧ SetTable.below #[a.1] (a.1 + 1) = 1 := by decide +kernel
theorem bel2 : ∀ a b : Fin 8, a < b → SetTable.below #[a.1, b.1] 0 = 0 ∧ SetTable.below #[a.1, b.1] (a.1 + 1) = 1 ∧ SetTable.below #[a.1, b.1] (b.1 + 1) = 2 := by decide +kernel
theorem bel3 : ∀ a b c : Fin 8, a < b → b < c → SetTable.below #[a.1, b.1, c.1] 0 = 0 ∧ SetTable.below #[a.1, b.1, c.1] (a.1 + 1) = 1 ∧ SetTable.below #[a.1, b.1, c.1] (b.1 + 1) = 2 ∧ SetTable.below #[a.1, b.1, c.1] (c.1 + 1) = 3 := by decide +kernel
/-- small, rising entries -/
structure Sm (es : List (Nat × Tok)) : Prop where
  len : es.length ≤ 3
  lt : ∀ e ∈ es, e.1 < 8
  up : (es.map (·.1)).Pairwise (· < ·)
theorem bel {es : List (Nat × Tok)} (h : Sm es) : SetTable.below (pls es) 0 = 0 ∧ ∀ i (hi : i < es.length), SetTable.below (pls es) (es[i].1 + 1) = i + 1 := by
  obtain ⟨hl, h8, hu⟩ := h
  match es, hl with
  | [], _ => exact ⟨by decide +kernel, fun i hi => by simp at hi⟩
  | [a], _ =>
    have q := bel1 ⟨a.1, h8 a (by simp)⟩
    refine ⟨q.1, fun i hi => ?_⟩
    obtain rfl : i = 0 := by simp at hi; exact hi
    exact q.2
  | [a, b], _ =>
    have q := bel2 ⟨a.1, h8 a (by simp)⟩ ⟨b.1, h8 b (by simp)⟩ (by simpa using hu)
    refine ⟨q.1, fun i hi => ?_⟩
    have hi' : i < 2 := hi
    rcases (by omega : i = 0 ∨ i = 1) with rfl | rfl
    · exact q.2.1
    · exact q.2.2
  | [a, b, c], _ =>
    have hu' : (a.1 < b.1 ∧ a.1 < c.1) ∧ b.1 < c.1 := by simpa using hu
    have q := bel3 ⟨a.1, h8 a (by simp)⟩ ⟨b.1, h8 b (by simp)⟩ ⟨c.1, h8 c (by simp)⟩ hu'.1.1 hu'.2
    refine ⟨q.1, fun i hi => ?_⟩
    have hi' : i < 3 := hi
    rcases (by omega : i = 0 ∨ i = 1 ∨ i = 2) with rfl | rfl | rfl
    · exact q.2.1
    · exact q.2.2.1
    · exact q.2.2.2
section
variable {w : World} {A : Around} {E : Value → Shared → Prop} {s : Shared} {S : Addr} {C : Value} {d : Option Addr} {ep : Nat} {es : List (Nat × Tok)}
abbrev SlotOk (w : World) (es : List (Nat × Tok)) (slot i : Nat) : Prop := ledW w = true → SetTable.below (pls es) slot = i
theorem set_next {slot i : Nat} {Q : Option (Value × Nat) → Shared → Prop} (ho : s.heap.get? S = some (setO C d (ledW w) ep es)) (hsm : Sm es) (hi : i ≤ es.length) (hs : SlotOk w es slot i)
    (hend : i = es.length → Q none s) (h : i < es.length → ∀ e ∈ es, ∀ slot', SlotOk w es slot' (i + 1) → Q (some (.int (e.1 : Int) e.2, slot')) s) : wpAny (model prog w) A (setNext S slot i ep) Q E s := by
  unfold setNext
  refine wpAny_bind (state_set ho (by have := hsm.len; omega) ?_)
  dsimp only
  unfold setsByText
  refine wpAny_bind (wpAny_bind (wpAny_askSetting (wpAny_pure ?_)))
  dsimp only
  cases hb : w.params.followText "set-order" with
  | true =>
    have hb' : (model prog w).w.params.followText "set-order" = true := hb
    rw [hb']
    simp only [if_true, bne_self_eq_false, Bool.false_eq_true, if_false]
    unfold setWalk setsByText
    refine wpAny_bind (wpAny_bind (state_set ho (by have := hsm.len; omega) ?_))
    dsimp only
    refine wpAny_bind (wpAny_bind (wpAny_askSetting (wpAny_pure ?_)))
    rw [hb']
    simp only [if_true]
    refine wpAny_bind (wpAny_askSetting (wpAny_pure (wpAny_pure ?_)))
    have key : ∀ po : Array (Int × Value), po.size = es.length → (∀ x ∈ po, x ∈ (es.map ev).toArray) → Q ((po[i]?).map fun e => (e.2, slot)) s := by
      intro po p1 p2
      by_cases hie : i = es.length
      · rw [Array.getElem?_eq_none (by omega)]
        exact hend hie
      · have hlt : i < es.length := by omega
        rw [Array.getElem?_eq_getElem (by omega)]
        have hm := p2 _ (Array.getElem_mem (xs := po) (i := i) (by omega))
        obtain ⟨e, he, hee⟩ : ∃ e ∈ es, ev e = po[i]'(by omega) := by simpa using hm
        rw [← hee]
        exact h hlt e he slot fun q => by
          have : ledW w = false := by unfold ledW; rw [hb]; rfl
          rw [this] at q; cases q
    exact key _ (by rw [(pick_ok _ _).1]; simp) (pick_ok _ _).2
  | false =>
    have hb' : (model prog w).w.params.followText "set-order" = false := hb
    have hw : ledW w = true := by unfold ledW; rw [hb]; rfl
    rw [hb']
    simp only [Bool.false_eq_true, if_false]
    rw [hw]
    refine wpAny_bind (wpAny_of_eq (a := ()) rfl ?_)
    have hbel := hs hw
    rw [show SetTable.below (setT true (es.map (·.1))).place slot = i from hbel]
    refine wpAny_pure ?_
    by_cases hie : i = es.length
    · rw [Array.getElem?_eq_none (by simp; omega)]
      exact hend hie
    · have hlt : i < es.length := by omega
      have e1 : (es.map ev).toArray[i]? = some (ev es[i]) := by simp [hlt]
      have e2 : (setT true (es.map (·.1))).place[i]? = some es[i].1 := by simp [hlt]
      rw [e1, e2]
      exact h hlt es[i] (List.getElem_mem hlt) _ fun _ => (bel hsm).2 i hlt
end
end
-- S3
section
set_option maxHeartbeats 4000000
/-- what making an object of a subclass of set reads -/
structure SMakes (M : Model) (h : Heap) (C : Addr) : Prop where
  obj : ∃ oc od cd sl, h.get? C = some ⟨oc, od, .cls cd, sl⟩ ∧ cd.abstract = false ∧ cd.hasDel = false ∧ cd.mro.isEmpty = false ∧ cd.hasDict = true
  made : Looks M h (Bind.madeBy (.ref C)) (some "set.__new__")
  base : Looks M h (Bind.staticBase (.ref C)) (.ref C)
  self : Looks M h (isSubtype (.ref C) (.ref C)) true
  top : Looks M h (isSubtype (.ref C) (.type "set")) true
  call : Looks M h (specialOf (.ref C) "__call__") (some (.builtin "type.__call__"))
  typ : Looks M h (isInstance (.ref C) (.type "type")) true
def smakesIn (K : Frag) (C : Addr) : Bool := match K.lookup C with
  | some ⟨_, _, .cls cd, sl⟩ => !cd.abstract && !cd.hasDel && (sl.toList[4]?).join == some (.builtin "set.__new__") && !cd.mro.isEmpty && cd.hasDict && cd.mro.contains (.ref C) && cd.mro.contains (.type "set") &&
      specialIn K (.ref C) "__call__" == some (some (.builtin "type.__call__")) && instIn K (.ref C) (.type "type") == some true
  | _ => false
theorem smakes_of {K : Frag} {M : Model} {h : Heap} (X : K.In h) {C : Addr} (e : smakesIn K C = true) : SMakes M h C := by
  unfold smakesIn at e
  split at e
  · rename_i oc od cd sl ho
    simp only [Bool.and_eq_true, Bool.not_eq_true', beq_iff_eq] at e
    obtain ⟨⟨⟨⟨⟨⟨⟨⟨e1, e2⟩, e3⟩, e4⟩, e9⟩, e5⟩, e6⟩, e7⟩, e8⟩ := e
    have hc : clsIn K C = some cd := by unfold clsIn; rw [ho]
    have hm : Looks M h (mroOf (.ref C)) cd.mro := (looks_clsIn X hc).andThen .now
    obtain ⟨c, l, hl⟩ : ∃ c l, cd.mro = c :: l := by
      cases q : cd.mro with
      | nil => rw [q] at e4; cases e4
      | cons c l => exact ⟨c, l, rfl⟩
    have made : Looks M h (Bind.madeBy (.ref C)) (some "set.__new__") := by
      intro A Q E s k q
      unfold Bind.madeBy
      refine wpAny_bind (hm A _ E s k ?_)
      rw [hl, List.forIn_cons]
      refine wpAny_bind (wpAny_bind (wpAny_bind (wpAny_bind (wpAny_loadPart (k _ _ (X _ _ ho)) (wpAny_pure ?_)))))
      dsimp only
      rw [← Array.getElem?_toList, e3]
      exact wpAny_pure (wpAny_pure (wpAny_pure q))
    refine ⟨⟨oc, od, cd, sl, X _ _ ho, e1, e2, e4, e9⟩, made, ?_, looks_mroIn X ?_, looks_mroIn X ?_, looks_specialIn X e7, looks_instIn X e8⟩
    · intro A Q E s k q
      unfold Bind.staticBase
      refine wpAny_bind (hm A _ E s k ?_)
      rw [hl, List.forIn_cons]
      exact wpAny_bind (wpAny_bind (wpAny_bind (made A _ E s k (wpAny_pure (wpAny_pure (wpAny_pure q))))))
    · unfold mroIn
      rw [hc, Option.bind_some, if_neg (by rw [e4]; decide), e5]
    · unfold mroIn
      rw [hc, Option.bind_some, if_neg (by rw [e4]; decide), e6]
  · cases e
theorem smakes75 {p : Params} {M : Model} {h : Heap} (X : (kf.heap_1 p).In h) : SMakes M h 75 := smakes_of X (by kernel_rfl)
abbrev freshSet (C : Addr) (dx : Addr) (led : Bool) : Obj := setO (.ref C) (some dx) led 0 []
theorem set_new_args (a : Value) (rest : List Value) (kw : List (Str × Value)) (sig : Manifest.Signature) (hs : Manifest.signature? "set.__new__" = some sig) : Bind.checkArgs "set.__new__" sig ⟨a :: rest, kw⟩ = pure () := by
  have : sig = ⟨.any, "set", "set", .cls, [⟨"args", .varPos, false⟩, ⟨"kwargs", .varKw, false⟩]⟩ := by
    have e : Manifest.signature? "set.__new__" = some ⟨.any, "set", "set", .cls, [⟨"args", .varPos, false⟩, ⟨"kwargs", .varKw, false⟩]⟩ := by
      rw [signature?_of (id := "set.__new__") (n := ['_', '_', 'w', 'e', 'n', '_', '_']) (o := ['t', 'e', 's']) (by kernel_rfl) F.owner_set]; kernel_rfl
    rw [e] at hs
    exact (Option.some.inj hs).symm
  subst this
  kernel_rfl
section
variable {w : World} {A : Around} {C : Addr} {R : Result → Shared → Prop} {h : Heap} {g : Array GenState} {d : Drawn} {t : Nat} {os : OsState}
theorem new_set {rest : List Value} {kw : List (Str × Value)} (Y : SMakes (model prog w) h C)
    (hq : R (.ok (.ret (.ref (h.objs.size + 1)))) ⟨(h.push emptyDict).push (freshSet C h.objs.size (ledW w)), g, d, t, os⟩) :
    codeAny (model prog w) A (.call (.builtin "set.__new__") ⟨.ref C :: rest, kw⟩) R ⟨h, g, d, t, os⟩ := by
  obtain ⟨⟨oc, od, cd, sl, hC, e1, e2, e4, e9⟩, made, base, self, top, call, typ⟩ := Y
  refine codeAny_call_builtin_code (plainId_quiet F.plain_set_new _) ?_
  have hk : builtinKind "set.__new__" = some .builtinFn := by kernel_rfl
  have hsp : splitId "set.__new__" = some ("set", "__new__") := by kernel_rfl
  have hsig : Manifest.signature? "set.__new__" = some ⟨.any, "set", "set", .cls, [⟨"args", .varPos, false⟩, ⟨"kwargs", .varKw, false⟩]⟩ := by
    rw [signature?_of (id := "set.__new__") (n := ['_', '_', 'w', 'e', 'n', '_', '_']) (o := ['t', 'e', 's']) (by kernel_rfl) F.owner_set]; kernel_rfl
  have args := set_new_args (.ref C) rest kw _ hsig
  simp only [checkBuiltinCall, hk, hsp, hsig]
  rw [args]
  repeat (first | simp only [bne_self_eq_false, Bool.false_eq_true, if_false] | lk)
  refine codeAny_builtin F.entry_set_new ?_
  unfold Builtin.«set.__new__» Builtin.Frozenset.newClass
  have htype : Looks (model prog w) h (isType (.ref C)) true := by
    intro A Q E s k q
    exact wpAny_bind (wpAny_loadPart (k _ _ hC) (wpAny_pure q))
  repeat (first | simp only [bne_self_eq_false, Bool.false_eq_true, if_false] | lk)
  refine wpAny_load (Heap.get?_push_of_some _ (Heap.get?_push_of_some _ hC)) ?_
  dsimp only
  refine wpAny_pure ?_
  rw [e2]
  refine wpAny_pure (wpAny_pure ?_)
  show R _ _
  rw [Heap.size_push]
  exact hq
theorem make_set {rest : List Value} {kw : List (Str × Value)} {init : Value} (Y : SMakes (model prog w) h C) (hi : Looks (model prog w) h (typeLookup (.ref C) "__init__") (some init))
    (hb : ∀ self, Looks (model prog w) h (bindSpecial init self) (init, [self]))
    (hq : codeAny (model prog w) (A.under (.builtin "type.__call__" ⟨.ref C :: rest, kw⟩)) (.call init ⟨.ref (h.objs.size + 1) :: rest, kw⟩) (InitBack (h.objs.size + 1) R) ⟨(h.push emptyDict).push (freshSet C h.objs.size (ledW w)), g, d, t, os⟩) :
    codeAny (model prog w) A (.call (.ref C) ⟨rest, kw⟩) R ⟨h, g, d, t, os⟩ := by
  have Y' := Y
  obtain ⟨⟨oc, od, cd, sl, hC, e1, e2, e4, e9⟩, made, base, self, top, call, typ⟩ := Y
  refine codeAny_of_tree ?_
  show wpAny _ _ (callAny (.ref C) _) _ _ _
  refine nd_load hC ?_
  show wpAny _ _ (callAny.viaDunder (.ref C) _) _ _ _
  unfold callAny.viaDunder
  refine wpAny_bind (call.at ?_)
  dsimp only
  rw [tc_bind]
  refine wpAny_bind (wpAny_pure (wpAny_bind (wpAny_pure ?_)))
  refine wpAny_pure (a := Fin.again (.call (.builtin "type.__call__") ⟨.ref C :: rest, kw⟩)) (And.intro rfl ?_)
  refine codeAny_call_builtin_at (Code.quiet_builtin _ (by decide +kernel)) entry_typeCall ?_
  with_reducible refine check_slot tc_kind tc_split typ (tc_args _ _ _) ?_
  unfold Builtin.«type.__call__»
  have hm : Looks (model prog w) h (mroOf (.ref C)) cd.mro := ((Looks.ld (part := none) hC).andThen .now).andThen .now
  repeat (first | simp only [e4, Bool.false_eq_true, if_false] | with_reducible refine wpAny_call ?_ | lk)
  refine new_set Y' ?_
  have k : ∀ b o, h.get? b = some o → ((h.push emptyDict).push (freshSet C h.objs.size (ledW w))).get? b = some o := fun b o e => Heap.get?_push_of_some _ (Heap.get?_push_of_some _ e)
  have hx : ((h.push emptyDict).push (freshSet C h.objs.size (ledW w))).get? (h.objs.size + 1) = some (freshSet C h.objs.size (ledW w)) := by
    have := Heap.get?_push_size (h := h.push emptyDict) (o := freshSet C h.objs.size (ledW w)) rfl
    rwa [Heap.size_push] at this
  have t1 : Looks (model prog w) ((h.push emptyDict).push (freshSet C h.objs.size (ledW w))) (typeOf (.ref (h.objs.size + 1))) (.ref C) := (Looks.ld hx).andThen .now
  have s1 := self.keeps k
  have i1 := hi.keeps k
  have b1 := (hb (.ref (h.objs.size + 1))).keeps k
  unfold isInstance callSpecial? specialOf
  repeat (first | with_reducible refine wpAny_call ?_ | lk)
  refine codeAny_mono hq fun r s' z => ?_
  rcases r with e | (v | _ | _ | _) <;> first | exact z | exact z.elim | skip
  obtain ⟨rfl, z⟩ := z
  exact wpAny_pure (wpAny_pure z)
end
section
variable {w : World} {A : Around} {K : Frag} {s : Shared} {h₀ : Heap} {L C : Addr} {m : Str → Option Value} {news : List (Addr × Obj)} {R : Result → Shared → Prop}
theorem make_setN {rest : List Value} {kw : List (Str × Value)} {fI : Addr} (F : Fr h₀ L s.heap m) (N : News h₀ L s.heap news) (X : K.In s.heap) (hm : smakesIn K C = true)
    (hi : findIn K (.ref C) "__init__" = some (some (.ref fI))) (hf : typeIn K (.ref fI) = some (.type "function"))
    (h : ∀ x dx h', Fr h₀ L h' m → News h₀ L h' ((x, freshSet C dx (ledW w)) :: (dx, emptyDict) :: news) → (∀ p ∈ news, p.1 < dx) → dx < x → (∀ b o, s.heap.get? b = some o → h'.get? b = some o) →
      codeAny (model prog w) (A.under (.builtin "type.__call__" ⟨.ref C :: rest, kw⟩)) (.call (.ref fI) ⟨.ref x :: rest, kw⟩) (InitBack x R) { s with heap := h' }) :
    codeAny (model prog w) A (.call (.ref C) ⟨rest, kw⟩) R s := by
  obtain ⟨hh, g, d, t, os⟩ := s
  refine make_set (smakes_of X hm) (looks_findIn X hi) (fun self => bind_fn X self hf) (h _ hh.objs.size _ ((F.push _).push _) ?_ (fun p hp => Heap.lt_size (N p hp).1) (Nat.lt_succ_self _) (fun b o e => Heap.get?_push_of_some _ (Heap.get?_push_of_some _ e)))
  have := (N.push F emptyDict).push (F.push _) (freshSet C hh.objs.size (ledW w))
  rwa [Heap.size_push] at this
end
end
-- S5
section
set_option maxHeartbeats 4000000
/-- a set, or an object of a subclass that leaves these slots as they are -/
structure SetLike (M : Model) (h : Heap) (S : Addr) : Prop where
  it : Looks M h (specialOf (.ref S) "__iter__") (some (.builtin "set.__iter__"))
  ln : Looks M h (specialOf (.ref S) "__len__") (some (.builtin "set.__len__"))
  co : Looks M h (specialOf (.ref S) "__contains__") (some (.builtin "set.__contains__"))
  inst : Looks M h (isInstance (.ref S) (.type "set")) true
theorem SetLike.keeps {M : Model} {h h' : Heap} {S : Addr} (x : SetLike M h S) (k : ∀ b o, h.get? b = some o → h'.get? b = some o) : SetLike M h' S :=
  ⟨x.it.keeps k, x.ln.keeps k, x.co.keeps k, x.inst.keeps k⟩
section
variable {prog : Program} {w : World} {A : Around} {E : Value → Shared → Prop} {s : Shared}
/-- a call of a builtin slot with a self of a fit class -/
theorem call_slotL {id : String} {owner n : String} {b : Builtin} {self : Value} {rest : List Value} {Q : Value → Shared → Prop}
    (hk : builtinKind id = some .slot) (hs : splitId id = some (owner, n)) (hi : Looks (model prog w) s.heap (isInstance self (.type owner)) true) (hp : plainId id = true) (hb : entryFor table id = some b)
    (hc : wpAny (model prog w) A.in1 (b ⟨self :: rest, []⟩) (fun fin s' => ∃ v, fin = .done (.ret v) ∧ Q v s') E s) (ha : argsOk id ⟨self :: rest, []⟩) :
    wpAny (model prog w) A (call (.builtin id) (self :: rest)) Q E s := by
  refine wpAny_call (codeAny_call_builtin hp hb (check_slot hk hs hi ha (wpAny_mono hc (fun fin s' h' => ?_) fun _ _ h' => h')))
  obtain ⟨v, rfl, hv⟩ := h'; exact hv
theorem callSpecialL {M : Model} {id : String} {self : Value} {name : Str} {args : List Value} {Q : Option Value → Shared → Prop}
    (hl : Looks M s.heap (specialOf self name) (some (.builtin id))) (hb : bindSpecial (.builtin id) self = pure (.builtin id, [self]))
    (hc : wpAny M A (call (.builtin id) (self :: args)) (fun v s' => Q (some v) s') E s) : wpAny M A (callSpecial? self name args) Q E s := by
  unfold callSpecial?
  refine wpAny_bind (hl.here ?_)
  dsimp only
  refine wpAny_holding (wpAny_bind (wpAny_of_eq hb ?_))
  exact wpAny_bind (wpAny_mono hc (fun v s' q => wpAny_pure q) fun _ _ q => q)
end
theorem k_set_len : builtinKind "set.__len__" = some .slot := by kernel_rfl
theorem k_set_iter : builtinKind "set.__iter__" = some .slot := by kernel_rfl
theorem k_set_co : builtinKind "set.__contains__" = some .method := by kernel_rfl
theorem sp_set_len : splitId "set.__len__" = some ("set", "__len__") := by kernel_rfl
theorem sp_set_iter : splitId "set.__iter__" = some ("set", "__iter__") := by kernel_rfl
theorem sp_set_co : splitId "set.__contains__" = some ("set", "__contains__") := by kernel_rfl
theorem entry_set_iter : entryFor table "set.__iter__" = some Builtin.«frozenset.__iter__» :=
  entryFor_alias (id' := "frozenset.__iter__") (by rw [fastTable_eq_tree]; kernel_rfl) rfl (by decide +kernel) (by rw [fastTable_eq_tree]; kernel_rfl)
theorem slot_setiter_next : Slot "set_iterator" "__next__" "set_iterator.__next__" :=
  .of (owner := "set_iterator") (n := "__next__") (by rw [typeLookup_type, builtinLookup_eq_fast]; kernel_rfl) (by decide +kernel) (by decide +kernel) (by decide +kernel)
    (by first | exact .inl (by decide +kernel) | exact .inr (by decide +kernel)) (by rw [isSubtype_type]; kernel_rfl)
theorem slot_setiter_iter : Slot "set_iterator" "__iter__" "set_iterator.__iter__" :=
  .of (owner := "set_iterator") (n := "__iter__") (by rw [typeLookup_type, builtinLookup_eq_fast]; kernel_rfl) (by decide +kernel) (by decide +kernel) (by decide +kernel)
    (by first | exact .inl (by decide +kernel) | exact .inr (by decide +kernel)) (by rw [isSubtype_type]; kernel_rfl)
theorem entry_setiter_next : entryFor table "set_iterator.__next__" = some Builtin.«set_iterator.__next__» := entryFor_of_tree (by kernel_rfl)
theorem args_setiter_next (a : Value) : argsOk "set_iterator.__next__" ⟨[a], []⟩ := by unfold argsOk; kernel_rfl
theorem args_setiter_iter (a : Value) : argsOk "set_iterator.__iter__" ⟨[a], []⟩ := by unfold argsOk; kernel_rfl
theorem args_set_iter (a : Value) : argsOk "set.__iter__" ⟨[a], []⟩ := by unfold argsOk; kernel_rfl
theorem entry_setiter_iter : ∃ b, entryFor table "set_iterator.__iter__" = some b ∧ b = Builtin.«dict_keyiterator.__iter__» :=
  ⟨_, entryFor_alias (id' := "dict_keyiterator.__iter__") (by rw [fastTable_eq_tree]; kernel_rfl) rfl (by decide +kernel) (by rw [fastTable_eq_tree]; kernel_rfl), rfl⟩
section
variable {w : World} {A : Around} {E : Value → Shared → Prop} {s : Shared} {S : Addr} {C : Value} {d : Option Addr} {ep : Nat} {es : List (Nat × Tok)}
theorem entries_set {Q : Array (Int × Value) → Shared → Prop} (ho : s.heap.get? S = some (setO C d (ledW w) ep es)) (hl : es.length ≤ 4) (h : Q (es.map ev).toArray s) : wpAny (model prog w) A (setEntries S) Q E s := by
  unfold setEntries
  exact wpAny_bind (state_set ho hl (wpAny_pure h))
theorem drawn_set {Q : Bool → Shared → Prop} (ho : s.heap.get? S = some (setO C d (ledW w) ep es)) (hl : es.length ≤ 4) (h : Q false s) : wpAny (model prog w) A (setDrawn S) Q E s := by
  unfold setDrawn
  refine wpAny_bind (state_set ho hl ?_)
  dsimp only
  unfold setsByText
  refine wpAny_bind (wpAny_bind (wpAny_askSetting (wpAny_pure ?_)))
  refine wpAny_pure ((show ∀ b : Bool, b = false → Q b s from fun b e => e ▸ h) _ ?_)
  show (!_ && (!true && decide ((es.map ev).toArray.size > 1))) = false
  simp
theorem len_set {Q : Value → Shared → Prop} (Y : SetLike (model prog w) s.heap S) (ho : s.heap.get? S = some (setO C d (ledW w) ep es)) (hl : es.length ≤ 4)
    (h : ∀ t tk, Q (.int es.length t) { s with toks := tk }) : wpAny (model prog w) A (call (.builtin "len") [.ref S]) Q E s := by
  refine Calls.call_function_entry kind_len plain_len entry_len (args_len1 _) ?_
  unfold Builtin.«len»
  refine wpAny_bind (m := oneArg "len" _) (wpAny_pure ?_)
  refine wpAny_bind (m := callSpecial? (.ref S) (Str.ofString "__len__")) (callSpecialL Y.ln (F.slot_set_len.bind _) (call_slotL k_set_len sp_set_len Y.inst F.slot_set_len.plain entry_set_len ?_ (F.args_set_len_1 _)))
  unfold Builtin.«frozenset.__len__» Builtin.Frozenset.slot0 slotArgs
  simp only [List.isEmpty_nil, Bool.not_true, Bool.false_eq_true, ↓reduceIte, bind_assoc, List.length_nil, bne_self_eq_false]
  unfold Builtin.Frozenset.addrOf Builtin.Frozenset.sizeOf
  refine wpAny_bind (wpAny_pure ?_)
  try dsimp only
  refine wpAny_bind (wpAny_pure ?_)
  refine wpAny_bind (wpAny_bind (entries_set ho hl (wpAny_pure ?_)))
  show wpAny _ _ (retInt _) _ _ _
  unfold retInt
  have hz : (es.map ev).toArray.size = es.length := by simp
  rw [hz]
  refine wpAny_bind (wpAny_mkInt (wpAny_pure ⟨_, rfl, ?_⟩))
  refine wpAny_bind (wpAny_holding (wpAny_pure ?_))
  refine wpAny_bind (wpAny_letGo ?_)
  show wpAny _ _ (if ((es.length : Nat) : Int) < 0 then _ else _) _ _ _
  rw [if_neg (by omega)]
  show wpAny _ _ (if ((es.length : Nat) : Int) ≥ 2 ^ 63 then _ else _) _ _ _
  rw [if_neg (by omega)]
  exact wpAny_bind (wpAny_mkInt (wpAny_pure ⟨_, rfl, h _ _⟩))
end
/-- an iterator over a set -/
abbrev sitO (S : Addr) (n ep slot i : Nat) : Obj := { cls := .type "set_iterator", dict := none, data := .fields #[.int slot 0, .int i 0, .ref S, .int n 0, .int ep 0], slots := #[] }
def SIt (h : Heap) (I S : Addr) (n ep slot i : Nat) : Prop := h.get? I = some (sitO S n ep slot i)
theorem SIt.typeIs {s : Shared} {I S : Addr} {n ep slot i : Nat} (x : SIt s.heap I S n ep slot i) : s.TypeIs (.ref I) "set_iterator" := ⟨_, x, rfl⟩
section
variable {w : World} {A : Around} {E : Value → Shared → Prop} {s : Shared} {S I : Addr} {C : Value} {d : Option Addr} {ep : Nat} {es : List (Nat × Tok)}
theorem iter_set {Q : Value → Shared → Prop} (Y : SetLike (model prog w) s.heap S) (ho : s.heap.get? S = some (setO C d (ledW w) ep es)) (hl : es.length ≤ 4)
    (h : Q (.ref s.heap.objs.size) { s with heap := s.heap.push { cls := .type "set_iterator", data := .fields #[.int 0 0, .int 0 0, .ref S, .int es.length 0, .int ep 0] } }) :
    wpAny (model prog w) A (pyIter (.ref S)) Q E s := by
  have hz : (es.map ev).toArray.size = es.length := by simp
  have key : wpAny (model prog w) A (call (.builtin "set.__iter__") [.ref S]) (fun v s' => v = .ref s.heap.objs.size ∧ s' = { s with heap := s.heap.push { cls := .type "set_iterator", data := .fields #[.int 0 0, .int 0 0, .ref S, .int es.length 0, .int ep 0] } }) E s := by
    refine call_slotL k_set_iter sp_set_iter Y.inst F.slot_set_iter.plain entry_set_iter ?_ (args_set_iter _)
    unfold Builtin.«frozenset.__iter__» Builtin.Frozenset.slot0 slotArgs
    simp only [List.isEmpty_nil, Bool.not_true, Bool.false_eq_true, ↓reduceIte, bind_assoc, List.length_nil, bne_self_eq_false]
    unfold Builtin.Frozenset.addrOf Builtin.Frozenset.sizeOf
    refine wpAny_bind (wpAny_pure ?_)
    try dsimp only
    refine wpAny_bind (wpAny_pure ?_)
    refine wpAny_bind (wpAny_bind (entries_set ho hl (wpAny_pure ?_)))
    refine wpAny_bind (drawn_set ho hl ?_)
    simp only [Bool.false_eq_true, if_false]
    refine wpAny_bind (wpAny_pure ?_)
    unfold setEpoch
    refine wpAny_bind (wpAny_bind (state_set ho hl (wpAny_pure ?_)))
    refine wpAny_bind (wpAny_newObj_type (wpAny_pure ⟨_, rfl, rfl, ?_⟩))
    rw [hz]; rfl
  unfold pyIter
  refine wpAny_bind (Y.it.here ?_)
  show wpAny _ A (callSpecialIfBoundUnlessNone? (.ref S) "__iter__" _ >>= _) Q E s
  refine wpAny_bind ?_
  have one : ∀ refuse : Sem Value, wpAny (model prog w) A (callSpecialIfBoundUnlessNone? (.ref S) "__iter__" refuse) (fun r s' => ∃ v, r = some v ∧ v = .ref s.heap.objs.size ∧ s' = { s with heap := s.heap.push { cls := .type "set_iterator", data := .fields #[.int 0 0, .int 0 0, .ref S, .int es.length 0, .int ep 0] } }) E s := by
    intro refuse
    simp only [callSpecialIfBoundUnlessNone?, bindSpecialIfBound?]
    refine wpAny_holding (wpAny_bind (wpAny_bind (Y.it.here ?_)))
    dsimp only
    have fin2 : wpAny (model prog w) A (if (Value.builtin "set.__iter__" == Value.none) = true then (refuse >>= fun v => pure (some v)) else (call (.builtin "set.__iter__") [.ref S] >>= fun v => pure (some v))) (fun r s' => ∃ v, r = some v ∧ v = .ref s.heap.objs.size ∧ s' = { s with heap := s.heap.push { cls := .type "set_iterator", data := .fields #[.int 0 0, .int 0 0, .ref S, .int es.length 0, .int ep 0] } }) E s := by
      rw [if_neg (show ¬ ((Value.builtin "set.__iter__" == Value.none) = true) from Bool.false_ne_true)]
      exact wpAny_bind (wpAny_mono key (fun v s' q => wpAny_pure ⟨v, rfl, q⟩) fun _ _ q => q)
    refine wpAny_bind (wpAny_askSetting (wpAny_ite ?_))
    split
    · exact wpAny_bind (wpAny_of_eq (F.slot_set_iter.bind _) (wpAny_pure (by exact fin2)))
    · exact wpAny_tryCatch (wpAny_bind (wpAny_of_eq (F.slot_set_iter.bind _) (wpAny_pure (by exact fin2))))
  refine wpAny_mono (one _) (fun r s' hr => ?_) fun _ _ z => z
  obtain ⟨v, rfl, rfl, rfl⟩ := hr
  exact wpAny_bind (wpAny_specialOf (T := "set_iterator") ⟨_, Heap.get?_push_size _ rfl, rfl⟩ slot_setiter_next.lookup (wpAny_pure h))
end
end
-- S6
section
set_option maxHeartbeats 4000000
section
variable {w : World} {A : Around} {E : Value → Shared → Prop} {s : Shared} {S I : Addr} {C : Value} {d : Option Addr} {ep : Nat} {es : List (Nat × Tok)}
theorem sit_next_item {slot i : Nat} {Q : Option Value → Shared → Prop} (hit : SIt s.heap I S es.length ep slot i) (ho : s.heap.get? S = some (setO C d (ledW w) ep es)) (hsm : Sm es) (hi : i < es.length) (hs : SlotOk w es slot i)
    (h : ∀ e ∈ es, ∀ slot' h', SlotOk w es slot' (i + 1) → SIt h' I S es.length ep slot' (i + 1) → Heap.SameBut I s.heap h' → Q (some (.int (e.1 : Int) e.2)) { s with heap := h' }) :
    wpAny (model prog w) A (pyNext (.ref I)) Q E s := by
  have hI : s.heap.get? I = some (sitO S es.length ep slot i) := hit
  have hz : (es.map ev).toArray.size = es.length := by simp
  have hl := hsm.len
  unfold pyNext
  refine wpAny_bind (wpAny_attempt (wpAny_callSpecial?_slot (name := Str.ofString "__next__") hit.typeIs slot_setiter_next
    (wpAny_call_entry slot_setiter_next hit.typeIs entry_setiter_next ?_ (args_setiter_next _))))
  unfold Builtin.«set_iterator.__next__» slotArgs
  simp only [List.isEmpty_nil, Bool.not_true, Bool.false_eq_true, ↓reduceIte, List.length_nil, bne_self_eq_false]
  refine wpAny_bind (wpAny_pure ?_)
  dsimp only
  refine wpAny_bind (wpAny_fieldsOf hI rfl ?_)
  dsimp only
  refine wpAny_bind (entries_set ho (by omega) ?_)
  rw [hz]
  simp only [bne_self_eq_false, Bool.false_eq_true, if_false]
  refine wpAny_bind ?_
  rw [Int.toNat_natCast, Int.toNat_natCast, Int.toNat_natCast]
  refine set_next ho hsm (Nat.le_of_lt hi) hs (fun q => absurd q (Nat.ne_of_lt hi)) fun _ e he slot' hs' => ?_
  dsimp only
  refine wpAny_bind (wpAny_setField_rec hI (by simp) fun h1 e1 s1 => ?_)
  refine wpAny_bind (wpAny_setField_rec e1 (by simp) fun h2 e2 s2 => ?_)
  refine wpAny_pure ⟨_, rfl, ?_⟩
  refine wpAny_pure (h e he slot' h2 hs' ?_ ⟨s2.1.trans s1.1, fun b hb => (s2.2 b hb).trans (s1.2 b hb)⟩)
  exact e2
theorem sit_next_end {slot i : Nat} {Q : Option Value → Shared → Prop} (hh : A.handled = none) (hit : SIt s.heap I S es.length ep slot i) (ho : s.heap.get? S = some (setO C d (ledW w) ep es)) (hsm : Sm es) (hi : i = es.length) (hs : SlotOk w es slot i)
    (h : ∀ h', Heap.ExtBut I s.heap h' → Q none { s with heap := h' }) :
    wpAny (model prog w) A (pyNext (.ref I)) Q E s := by
  have hI : s.heap.get? I = some (sitO S es.length ep slot i) := hit
  have hz : (es.map ev).toArray.size = es.length := by simp
  have hl := hsm.len
  unfold pyNext
  refine wpAny_bind (wpAny_attempt (wpAny_callSpecial?_slot (name := Str.ofString "__next__") hit.typeIs slot_setiter_next
    (wpAny_call_entry slot_setiter_next hit.typeIs entry_setiter_next ?_ (args_setiter_next _))))
  unfold Builtin.«set_iterator.__next__» slotArgs
  simp only [List.isEmpty_nil, Bool.not_true, Bool.false_eq_true, ↓reduceIte, List.length_nil, bne_self_eq_false]
  refine wpAny_bind (wpAny_pure ?_)
  dsimp only
  refine wpAny_bind (wpAny_fieldsOf hI rfl ?_)
  dsimp only
  refine wpAny_bind (entries_set ho (by omega) ?_)
  rw [hz]
  simp only [bne_self_eq_false, Bool.false_eq_true, if_false]
  refine wpAny_bind ?_
  rw [Int.toNat_natCast, Int.toNat_natCast, Int.toNat_natCast]
  refine set_next ho hsm (Nat.le_of_eq hi) hs (fun _ => ?_) fun q => absurd hi (Nat.ne_of_lt q)
  dsimp only
  refine wpAny_bind (wpAny_setField_rec hI (by simp) fun h1 e1 s1 => ?_)
  refine wpAny_bind ?_
  simp only [newExc, newTuple]
  refine wpAny_bind (wpAny_newObj_type ?_ (by size_fits))
  refine wpAny_bind (m := firstArgMember _ _) (wpAny_of_eq (a := Value.none) (by first | rfl | (simp only [firstArgMember]; rfl)) ?_)
  refine wpAny_newObj_type ?_ (by size_fits)
  simp only [raiseNew]
  refine wpAny_bind (wpAny_handled ?_)
  rw [show A.in1.handled = none from hh]
  refine wpAny_bind (wpAny_pure (wpAny_throw ?_))
  refine wpAny_bind (wpAny_isInstance (T := "StopIteration") (b := true) ⟨_, Heap.get?_push_size _ rfl, rfl⟩ isSubtype_stop ?_)
  exact wpAny_pure (h _ ((s1.extBut.push _).push _))
theorem sit_self {slot i n : Nat} {Q : Value → Shared → Prop} (hit : SIt s.heap I S n ep slot i) (h : Q (.ref I) s) : wpAny (model prog w) A (pyIter (.ref I)) Q E s := by
  obtain ⟨b, hb, rfl⟩ := entry_setiter_iter
  refine wpAny_pyIter_slot hit.typeIs slot_setiter_iter (wpAny_call_entry slot_setiter_iter hit.typeIs hb ?_ (args_setiter_iter _))
  show wpAny _ _ (ret (.ref I)) _ _ s
  exact wpAny_pure ⟨_, rfl, "set_iterator", _, hit.typeIs, slot_setiter_next.lookup, h⟩
end
theorem Walks.set {w : World} {A : Around} (hh : A.handled = none) (I S : Addr) (hne : S ≠ I) (C : Value) (d : Option Addr) (ep : Nat) (es : List (Nat × Tok)) (hsm : Sm es) :
    Walks prog w A I [I, S] [I] es.length (fun _ v => ∃ e ∈ es, v = .int (e.1 : Int) e.2) (fun i h => (∃ slot, SlotOk w es slot i ∧ SIt h I S es.length ep slot i) ∧ h.get? S = some (setO C d (ledW w) ep es)) where
  sub := fun b hb => by simp at hb; simp [hb]
  frame := fun _ _ _ st hk => let ⟨⟨slot, a, b⟩, c⟩ := st; ⟨⟨slot, a, hk I (by simp) _ b⟩, hk S (by simp) _ c⟩
  item := fun i s Q E hi st hQ => by
    obtain ⟨⟨slot, a, b⟩, c⟩ := st
    refine sit_next_item b c hsm hi a fun e he slot' h' hs' hit' hs => ?_
    exact hQ _ h' s.toks ⟨e, he, rfl⟩ ⟨⟨slot', hs', hit'⟩, (hs.2 S hne).trans c⟩ fun b o hb e => (hs.2 b (fun q => hb (by simp [q]))).trans e
  done := fun s Q E st hQ => by
    obtain ⟨⟨slot, a, b⟩, c⟩ := st
    exact sit_next_end hh b c hsm rfl a fun h' he => hQ h' s.toks fun b o hb e => he b o (fun q => hb (by simp [q])) e
  self := fun i s Q E st hQ => by
    obtain ⟨⟨slot, a, b⟩, c⟩ := st
    exact sit_self b hQ
end
-- S7
section
set_option maxHeartbeats 4000000
theorem check_meth {M : Model} {A : Around} {E : Value → Shared → Prop} {s : Shared} {i owner n : String} {self : Value} {rest : List Value} {kw : List (Str × Value)} {Q : Unit → Shared → Prop}
    (hk : builtinKind i = some .method) (hs : splitId i = some (owner, n)) (hi : Looks M s.heap (isInstance self (.type owner)) true) (ha : argsOk i ⟨self :: rest, kw⟩) (q : Q () s) :
    wpAny M A (checkBuiltinCall i ⟨self :: rest, kw⟩) Q E s := by
  simp only [checkBuiltinCall, hk, hs]
  refine wpAny_bind (hi.here ?_)
  simp only [Bool.not_true, Bool.false_eq_true, if_false]
  cases hsig : Manifest.signature? i with
  | none => exact wpAny_pure q
  | some sig =>
    have ha' : Bind.checkArgs i sig ⟨self :: rest, kw⟩ = pure () := by
      have := ha
      unfold argsOk at this
      rw [hsig] at this
      exact this
    dsimp only
    rw [ha']
    exact wpAny_pure q
section
variable {prog : Program} {w : World} {A : Around} {E : Value → Shared → Prop} {s : Shared}
theorem call_methL {id : String} {owner n : String} {b : Builtin} {self : Value} {rest : List Value} {Q : Value → Shared → Prop}
    (hk : builtinKind id = some .method) (hs : splitId id = some (owner, n)) (hi : Looks (model prog w) s.heap (isInstance self (.type owner)) true) (hp : plainId id = true) (hb : entryFor table id = some b)
    (hc : wpAny (model prog w) A.in1 (b ⟨self :: rest, []⟩) (fun fin s' => ∃ v, fin = .done (.ret v) ∧ Q v s') E s) (ha : argsOk id ⟨self :: rest, []⟩) :
    wpAny (model prog w) A (call (.builtin id) (self :: rest)) Q E s := by
  refine wpAny_call (codeAny_call_builtin hp hb (check_meth hk hs hi ha (wpAny_mono hc (fun fin s' h' => ?_) fun _ _ h' => h')))
  obtain ⟨v, rfl, hv⟩ := h'; exact hv
end
abbrev has (es : List (Nat × Tok)) (x : Nat) : Bool := es.any fun e => e.1 == x
section
variable {w : World} {A : Around} {E : Value → Shared → Prop} {s : Shared} {S I : Addr} {C : Value} {d : Option Addr} {ep : Nat} {es : List (Nat × Tok)} {x : Nat} {t : Tok}
theorem find_set {Q : Option Nat → Shared → Prop} (ho : s.heap.get? S = some (setO C d (ledW w) ep es)) (hsm : Sm es) (hx : x < 8) (h : ∀ r : Option Nat, r.isSome = has es x → Q r s) :
    wpAny (model prog w) A (setFind S (.int (x : Int) t) (x : Int)) Q E s := by
  have hl := hsm.len
  have hel := elems_ev (w := w) hsm.lt
  unfold setFind setFindIn
  refine wpAny_bind (state_set ho (by omega) ?_)
  dsimp only
  rw [byScan_of (knd := intKind prog w) rfl (by simp [scanBound]; omega) (by simpa using hel)]
  simp only [↓reduceIte]
  refine wpAny_bind (wpAny_rule ?_)
  have hs := fun (Q' : ScanMet → Shared → Prop) => wpAny_setScan_of (Q := Q') (w := w) (A := A) (E := E) (s := s) (a := S) (knd := intKind prog w) (k := (x : Int)) (x := .int x t) (adding := false) (o := setO C d (ledW w) ep es) (es := (es.map ev).toArray) (ep := ep) (t := setT (ledW w) (es.map (·.1)))
    (intKind_is _ _ _ _) ho rfl (by have := fits_setT (ledW w) (xs := es.map (·.1)) (by simp; omega); simpa using this) (by simpa using hel)
  rw [hash_small hx] at hs
  refine wpAny_bind (hs _ ?_)
  have hfi : (List.findIdx? (fun e : Int × Value => (intKind prog w).is (x : Int) e.2) (es.map ev).toArray.toList).isSome = has es x := by
    rw [List.findIdx?_isSome]
    show (es.map ev).any _ = _
    rw [List.any_map]
    unfold has
    congr 1
    funext e
    show (intKind prog w).is (x : Int) (ev e).2 = (e.1 == x)
    cases hq : (intKind prog w).is (x : Int) (ev e).2 with
    | false =>
      by_cases hxe : e.1 = x
      · have := intKind_is prog w (e.1 : Int) e.2
        rw [hxe] at this
        have h2 : (ev e).2 = Value.int (x : Int) e.2 := by show Value.int (e.1 : Int) e.2 = _; rw [hxe]
        rw [h2, this] at hq; cases hq
      · exact (beq_eq_false_iff_ne.mpr hxe).symm
    | true =>
      have h1 := (intKind prog w).inj _ _ _ hq (intKind_is prog w (e.1 : Int) e.2)
      exact (beq_iff_eq.mpr (by omega)).symm
  cases hr : List.findIdx? (fun e : Int × Value => (intKind prog w).is (x : Int) e.2) (es.map ev).toArray.toList with
  | none =>
    rw [hr] at hfi
    exact wpAny_pure (h none hfi)
  | some j =>
    rw [hr] at hfi
    exact wpAny_pure (h _ hfi)
theorem notIn_set {Q : Value → Shared → Prop} (Y : SetLike (model prog w) s.heap S) (ho : s.heap.get? S = some (setO C d (ledW w) ep es)) (hsm : Sm es) (hx : x < 8)
    (h : Q (.bool (!has es x)) { s with toks := s.toks + 1 }) : wpAny (model prog w) A (compareOp .NotIn (.int (x : Int) t) (.ref S)) Q E s := by
  show wpAny _ _ (do return .bool (!(← contains (.ref S) (.int (x : Int) t)))) Q E s
  refine wpAny_bind ?_
  unfold contains
  try with_reducible refine wpAny_holding ?_
  have key : wpAny (model prog w) A (call (.builtin "set.__contains__") [.ref S, .int (x : Int) t]) (fun v s' => v = .bool (has es x) ∧ s' = { s with toks := s.toks + 1 }) E s := by
    refine call_methL k_set_co sp_set_co Y.inst F.slot_set_contains.plain entry_set_contains ?_ (F.args_set_contains_2 _ _)
    unfold Builtin.«frozenset.__contains__» Builtin.Frozenset.oneOther
    simp only [List.isEmpty_nil, bind_assoc]
    unfold Builtin.Frozenset.addrOf Builtin.Frozenset.withSetAsKey setContains
    refine wpAny_bind (wpAny_pure ?_)
    try dsimp only
    refine wpAny_bind (wpAny_pure ?_)
    try dsimp only
    refine wpAny_bind (wpAny_tryCatch ?_)
    refine wpAny_holding ?_
    refine wpAny_bind ((intKind prog w).pyHash (intKind_is _ _ _ t) ?_)
    rw [hash_small hx]
    refine wpAny_bind (find_set (s := { s with toks := s.toks + 1 }) ho hsm hx fun r hr => ?_)
    refine wpAny_pure ?_
    show wpAny _ _ (ret (Value.bool r.isSome)) _ _ _
    rw [hr]
    exact wpAny_pure ⟨_, rfl, rfl, rfl⟩
  have one : ∀ refuse : Sem Value, wpAny (model prog w) A (callSpecialUnlessNone? (.ref S) "__contains__" [.int (x : Int) t] refuse) (fun r s' => r = some (.bool (has es x)) ∧ s' = { s with toks := s.toks + 1 }) E s := by
    intro refuse
    simp only [callSpecialUnlessNone?]
    refine wpAny_bind (Y.co.here ?_)
    dsimp only
    refine wpAny_holding (wpAny_bind (wpAny_of_eq (F.slot_set_contains.bind _) ?_))
    show wpAny _ _ (if (Value.builtin "set.__contains__" == Value.none) = true then _ else _) _ _ _
    rw [if_neg (show ¬ ((Value.builtin "set.__contains__" == Value.none) = true) from Bool.false_ne_true)]
    exact wpAny_bind (wpAny_mono key (fun v s' q => wpAny_pure ⟨by rw [q.1], q.2⟩) fun _ _ q => q)
  refine wpAny_bind (Y.co.here ?_)
  show wpAny _ _ (if (some (Value.builtin "set.__contains__") == some Value.none) = true then _ else _) _ E s
  rw [if_neg (by rw [beq_builtin_none]; exact Bool.false_ne_true)]
  refine wpAny_bind (wpAny_mono (one _) (fun r s' q => ?_) fun _ _ q => q)
  obtain ⟨rfl, rfl⟩ := q
  exact wpAny_truthy_bool (wpAny_pure h)
end
end
-- S8
section
set_option maxHeartbeats 4000000
theorem map_er {α β : Type} (f : α → β) : ∀ (l : List α) (i : Nat), (l.eraseIdx i).map f = (l.map f).eraseIdx i
  | [], _ => by simp
  | a :: l, 0 => by simp
  | a :: l, i + 1 => by simp [map_er f l i]
theorem perm_er {α : Type} : ∀ (l : List α) (i : Nat) (h : i < l.length), (l[i] :: l.eraseIdx i).Perm l
  | [], _, h => by simp at h
  | a :: l, 0, _ => by simp
  | a :: l, i + 1, h => by
    simp only [List.getElem_cons_succ, List.eraseIdx_cons_succ]
    exact (List.Perm.swap _ _ _).trans ((perm_er l i (by simpa using h)).cons a)
theorem pick_map_go {α β : Type} (f : α → β) (next : Nat → Nat) : ∀ (fuel k : Nat) (left : List α) (out : Array α),
    pickOrder.go next fuel k (left.map f) (out.map f) = (pickOrder.go next fuel k left out).map f
  | 0, k, left, out => by simp [pickOrder.go]
  | fuel + 1, k, left, out => by
    unfold pickOrder.go
    rw [List.getElem?_map, List.length_map]
    cases hq : left[next k % left.length]? with
    | none => rfl
    | some x =>
      simp only [Option.map_some]
      rw [← map_er, ← Array.map_push]
      exact pick_map_go f next fuel (k + 1) _ _
theorem pick_map {α β : Type} (f : α → β) (next : Nat → Nat) (xs : List α) : pickOrder next (xs.map f).toArray = ((pickOrder next xs.toArray).toList.map f).toArray := by
  have h := pick_map_go f next xs.length 0 xs #[]
  unfold pickOrder
  simp only [List.size_toArray, List.length_map]
  have e : (#[] : Array β) = (#[] : Array α).map f := by simp
  rw [e, h]
  rw [← Array.toList_map]
theorem pick_perm_go {α : Type} (next : Nat → Nat) : ∀ (fuel k : Nat) (left : List α) (out : Array α), left.length = fuel → (pickOrder.go next fuel k left out).toList.Perm (out.toList ++ left)
  | 0, k, left, out, hl => by
    have : left = [] := List.length_eq_zero_iff.mp hl
    subst this
    simp [pickOrder.go]
  | fuel + 1, k, left, out, hl => by
    have hlt : next k % left.length < left.length := Nat.mod_lt _ (by omega)
    unfold pickOrder.go
    rw [List.getElem?_eq_getElem hlt]
    dsimp only
    refine (pick_perm_go next fuel (k + 1) _ _ (by rw [List.length_eraseIdx_of_lt hlt]; omega)).trans ?_
    rw [Array.toList_push, List.append_assoc]
    exact List.Perm.append_left _ (perm_er _ _ hlt)
theorem pick_perm {α : Type} (next : Nat → Nat) (xs : List α) : (pickOrder next xs.toArray).toList.Perm xs := by
  have := pick_perm_go next xs.length 0 xs #[] rfl
  unfold pickOrder
  simpa using this
section
variable {w : World} {A : Around} {E : Value → Shared → Prop} {s : Shared} {S I : Addr} {C : Value} {d : Option Addr} {ep : Nat} {es : List (Nat × Tok)} {x : Nat} {t : Tok}
theorem walk_set {Q : Array (Int × Value) → Shared → Prop} (ho : s.heap.get? S = some (setO C d (ledW w) ep es)) (hl : es.length ≤ 4) (h : ∀ ws : List (Nat × Tok), ws.Perm es → Q (ws.map ev).toArray s) :
    wpAny (model prog w) A (setWalk S) Q E s := by
  unfold setWalk setsByText
  refine wpAny_bind (state_set ho hl ?_)
  dsimp only
  refine wpAny_bind (wpAny_bind (wpAny_askSetting (wpAny_pure ?_)))
  dsimp only
  cases hb : w.params.followText "set-order" with
  | true =>
    have hb' : (model prog w).w.params.followText "set-order" = true := hb
    rw [hb']
    simp only [if_true]
    refine wpAny_bind (wpAny_askSetting (wpAny_pure ?_))
    rw [pick_map]
    exact h _ (pick_perm _ _)
  | false =>
    have hb' : (model prog w).w.params.followText "set-order" = false := hb
    have hw : ledW w = true := by unfold ledW; rw [hb]; rfl
    rw [hb']
    simp only [Bool.false_eq_true, if_false]
    rw [hw]
    exact wpAny_bind (wpAny_of_eq (a := ()) rfl (wpAny_pure (h es (List.Perm.refl _))))
theorem unseen_set {others : List Addr} {f : Option Addr} {Q : Array (Int × Value) → Shared → Prop} (ho : s.heap.get? S = some (setO C d (ledW w) ep es)) (hl : es.length ≤ 4) (h : ∀ ws : List (Nat × Tok), ws.Perm es → Q (ws.map ev).toArray s) :
    wpAny (model prog w) A (setWalkUnseen S others f) Q E s := by
  unfold setWalkUnseen setsByText
  refine wpAny_bind (state_set ho hl ?_)
  dsimp only
  refine wpAny_bind (wpAny_bind (wpAny_askSetting (wpAny_pure ?_)))
  dsimp only
  have : ((model prog w).w.params.followText "set-order" || ledW w && true || decide ((es.map ev).toArray.size ≤ 1)) = true := by
    show (w.params.followText "set-order" || !w.params.followText "set-order" && true || _) = true
    cases w.params.followText "set-order" <;> rfl
  rw [if_pos this]
  exact walk_set ho hl h
end
def ins (rs : List (Nat × Tok)) (e : Nat × Tok) : List (Nat × Tok) := match rs with
  | [a] => if a.1 < e.1 then [a, e] else [e, a]
  | l => l ++ [e]
theorem lay_ins {led : Bool} {rs : List (Nat × Tok)} {e : Nat × Tok} (hsm : Sm rs) (h1 : rs.length ≤ 1) (h8 : e.1 < 8) (hn : ∀ a ∈ rs, a.1 ≠ e.1) :
    layNew (setT led (rs.map (·.1))) (rs.map ev).toArray (e.1 : Int) (.int e.1 e.2) = (((ins rs e).map ev).toArray, setT led ((ins rs e).map (·.1)), false, false) := by
  match rs, h1 with
  | [], _ => exact lay_end (es := []) (t := e.2) h8 (by simp) (by simp) (by simp)
  | [a], _ =>
    have ha := hn a (by simp)
    unfold ins
    dsimp only
    split
    · rename_i hlt
      exact lay_end (es := [a]) (t := e.2) h8 (by simp) (by simp) (by simpa using hlt)
    · rename_i hlt
      exact lay_front (t := e.2) (hsm.lt a (by simp)) (by omega)
theorem ins_sm {rs : List (Nat × Tok)} {e : Nat × Tok} (hsm : Sm rs) (h1 : rs.length ≤ 1) (h8 : e.1 < 8) (hn : ∀ a ∈ rs, a.1 ≠ e.1) : Sm (ins rs e) := by
  match rs, h1 with
  | [], _ => exact ⟨by simp [ins], by simpa [ins] using h8, by simp [ins]⟩
  | [a], _ =>
    have ha := hn a (by simp)
    have ha8 := hsm.lt a (by simp)
    unfold ins
    dsimp only
    split
    · rename_i hlt
      exact ⟨by simp, by simp [ha8, h8], by simpa using hlt⟩
    · rename_i hlt
      exact ⟨by simp, by simp [ha8, h8], by simp; omega⟩
theorem ins_len {rs : List (Nat × Tok)} {e : Nat × Tok} : (ins rs e).length = rs.length + 1 := by
  unfold ins
  split
  · split <;> rfl
  · simp
theorem ins_mem {rs : List (Nat × Tok)} {e a : Nat × Tok} (h : a ∈ ins rs e) : a ∈ rs ∨ a = e := by
  unfold ins at h
  split at h
  · split at h <;> (simp at h; rcases h with h | h <;> simp [h])
  · simpa using h
section
variable {w : World} {A : Around} {E : Value → Shared → Prop} {T : Addr} {C C' : Value} {d d' : Option Addr} {ep ep' : Nat} {ea ew : List (Nat × Tok)} {asked walked r : Addr}
theorem inter_loop (f : Int × Value → PUnit → Sem (ForInStep PUnit)) (id : String)
    (hf : ∀ h x u, f (h, x) u = (do holding [x] (do if (← setFind asked x h).isSome then do let _ ← setAddHashed r x h; pure PUnit.unit else pure PUnit.unit); Builtin.Frozenset.unchanged id walked ep; pure (.yield PUnit.unit)))
    (har : asked ≠ r) (hwr : walked ≠ r) (hsa : Sm ea) :
    ∀ (ws rs : List (Nat × Tok)) (epr : Nat) (s : Shared) (Q : PUnit → Shared → Prop), s.heap.get? asked = some (setO C d (ledW w) ep' ea) → s.heap.get? walked = some (setO C' d' (ledW w) ep ew) → ew.length ≤ 4 → s.heap.get? r = some (setO (.type "set") none (ledW w) epr rs) →
      Sm rs → (∀ e ∈ ws, e.1 < 8) → (ws.map (·.1)).Nodup → (∀ a ∈ rs, ∀ e ∈ ws, a.1 ≠ e.1) → rs.length + (ws.filter fun e => has ea e.1).length ≤ 2 →
      (∀ h' epr' rs', Heap.SameBut r s.heap h' → h'.get? r = some (setO (.type "set") none (ledW w) epr' rs') → Sm rs' → rs'.length = rs.length + (ws.filter fun e => has ea e.1).length → Q PUnit.unit { s with heap := h' }) →
      wpAny (model prog w) A (forIn (ws.map ev) PUnit.unit f) Q E s
  | [], rs, epr, s, Q, hA, hW, hwl, hr, hsm, h8, hnd, hne, hc, hQ => by
    rw [List.map_nil, List.forIn_nil]
    exact wpAny_pure (hQ s.heap epr rs ⟨rfl, fun _ _ => rfl⟩ hr hsm (by simp))
  | e :: ws, rs, epr, s, Q, hA, hW, hwl, hr, hsm, h8, hnd, hne, hc, hQ => by
    rw [List.map_cons, List.forIn_cons, hf]
    have he8 := h8 e (by simp)
    have hnd' := List.nodup_cons.mp (show (e.1 :: ws.map (·.1)).Nodup from hnd)
    refine wpAny_bind (wpAny_bind (wpAny_holding (wpAny_bind (find_set hA hsa he8 fun o hoq => ?_))))
    have step : ∀ (rs₂ : List (Nat × Tok)) (epr₂ : Nat) (h₂ : Heap), Heap.SameBut r s.heap h₂ → h₂.get? r = some (setO (.type "set") none (ledW w) epr₂ rs₂) → Sm rs₂ → (∀ a ∈ rs₂, a ∈ rs ∨ a = e) →
        rs₂.length + (ws.filter fun e => has ea e.1).length = rs.length + ((e :: ws).filter fun e => has ea e.1).length →
        wpAny (model prog w) A (do Builtin.Frozenset.unchanged id walked ep; pure (ForInStep.yield PUnit.unit)) (fun st s' => wpAny (model prog w) A (match st with | .done b => pure b | .yield b => forIn (ws.map ev) b f) Q E s') E { s with heap := h₂ } := by
      intro rs₂ epr₂ h₂ hs₂ hr₂ hsm₂ hm₂ hcnt
      have hA₂ := (hs₂.2 asked har).trans hA
      have hW₂ := (hs₂.2 walked hwr).trans hW
      unfold Builtin.Frozenset.unchanged setEpoch
      refine wpAny_bind (wpAny_bind (wpAny_bind (state_set (s := { s with heap := h₂ }) hW₂ hwl (wpAny_pure ?_))))
      simp only [bne_self_eq_false, Bool.false_eq_true, if_false]
      refine wpAny_pure (wpAny_pure ?_)
      refine inter_loop f id hf har hwr hsa ws rs₂ epr₂ { s with heap := h₂ } Q hA₂ hW₂ hwl hr₂ hsm₂ (fun a ha => h8 a (List.mem_cons_of_mem _ ha)) hnd'.2 (fun a ha b hb => ?_) (by omega) fun h' epr' rs' hs' hr' hsm' hl' => ?_
      · rcases hm₂ a ha with q | q
        · exact hne a q b (List.mem_cons_of_mem _ hb)
        · subst q
          intro q
          exact hnd'.1 (List.mem_map.mpr ⟨b, hb, q.symm⟩)
      · exact hQ h' epr' rs' ⟨hs'.1.trans hs₂.1, fun b hb => (hs'.2 b hb).trans (hs₂.2 b hb)⟩ hr' hsm' (by omega)
    cases hh : has ea e.1 with
    | false =>
      rw [hh] at hoq
      rw [hoq]
      simp only [Bool.false_eq_true, if_false]
      refine wpAny_pure ?_
      refine wpAny_mono (step rs epr s.heap ⟨rfl, fun _ _ => rfl⟩ hr hsm (fun a ha => .inl ha) ?_) (fun st s' q => by cases st <;> exact q) (fun _ _ q => q)
      rw [List.filter_cons_of_neg (by simp [hh])]
    | true =>
      rw [hh] at hoq
      rw [hoq]
      simp only [if_true]
      have hfc : ((e :: ws).filter fun e => has ea e.1).length = (ws.filter fun e => has ea e.1).length + 1 := by rw [List.filter_cons_of_pos (by simp [hh])]; rfl
      have hne' : ∀ a ∈ rs, a.1 ≠ e.1 := fun a ha => hne a ha e (by simp)
      have h1 : rs.length ≤ 1 := by omega
      refine wpAny_bind (add_hashed (es' := ins rs e) hr he8 hsm.lt (by omega) hne' (lay_ins hsm h1 he8 hne') (by rw [ins_len]; omega) fun h₂ hs₂ hr₂ => wpAny_pure ?_)
      exact wpAny_mono (step (ins rs e) (epr + 1) h₂ hs₂ hr₂ (ins_sm hsm h1 he8 hne') (fun a ha => ins_mem ha) (by rw [ins_len]; omega)) (fun st s' q => by cases st <;> exact q) (fun _ _ q => q)
end
end
-- S9
section
set_option maxHeartbeats 4000000
abbrev cntIn (a b : List (Nat × Tok)) : Nat := (a.filter fun e => has b e.1).length
abbrev exSet (led : Bool) (ep : Nat) (rs : List (Nat × Tok)) : Obj := setO (.type "set") none led ep rs
section
variable {w : World} {A : Around} {E : Value → Shared → Prop} {s : Shared} {S O : Addr} {C' : Value} {d' : Option Addr} {ep ep' : Nat} {es eo : List (Nat × Tok)}
theorem newSet_type {Q : Value → Shared → Prop} (h : Q (.ref s.heap.objs.size) { s with heap := s.heap.push (exSet (ledW w) 0 []) }) : wpAny (model prog w) A (newSet (.type "set")) Q E s := by
  unfold newSet setsByText
  refine wpAny_bind (wpAny_bind (wpAny_askSetting (wpAny_pure ?_)))
  dsimp only
  unfold newObj
  exact wpAny_bind (wpAny_alloc (wpAny_pure h))
theorem inter_set {id : String} {Q : Value → Shared → Prop} (hSO : S ≠ O) (hS : s.heap.get? S = some (exSet (ledW w) ep es)) (hO : s.heap.get? O = some (setO C' d' (ledW w) ep' eo)) (hs : Sm es) (ho : Sm eo) (YO : SetLike (model prog w) s.heap O)
    (h2 : cntIn es eo ≤ 2) (h2' : cntIn eo es ≤ 2)
    (h : ∀ h' epr rs, (∀ b o, s.heap.get? b = some o → h'.get? b = some o) → h'.get? s.heap.objs.size = some (exSet (ledW w) epr rs) → Sm rs → (rs.length = cntIn es eo ∨ rs.length = cntIn eo es) → Q (.ref s.heap.objs.size) { s with heap := h' }) :
    wpAny (model prog w) A (Builtin.Frozenset.intersection id S (.ref O)) Q E s := by
  have hsl := hs.len
  have hol := ho.len
  have hTS : s.TypeIs (.ref S) "set" := ⟨_, hS, rfl⟩
  have kp : ∀ b o, s.heap.get? b = some o → (s.heap.push (exSet (ledW w) 0 [])).get? b = some o := fun b o e => Heap.get?_push_of_some _ e
  have hS' := kp _ _ hS
  have hO' := kp _ _ hO
  have hr : (s.heap.push (exSet (ledW w) 0 [])).get? s.heap.objs.size = some (exSet (ledW w) 0 []) := Heap.get?_push_size _ rfl
  have hSr : S ≠ s.heap.objs.size := Nat.ne_of_lt (Heap.lt_size hS)
  have hOr : O ≠ s.heap.objs.size := Nat.ne_of_lt (Heap.lt_size hO)
  have ndS : (es.map (·.1)).Nodup := hs.up.imp fun a => Nat.ne_of_lt a
  have ndO : (eo.map (·.1)).Nodup := ho.up.imp fun a => Nat.ne_of_lt a
  unfold Builtin.Frozenset.intersection
  simp only [show (Value.ref O == Value.ref S) = false from by simp [Ne.symm hSO], Bool.false_eq_true, if_false]
  unfold Builtin.Frozenset.baseOf
  refine wpAny_bind (wpAny_bind (wpAny_isInstance hTS sub_set_self ?_))
  simp only [if_true]
  refine wpAny_pure (wpAny_bind (newSet_type ?_))
  unfold Builtin.Frozenset.addrOf
  refine wpAny_bind (wpAny_pure ?_)
  dsimp only
  have fin : ∀ (sh : Shared) h' epr rs, sh = { s with heap := h' } → (∀ b o, s.heap.get? b = some o → h'.get? b = some o) → h'.get? s.heap.objs.size = some (exSet (ledW w) epr rs) → Sm rs → (rs.length = cntIn es eo ∨ rs.length = cntIn eo es) → wpAny (model prog w) A (pure (Value.ref s.heap.objs.size)) Q E sh := by
    rintro _ h' epr rs rfl a b c d
    exact wpAny_pure (h h' epr rs a b c d)
  refine wpAny_bind (wpAny_holding ?_)
  unfold Builtin.Frozenset.isAnySet
  refine wpAny_bind (wpAny_bind ((YO.keeps kp).inst.here (wpAny_pure ?_)))
  simp only [if_true]
  refine wpAny_bind (wpAny_pure ?_)
  unfold Builtin.Frozenset.sizeOf
  refine wpAny_bind (wpAny_bind (entries_set (s := { s with heap := s.heap.push (exSet (ledW w) 0 []) }) hO' (by omega) (wpAny_pure ?_)))
  refine wpAny_bind (wpAny_bind (entries_set (s := { s with heap := s.heap.push (exSet (ledW w) 0 []) }) hS' (by omega) (wpAny_pure ?_)))
  by_cases hq : (eo.map ev).toArray.size > (es.map ev).toArray.size
  · rw [if_pos hq]
    dsimp only
    unfold setEpoch
    refine wpAny_bind (wpAny_bind (state_set (s := { s with heap := s.heap.push (exSet (ledW w) 0 []) }) hS' (by omega) (wpAny_pure ?_)))
    refine wpAny_bind (unseen_set (s := { s with heap := s.heap.push (exSet (ledW w) 0 []) }) hS' (by omega) fun ws hw => ?_)
    rw [List.forIn_toArray]
    have hcw : (ws.filter fun e => has eo e.1).length = cntIn es eo := (hw.filter _).length_eq
    refine wpAny_bind (inter_loop (w := w) (asked := O) (walked := S) (r := s.heap.objs.size) (ep := ep) (ep' := ep') (C := C') (d := d') (C' := .type "set") (d' := none) (ea := eo) (ew := es) _ id (fun h x u => rfl) hOr hSr ho ws [] 0 _ _ hO' hS' (by omega) hr ⟨by simp, by simp, by simp⟩
      (fun e he => hs.lt e (hw.mem_iff.mp he)) ((hw.map _).nodup_iff.mpr ndS) (by simp) (by rw [hcw]; simpa using h2) fun h' epr' rs' hsb hg hsm hl => wpAny_pure ?_)
    refine fin _ h' epr' rs' rfl (fun b o e => ?_) hg hsm (.inl (by rw [hl, hcw]; simp))
    exact (hsb.2 b (Nat.ne_of_lt (Heap.lt_size e))).trans (kp b o e)
  · rw [if_neg hq]
    dsimp only
    unfold setEpoch
    refine wpAny_bind (wpAny_bind (state_set (s := { s with heap := s.heap.push (exSet (ledW w) 0 []) }) hO' (by omega) (wpAny_pure ?_)))
    refine wpAny_bind (unseen_set (s := { s with heap := s.heap.push (exSet (ledW w) 0 []) }) hO' (by omega) fun ws hw => ?_)
    rw [List.forIn_toArray]
    have hcw : (ws.filter fun e => has es e.1).length = cntIn eo es := (hw.filter _).length_eq
    refine wpAny_bind (inter_loop (w := w) (asked := S) (walked := O) (r := s.heap.objs.size) (ep := ep') (ep' := ep) (C' := C') (d' := d') (C := .type "set") (d := none) (ea := es) (ew := eo) _ id (fun h x u => rfl) hSr hOr hs ws [] 0 _ _ hS' hO' (by omega) hr ⟨by simp, by simp, by simp⟩
      (fun e he => ho.lt e (hw.mem_iff.mp he)) ((hw.map _).nodup_iff.mpr ndO) (by simp) (by rw [hcw]; simpa using h2') fun h' epr' rs' hsb hg hsm hl => wpAny_pure ?_)
    refine fin _ h' epr' rs' rfl (fun b o e => ?_) hg hsm (.inr (by rw [hl, hcw]; simp))
    exact (hsb.2 b (Nat.ne_of_lt (Heap.lt_size e))).trans (kp b o e)
end
end
-- S10
section
set_option maxHeartbeats 4000000
theorem entry_set_and : entryFor table "set.__and__" = some Builtin.«frozenset.__and__» :=
  entryFor_alias (id' := "frozenset.__and__") (by rw [fastTable_eq_tree]; kernel_rfl) rfl (by decide +kernel) (by rw [fastTable_eq_tree]; kernel_rfl)
/-- what `set & x` reads of the class of x -/
structure AndLike (M : Model) (h : Heap) (C : Addr) : Prop where
  fills : Looks M h (fillsNumberSlot (.ref C) "and") true
  sub : Looks M h (isSubtype (.ref C) (.type "set")) true
  refl : Looks M h (typeLookup (.ref C) (dunderR "and")) (some (.builtin "set.__rand__"))
section
variable {w : World} {A : Around} {E : Value → Shared → Prop} {s : Shared} {S O Cc : Addr} {d' : Option Addr} {ep ep' : Nat} {es eo : List (Nat × Tok)}
theorem and_set {Q : Value → Shared → Prop} (hSO : S ≠ O) (hS : s.heap.get? S = some (exSet (ledW w) ep es)) (hO : s.heap.get? O = some (setO (.ref Cc) d' (ledW w) ep' eo)) (hs : Sm es) (ho : Sm eo) (YO : SetLike (model prog w) s.heap O) (ZO : AndLike (model prog w) s.heap Cc)
    (h2 : cntIn es eo ≤ 2) (h2' : cntIn eo es ≤ 2)
    (h : ∀ h' epr rs, (∀ b o, s.heap.get? b = some o → h'.get? b = some o) → h'.get? s.heap.objs.size = some (exSet (ledW w) epr rs) → Sm rs → (rs.length = cntIn es eo ∨ rs.length = cntIn eo es) → Q (.ref s.heap.objs.size) { s with heap := h' }) :
    wpAny (model prog w) A (binaryOp .BitAnd (.ref S) (.ref O)) Q E s := by
  have hTS : s.TypeIs (.ref S) "set" := ⟨_, hS, rfl⟩
  have hTO : Looks (model prog w) s.heap (typeOf (.ref O)) (.ref Cc) := (Looks.ld hO).andThen .now
  have key : wpAny (model prog w) A (call (.builtin "set.__and__") [.ref S, .ref O]) (fun v s' => v ≠ .notImplemented ∧ Q v s') E s := by
    refine wpAny_call_entry F.slot_set_and hTS entry_set_and ?_ (F.args_set_and_2 _ _)
    show wpAny _ _ (do
      let (self, other) ← Builtin.Frozenset.slot1 "__and__" _
      let (l, r) := if false = true then (other, self) else (self, other)
      if !(← Builtin.Frozenset.isAnySet l <&&> Builtin.Frozenset.isAnySet r) then _; return ← _
      ret (← Builtin.Frozenset.intersection _ (← Builtin.Frozenset.addrOf l) r)) _ _ _
    unfold Builtin.Frozenset.slot1 slotArgs
    simp only [List.isEmpty_nil, Bool.not_true, Bool.false_eq_true, ↓reduceIte, List.length_nil, List.length_cons, bne_self_eq_false]
    refine wpAny_bind (wpAny_bind (wpAny_pure (wpAny_pure ?_)))
    dsimp only
    unfold Builtin.Frozenset.isAnySet
    refine wpAny_bind (wpAny_bind (wpAny_bind (wpAny_isInstance hTS sub_set_self (wpAny_pure ?_))))
    show wpAny _ _ (isInstance (Value.ref O) (Value.type "set") <||> isInstance (Value.ref O) (Value.type "frozenset")) _ _ _
    refine wpAny_bind (YO.inst.here (wpAny_pure ?_))
    simp only [Bool.not_true, Bool.false_eq_true, if_false]
    refine wpAny_bind (wpAny_pure ?_)
    refine wpAny_bind (inter_set hSO hS hO hs ho YO h2 h2' fun h' epr rs a b c d => wpAny_pure ⟨_, rfl, by simp, h h' epr rs a b c d⟩)
  unfold binaryOp
  refine wpAny_holding ?_
  show wpAny _ _ (binaryOp1 "and" (.ref S) (.ref O) >>= _) _ _ _
  refine wpAny_bind ?_
  unfold binaryOp1
  refine wpAny_bind (wpAny_typeOf hTS (wpAny_bind (hTO.here (wpAny_bind (wpAny_of_eq F.fills_set_and ?_)))))
  simp only [show (Value.type "set" == Value.ref Cc) = false from rfl, Bool.false_eq_true, if_false, Bool.true_and]
  refine wpAny_bind (ZO.fills.here ?_)
  simp only [if_true]
  refine wpAny_bind (ZO.sub.here ?_)
  simp only [if_true]
  unfold reflectedDiffers
  have hnum : numberSlotInPython (.type "set") "and" = pure false := rfl
  rw [hnum]
  refine wpAny_bind (wpAny_bind (wpAny_pure ?_))
  simp only [Bool.not_false, if_true]
  refine wpAny_bind (ZO.refl.here ?_)
  refine wpAny_bind (wpAny_of_eq F.slot_set_rand.lookup (wpAny_pure ?_))
  simp only [bne_self_eq_false, Bool.and_false, Bool.false_eq_true, if_false, Bool.not_false, Bool.and_true, if_true, Bool.and_self]
  refine wpAny_bind (wpAny_pure ?_)
  simp only [Bool.false_eq_true, if_false]
  refine wpAny_bind (wpAny_tryMethod_slot hTS F.slot_set_and (wpAny_mono key (fun v s' q => ⟨q.1, wpAny_pure (wpAny_pure q.2)⟩) fun _ _ q => q))
end
end
-- S11
section
set_option maxHeartbeats 4000000
/-- the names that messages would show -/
structure NameLike (M : Model) (h : Heap) (S : Addr) : Prop where
  whole : ∃ T nm, Looks M h (typeOf (.ref S)) T ∧ Looks M h (typeNameWhole T) nm
  cut : ∃ nm, Looks M h (typeNameOfCut 200 (.ref S)) nm
def shortIn (K : Frag) (C : Addr) : Bool := match clsIn K C with
  | some cd => decide (cd.name.cps.foldl (fun k c => k + (Str.utf8Of c).length) 0 ≤ 200)
  | none => false
theorem nameLike_cls {K : Frag} {M : Model} {h : Heap} {S C : Addr} (X : K.In h) (hs : shortIn K C = true) (hT : Looks M h (typeOf (.ref S)) (.ref C)) : NameLike M h S := by
  unfold shortIn at hs
  split at hs
  · rename_i cd hc
    have hc' : Looks M h (classData C) cd := looks_clsIn X hc
    refine ⟨⟨_, cd.name.toString, hT, hc'.andThen .now⟩, ⟨cd.name.toString, ?_⟩⟩
    intro A Q E s k q
    unfold typeNameOfCut shownTypeOf
    refine wpAny_bind (wpAny_bind (hT A _ E s k ?_))
    simp only [show (Value.ref C == Value.type "builtin_function_or_method") = false from rfl, Bool.false_eq_true, if_false]
    refine wpAny_pure ?_
    unfold typeNameCut
    refine wpAny_bind (hc' A _ E s k ?_)
    rw [if_pos (of_decide_eq_true hs)]
    exact wpAny_pure q
  · cases hs
theorem nameLike_set {M : Model} {s : Shared} {S : Addr} (hT : Looks M s.heap (typeOf (.ref S)) (.type "set")) : NameLike M s.heap S := by
  refine ⟨⟨_, _, hT, .now⟩, ⟨(Manifest.find? "set").elim "set" (·.tpName), ?_⟩⟩
  · intro A Q E s k q
    unfold typeNameOfCut shownTypeOf
    refine wpAny_bind (wpAny_bind (hT A _ E s k ?_))
    simp only [show (Value.type "set" == Value.type "builtin_function_or_method") = false from by decide, Bool.false_eq_true, if_false]
    exact wpAny_pure (wpAny_pure q)
theorem printed_starL {M : Model} {A : Around} {E : Value → Shared → Prop} {s : Shared} {whole : Bool} {sig : Manifest.Signature} {S : Addr} {Q : String → Shared → Prop} (hs : sig.receiver = .self) (hN : NameLike M s.heap S) (h : ∀ x, Q x s) :
    wpAny M A (Bind.printed "*" whole sig (some (.ref S))) Q E s := by
  obtain ⟨T, nm, hT, hnm⟩ := hN.whole
  unfold Bind.printed Bind.receiverType
  rw [if_neg (by decide), hs]
  refine wpAny_bind (m := (if (Manifest.Receiver.self == Manifest.Receiver.cls) = true then pure (.ref S) else typeOf (.ref S))) ?_
  rw [if_neg (by decide)]
  exact hT.here (wpAny_bind (m := typeNameWhole _) (hnm.here (wpAny_pure (h _))))
theorem check_set_initL {M : Model} {A : Around} {E : Value → Shared → Prop} {s : Shared} {S : Addr} {a : Value} {Q : Unit → Shared → Prop} (hI : Looks M s.heap (isInstance (.ref S) (.type "set")) true) (hN : NameLike M s.heap S) (hQ : Q () s) :
    wpAny M A (checkBuiltinCall "set.__init__" ⟨[.ref S, a], []⟩) Q E s := by
  simp only [checkBuiltinCall, kind_set_init, split_set_init, sig_set_init]
  refine wpAny_bind (hI.here ?_)
  simp only [Bool.not_true, Bool.false_eq_true, if_false]
  unfold Bind.checkArgs
  dsimp only
  refine wpAny_bind (m := Bind.printed "set" true _ _) (PyProof.Rows.printed_name (by decide) ?_)
  refine wpAny_bind (m := Bind.printed "*" false _ _) (printed_starL rfl hN fun short => ?_)
  have hrn : (Manifest.Receiver.self == Manifest.Receiver.none) = false := by decide
  have hn : (if (Manifest.Receiver.self == Manifest.Receiver.none) = true then [Value.ref S, a].length else [Value.ref S, a].length - 1) = 1 := by simp [hrn]
  rw [hn]
  simp only [List.map_nil]
  have hk1 : (Manifest.ParamKind.posOnly == Manifest.ParamKind.posOnly) = true := by decide
  have hk2 : (Manifest.ParamKind.posOnly == Manifest.ParamKind.posOrKw) = false := by decide
  have hk3 : (Manifest.ParamKind.posOnly == Manifest.ParamKind.varPos) = false := by decide
  have hc : Bind.check ⟨.positional, "set", "*", .self, [⟨"iterable", .posOnly, false⟩]⟩ "set" short 1 [] = pure () := by
    simp [Bind.check, Bind.checkCount, Bind.isPositional, hk1, hk2, hk3]
  rw [hc]
  exact wpAny_pure hQ
section
variable {w : World} {A : Around} {E : Value → Shared → Prop} {S : Addr} {C : Value} {d : Option Addr}
/-- the code of `set.__init__` upon a fresh empty set, from a list or a tuple -/
theorem code_init {s : Shared} {l : Addr} {ol : Obj} {T : String} {nl ep : Nat} {led : Bool} {vals : List (Nat × Tok)} {R : Result → Shared → Prop} (hh : A.handled = none)
    (hS : s.heap.get? S = some (setO C d led ep [])) (hI : Looks (model prog w) s.heap (isInstance (.ref S) (.type "set")) true) (hN : NameLike (model prog w) s.heap S)
    (hl : s.heap.get? l = some ol) (hT : T = "list" ∨ T = "tuple") (hc : ol.cls = .type T) (hd : ol.data = .seq (vals.map fun e => Value.int (e.1 : Int) e.2).toArray nl) (hsm : Sm vals)
    (h : ∀ h' tk ep', (∀ b o, b ≠ S → s.heap.get? b = some o → h'.get? b = some o) → h'.get? S = some (setO C d led ep' vals) → R (.ok (.ret .none)) { s with heap := h', toks := tk }) :
    codeAny (model prog w) A (.call (.builtin "set.__init__") ⟨[.ref S, .ref l], []⟩) R s := by
  refine codeAny_call_builtin F.called_set.init.plain F.entry_set_init (check_set_initL hI hN ?_)
  obtain ⟨nm, hnm⟩ := hN.cut
  refine init_body (Q := fun fin s' => match fin with | .done f => R (.ok f) s' | .again c' => c'.quiet = true ∧ codeAny (model prog w) A c' R s') hS hnm ?_
  exact upd_from (by simpa using hh) hS hl hT hc hd hsm.up hsm.lt hsm.len h
end
end
-- S12
section
set_option maxHeartbeats 4000000
section
variable {w : World} {A : Around} {E : Value → Shared → Prop} {S O : Addr} {C C' : Value} {d d' : Option Addr}
theorem room_none {led : Bool} : ∀ n, n ≤ 3 → (setT led []).roomFor n = none := by
  intro n hn
  rcases (by omega : n = 0 ∨ n = 1 ∨ n = 2 ∨ n = 3) with rfl | rfl | rfl | rfl <;> rfl
theorem merge_set {s : Shared} {ep ep' : Nat} {led : Bool} {vals : List (Nat × Tok)} {each : Sem Unit} {Q : Unit → Shared → Prop} (hSO : S ≠ O)
    (hS : s.heap.get? S = some (setO C d led ep [])) (hO : s.heap.get? O = some (setO C' d' led ep' vals)) (hsm : Sm vals) (hne : vals ≠ [])
    (h : ∀ h' ep', (∀ b o, b ≠ S → s.heap.get? b = some o → h'.get? b = some o) → h'.get? S = some (setO C d led ep' vals) → Q () { s with heap := h' }) :
    wpAny (model prog w) A (setMerge S O each) Q E s := by
  have hl := hsm.len
  unfold setMerge
  rw [if_neg (show ¬ ((S == O) = true) from by simp [hSO])]
  refine wpAny_bind (state_set hO (by omega) ?_)
  dsimp only
  rw [if_neg (show ¬ ((vals.map ev).toArray.isEmpty = true) from by simp [hne])]
  unfold setRoomFor
  refine wpAny_bind (wpAny_bind (state_set hS (by simp) ?_))
  dsimp only
  rw [show (vals.map ev).toArray.size = vals.length from by simp, show (setT led (List.map (fun x : Nat × Tok => x.1) [])).roomFor vals.length = none from room_none _ hl]
  refine wpAny_pure ?_
  refine wpAny_bind (state_set hS (by simp) ?_)
  dsimp only
  rw [show (setT led (List.map (fun x : Nat × Tok => x.1) [])).road (setT led (vals.map (·.1))) = .slotForSlot from rfl]
  refine wpAny_storeSet_of hS rfl ?_ (by simp [sizeLine_eq]; omega)
  refine h _ (ep + 1) (fun b o hb e => ((Heap.SameBut.update ..).2 b hb).trans e) ?_
  rw [Heap.get?_update_self _ hS rfl]
  simp only [Bool.and_self]
  rfl
local macro_rules | `(tactic| wp_step) => `(tactic| first | with_reducible (first | refine wpAny_pure ?_ | refine wpAny_bind ?_ | refine wpAny_holding ?_ | refine wpAny_standAt ?_ | refine wpAny_point ?_ | refine wpAny_rule ?_ | refine wpAny_attempt ?_ | refine wpAny_of_eq (by assumption) ?_ | refine wpAny_typeOf (by assumption) ?_ | refine wpAny_specialOf_val (by assumption) (by assumption) ?_ | refine wpAny_specialOf (by assumption) (by assumption) ?_ | refine wpAny_isInstance_val (by assumption) (by assumption) ?_ | refine wpAny_isInstance (by assumption) (by assumption) ?_ | refine wpAny_call ?_ | refine wpAny_runValue ?_ | refine wpAny_run ?_) | wp_delta)
/-- `set(l)` -/
theorem call_set_seq {s : Shared} {l : Addr} {ol : Obj} {T : String} {nl : Nat} {vals : List (Nat × Tok)} {Q : Value → Shared → Prop} (hh : A.handled = none)
    (hl : s.heap.get? l = some ol) (hT : T = "list" ∨ T = "tuple") (hc : ol.cls = .type T) (hd : ol.data = .seq (vals.map fun e => Value.int (e.1 : Int) e.2).toArray nl) (hsm : Sm vals)
    (h : ∀ h' tk ep', (∀ b o, s.heap.get? b = some o → h'.get? b = some o) → h'.get? s.heap.objs.size = some (exSet (ledW w) ep' vals) → Q (.ref s.heap.objs.size) { s with heap := h', toks := tk }) :
    wpAny (model prog w) A (call (.type "set") [.ref l]) Q E s := by
  obtain ⟨c, tl, hmro⟩ := F.called_set.mro
  have hmade := F.called_set.made
  have hsub := F.called_set.sub
  refine wpAny_call (codeAny_of_tree ?_)
  show wpAny _ _ (callAny (.type "set") _) _ _ _
  refine wpAny_pure ⟨Code.quiet_builtin _ (by decide +kernel), codeAny_builtin F.entry_type_call ?_⟩
  rw [Around.under_plain (weight_type_call_type "set" [.ref l] []) rfl]
  have h1 := F.called_set.notType
  have h2 := F.called_set.canCreate
  have hct := F.typeCall_set_1 (.ref l)
  repeat (any_goals (first | assumption | wp_step))
  have hS : (s.heap.push (exSet (ledW w) 0 [])).get? s.heap.objs.size = some (exSet (ledW w) 0 []) := Heap.get?_push_size _ rfl
  refine codeAny_mono (R := wants (fun obj s₁ => obj = .ref s.heap.objs.size ∧ s₁ = { s with heap := s.heap.push (exSet (ledW w) 0 []) }) E) ?_ fun r s₁ hr => ?_
  · refine codeAny_of_tree ?_
    show wpAny _ _ (do checkBuiltinCall "set.__new__" ⟨[.type "set", .ref l], []⟩; again (.builtin "set.__new__" ⟨[.type "set", .ref l], []⟩)) _ _ s
    refine wpAny_bind (wpAny_of_eq (F.newCall_set_1 _) (wpAny_pure ⟨plainId_quiet F.plain_set_new _, codeAny_builtin F.entry_set_new ?_⟩))
    rw [Around.under_plainId F.plain_set_new _]
    unfold Builtin.«set.__new__» Builtin.Frozenset.newClass
    have hsub := sub_set_self
    obtain ⟨hp, g, d, tk, os⟩ := s
    dsimp only
    wp_walk
    refine wpAny_askSetting (wpAny_pure ?_)
    dsimp only
    simp only [newObj]
    refine wpAny_bind (wpAny_alloc (wpAny_pure ?_))
    exact wpAny_pure ⟨rfl, rfl⟩
  · cases r with
    | error e => exact hr
    | ok fl =>
      cases fl with
      | ret obj =>
        obtain ⟨rfl, rfl⟩ := hr
        have hT2 : Shared.TypeIs { s with heap := s.heap.push (exSet (ledW w) 0 []) } (.ref s.heap.objs.size) "set" := ⟨_, hS, rfl⟩
        have hTL : Looks (model prog w) (s.heap.push (exSet (ledW w) 0 [])) (typeOf (.ref s.heap.objs.size)) (.type "set") := (Looks.ld hS).andThen .now
        have hli := F.called_set.init.lookup
        have hbi := F.called_set.init.bind (.ref s.heap.objs.size)
        repeat (any_goals (first | assumption | wp_step))
        have hne : l ≠ s.heap.objs.size := Nat.ne_of_lt (Heap.lt_size hl)
        refine codeAny_mono (code_init (vals := vals) (nl := nl) (R := wants (fun r s₂ => r = .none ∧ Q (.ref s.heap.objs.size) s₂) E) (by simp [hh]) hS
          (hTL.andThen (.of_pure sub_set_self)) (nameLike_set (s := { s with heap := s.heap.push (exSet (ledW w) 0 []) }) hTL) (Heap.get?_push_of_some _ hl) hT hc hd hsm fun h' tk ep' hk hg => ⟨rfl, ?_⟩) fun r₂ s₂ hr₂ => ?_
        · exact h h' tk ep' (fun b o e => hk b o (Nat.ne_of_lt (Heap.lt_size e)) (Heap.get?_push_of_some _ e)) hg
        · cases r₂ with
          | error e => exact hr₂
          | ok fl₂ =>
            cases fl₂ with
            | ret r =>
              obtain ⟨rfl, hq⟩ := hr₂
              repeat (any_goals (first | assumption | wp_step))
            | _ => exact hr₂.elim
      | _ => exact hr.elim
end
end
-- S13
section
set_option maxHeartbeats 4000000
section
variable {w : World} {A₀ A : Around} {s : Shared} {base h₀ : Heap} {outer : List Env} {L : Addr} {m mg mb : Str → Option Value} {env : Env} {news : List (Addr × Obj)} {K : Frag} {p : Program} {loose : List Str} {mean : ExcName → Option Value}
  {R : Result → Shared → Prop} {name qual : Str} {params : Arguments} {body : List Stmt} {scope : Scope} {cl : List (Str × Addr)} {dV kV doc pm cdv ct oc : Value} {an od : Option Addr} {osl : Array (Option Value)} {f : Addr} {args : Args} {x y z : Str} {vx vy vz : Value}
/-- entering a function with one own cell (its third parameter) and closed-over names -/
theorem enter_cell3 (B : Below A₀ base outer h₀) (F : Fr h₀ L s.heap m) (X₀ : K.In h₀) (N : News h₀ L s.heap news) (T : Top p loose mean mg mb h₀) (hA : A.frames = some (env :: outer)) (hf : env.frame = some L) (hke : env.scope.kind = .function)
    (ho : K.lookup f = some ⟨oc, od, .func (fnX name qual params body scope cl dV kV doc pm an cdv ct), osl⟩) (hcd : codeIn K cdv qual = true) (hroom : A.depth < recursionLimit)
    (hbind : BindsTo s (fnX name qual params body scope cl dV kV doc pm an cdv ct) args [(x, vx), (y, vy), (z, vz)])
    (hcells : ∀ n, cellsFrom n scope.names cl = (z, n) :: cl) (hpush : ∀ h, pushCells h scope.names = h.push { cls := .type "cell", data := .cell none })
    (hx : scope.names.lookup x = some .local) (hy : scope.names.lookup y = some .local) (hz : scope.names.lookup z = some .cell)
    (h : ∀ g L' h₁ tk o', Fr h₀ L g m → Fr g L' h₁ (fun a => if a = y then some vy else if a = x then some vx else none) → News g L' h₁ ((L' + 1, o') :: news) → o'.data = .cell (some vz) → Below A base (env :: outer) g → K.In g → Top p loose mean mg mb g → (∀ p ∈ news, p.1 < L') → (∀ b o, s.heap.get? b = some o → h₁.get? b = some o) →
      _root_.PySem.wpAt (model prog w) (A.deeper (envX qual scope L' f cdv ((z, L' + 1) :: cl))) (.func body (envX qual scope L' f cdv ((z, L' + 1) :: cl))) (execs body (envX qual scope L' f cdv ((z, L' + 1) :: cl)))
        (fun fl s' => LeaveK h₀ L m g R (match fl with | .ret v => v | _ => .none) s')
        (fun e s' => wpAny (model prog w) (A.deeper (envX qual scope L' f cdv ((z, L' + 1) :: cl))) (leaving (envX qual scope L' f cdv ((z, L' + 1) :: cl)) e) (fun _ s'' => R (.error e) s'') (fun e' s'' => R (.error e') s'') s')
        { s with heap := h₁, toks := tk })
    (hco : scope.isCoroutine = false := by rfl) (hgen : scope.isGenerator = false := by rfl) (hk : scope.kind = .function := by rfl) : codeAny (model prog w) A (.call (.ref f) args) R s := by
  obtain ⟨FG, BG, st, lv⟩ := groundX (R := R) B F N hA hf hke
  have hlim := T.nolimit.keeps F.keep
  refine codeAny_call_function hroom ((X₀.keeps F.keep) _ _ ho) rfl hco hgen rfl (codeRec_of (X₀.keeps F.keep) hcd) (hbind _ _ _ _ ?_)
  simp only [newFunctionEnv, Option.isSome_none, Bool.false_eq_true, if_false]
  refine wpAny_bind (wpAny_alloc ?_)
  refine wpAny_bind (wpAny_layCells _ (fun name kind cells => by cases hkc : kind == NameKind.cell <;> simp [hkc]) _ _ _ _ ?_)
  rw [hcells, hpush]
  have e1 : (s.heap.push { cls := .type "frame", data := .dict #[] }).objs.size = s.heap.objs.size + 1 := Heap.size_push ..
  rw [show ({ s with heap := s.heap.push { cls := .type "frame", data := .dict #[] } } : Shared).heap.objs.size = s.heap.objs.size + 1 from e1]
  have k2 : ∀ b o, s.heap.get? b = some o → ((s.heap.push { cls := .type "frame", data := .dict #[] }).push { cls := .type "cell", data := .cell none }).get? b = some o := fun b o e => Heap.get?_push_of_some _ (Heap.get?_push_of_some _ e)
  have FN : Fr (hideAll s.heap (news.map (·.1))) s.heap.objs.size ((s.heap.push { cls := .type "frame", data := .dict #[] }).push { cls := .type "cell", data := .cell none }) (fun _ => none) :=
    ⟨(Heap.Ns.new s.heap (.type "frame")).keeps fun b o e => Heap.get?_push_of_some _ e, fun b o e => k2 b o (of_hideAll _ e), Nat.le_of_eq (hideAll_size _ _)⟩
  have hcell : ((s.heap.push { cls := .type "frame", data := .dict #[] }).push { cls := .type "cell", data := .cell none }).get? (s.heap.objs.size + 1) = some { cls := .type "cell", data := .cell none } := by
    have := Heap.get?_push_size (h := s.heap.push { cls := .type "frame", data := .dict #[] }) (o := { cls := .type "cell", data := .cell none }) rfl
    rwa [e1] at this
  have NN : News (hideAll s.heap (news.map (·.1))) s.heap.objs.size ((s.heap.push { cls := .type "frame", data := .dict #[] }).push { cls := .type "cell", data := .cell none }) ((s.heap.objs.size + 1, { cls := .type "cell", data := .cell none }) :: news) := by
    intro q hq
    rcases List.mem_cons.mp hq with rfl | hq
    · exact ⟨hcell, Nat.succ_ne_self _, Heap.get?_none_of_le (by rw [hideAll_size]; exact Nat.le_succ _)⟩
    · exact ⟨k2 _ _ (N q hq).1, Nat.ne_of_lt (Heap.lt_size (N q hq).1), hideAll_none _ (List.mem_map_of_mem hq)⟩
  have hlt : ∀ q ∈ news, q.1 < s.heap.objs.size := fun q hq => Heap.lt_size (N q hq).1
  refine wpAny_bind ?_
  rw [List.forIn_cons]
  have hcls : (scope.kind == .class || (scope.kind == .module && s.heap.objs.size != mainGlobals)) = false := by rw [hk]; rfl
  have kx : (envX qual scope s.heap.objs.size f cdv ((z, s.heap.objs.size + 1) :: cl)).kindOf x = some .local := hx
  have ky : (envX qual scope s.heap.objs.size f cdv ((z, s.heap.objs.size + 1) :: cl)).kindOf y = some .local := hy
  have kz : (envX qual scope s.heap.objs.size f cdv ((z, s.heap.objs.size + 1) :: cl)).kindOf z = some .cell := hz
  refine wpAny_bind (wpAny_bind (wpAny_storeName_local (env := envX qual scope s.heap.objs.size f cdv ((z, s.heap.objs.size + 1) :: cl)) kx FN.ns (fun h1 hn1 hs1 => wpAny_pure ?_) hcls))
  have F1 := FN.set hn1 hs1
  have N1 := NN.set hs1
  dsimp only
  rw [List.forIn_cons]
  refine wpAny_bind (wpAny_bind (wpAny_storeName_local (env := envX qual scope s.heap.objs.size f cdv ((z, s.heap.objs.size + 1) :: cl)) ky F1.ns (fun h2 hn2 hs2 => wpAny_pure ?_) hcls))
  have F2 := F1.set hn2 hs2
  have N2 := N1.set hs2
  dsimp only
  rw [List.forIn_cons]
  refine wpAny_bind (wpAny_bind (wpAny_storeName_cell (env := envX qual scope s.heap.objs.size f cdv ((z, s.heap.objs.size + 1) :: cl)) hk kz (by simp) ⟨_, (N2 _ (.head _)).1, rfl⟩ fun h3 hv hs => wpAny_pure ?_))
  dsimp only
  rw [List.forIn_nil]
  refine wpAny_pure (wpAny_pure ?_)
  have k4 : ∀ b o, s.heap.get? b = some o → h2.get? b = some o := fun b o e => hs2.extBut b o (Nat.ne_of_lt (Heap.lt_size e)) (hs1.extBut b o (Nat.ne_of_lt (Heap.lt_size e)) (k2 b o e))
  have hL3 : s.heap.objs.size ≠ s.heap.objs.size + 1 := fun q => Nat.succ_ne_self _ q.symm
  obtain ⟨o', ho', hd'⟩ := hv
  have nog : ∀ b o, (hideAll s.heap (news.map (·.1))).get? b = some o → b ≠ s.heap.objs.size + 1 := fun b o e q => by
    have := (N2 _ (.head _)).2.2
    rw [q, this] at e; cases e
  have F3 : Fr (hideAll s.heap (news.map (·.1))) s.heap.objs.size h3 (fun a => if a = y then some vy else if a = x then some vx else none) :=
    ⟨F2.ns.sameBut hs hL3, fun b o e => (hs.2 b (nog b o e)).trans (F2.keep b o e), F2.above⟩
  have N3 : News (hideAll s.heap (news.map (·.1))) s.heap.objs.size h3 ((s.heap.objs.size + 1, o') :: news) := by
    intro q hq
    rcases List.mem_cons.mp hq with rfl | hq
    · exact ⟨ho', (N2 _ (.head _)).2.1, (N2 _ (.head _)).2.2⟩
    · exact ⟨(hs.2 q.1 (Nat.ne_of_lt (Nat.lt_succ_of_lt (hlt q hq)))).trans (N2 q (.tail _ hq)).1, (N2 q (.tail _ hq)).2⟩
  refine ⟨(T.keeps st).nolimit.keeps F3.keep, ks_codeAny_funcAt ?_⟩
  exact ks_wpAt_mono (h _ _ h3 _ o' FG F3 N3 hd' BG (X₀.keeps st) (T.keeps st) hlt (fun b o e => (hs.2 b (fun q => by rw [q] at e; exact absurd (Heap.lt_size e) (Nat.not_lt_of_lt (Nat.lt_succ_self _)))).trans (k4 b o e))) (fun fl s' hl => lv _ _ hl) fun _ _ y => y
end
end
-- S14
section
set_option maxHeartbeats 4000000
theorem slot_wd_get : Slot "wrapper_descriptor" "__get__" "wrapper_descriptor.__get__" := .of (owner := "wrapper_descriptor") (n := "__get__") (by rw [typeLookup_type, builtinLookup_eq_fast]; kernel_rfl) (by decide +kernel) (by decide +kernel) (by decide +kernel)
  (by first | exact .inl (by decide +kernel) | exact .inr (by decide +kernel)) (by rw [isSubtype_type]; kernel_rfl)
theorem entry_wd_get : entryFor table "wrapper_descriptor.__get__" = some Builtin.«wrapper_descriptor.__get__» := entryFor_of_tree (by kernel_rfl)
theorem args_wd_get (a b c : Value) : argsOk "wrapper_descriptor.__get__" ⟨[a, b, c], []⟩ := by unfold argsOk; kernel_rfl
theorem type_set_init : typeOf (.builtin "set.__init__") = pure (.type "wrapper_descriptor") := by show builtinType _ = _; rw [builtinType_eq_fast]; kernel_rfl
abbrev mwO (x : Addr) : Obj := { cls := .type "method-wrapper", data := .fields #[.builtin "set.__init__", .ref x] }
section
variable {prog : Program} {w : World} {A : Around} {E : Value → Shared → Prop} {h : Heap} {g : Array GenState} {d : Drawn} {t : Nat} {os : OsState}
theorem wd_get {x C : Addr} {Q : Value → Shared → Prop} (hI : Looks (model prog w) h (isInstance (.ref x) (.type "set")) true) (hq : Q (.ref h.objs.size) ⟨h.push (mwO x), g, d, t, os⟩) :
    wpAny (model prog w) A (call (.builtin "wrapper_descriptor.__get__") [.builtin "set.__init__", .ref x, .ref C]) Q E ⟨h, g, d, t, os⟩ := by
  refine wpAny_call_entry slot_wd_get (T := "wrapper_descriptor") type_set_init entry_wd_get ?_ (args_wd_get _ _ _)
  unfold Builtin.«wrapper_descriptor.__get__»
  refine wpAny_bind (wpAny_of_eq (a := ((.builtin "set.__init__", some (.ref x), some (.ref C)) : Value × Option Value × Option Value)) rfl ?_)
  dsimp only
  show wpAny _ _ (do
    let _ ← (do
      let p ← (pure (Str.ofString "__init__", Value.type "set") : Sem (Str × Value))
      if !(← isInstance (.ref x) p.2) then _ else _ : Sem Unit)
    ret (← newFields "method-wrapper" [.builtin "set.__init__", .ref x])) _ _ _
  refine wpAny_bind (wpAny_bind (wpAny_pure ?_))
  dsimp only
  refine wpAny_bind (hI.here ?_)
  simp only [Bool.not_true, Bool.false_eq_true, if_false]
  refine wpAny_pure ?_
  refine wpAny_bind (wpAny_newObj_type (wpAny_pure ⟨_, rfl, hq⟩))
theorem super_ga_init {so D x C : Addr} {l₀ l : List Value} {K : Frag} {tk : Tok} {Q : Fin → Shared → Prop}
    (hso : h.get? so = some { cls := .type "super", dict := none, data := .fields #[.ref D, .ref x, .ref C], slots := #[] }) (hno : Looks (model prog w) h (opaqueClassAbove (.ref C)) none)
    (hC : Looks (model prog w) h (mroOf (.ref C)) l₀) (hl : (l₀.dropWhile (· != .ref D)).drop 1 = l) (X : K.In h)
    (hf : alongIn K "__init__" l = some (some (.builtin "set.__init__"))) (hxC : x ≠ C) (hI : Looks (model prog w) h (isInstance (.ref x) (.type "set")) true)
    (hq : Q (.done (.ret (.ref h.objs.size))) ⟨h.push (mwO x), g, d, t, os⟩) :
    wpAny (model prog w) A (Builtin.«super.__getattribute__» ⟨[.ref so, .str "__init__" tk], []⟩) Q E ⟨h, g, d, t, os⟩ := by
  have hlk := slot_wd_get.lookup
  have htb := type_set_init
  have hn : (("__init__" : Str) == ("__class__" : Str)) = false := by decide
  have hne : (Value.ref x == Value.ref C) = false := by simp [hxC]
  have hdt : ({ cls := .type "super", dict := none, data := .fields #[.ref D, .ref x, .ref C], slots := #[] } : Obj).data = .fields #[.ref D, .ref x, .ref C] := rfl
  have f0 : (#[.ref D, .ref x, .ref C] : Array Value)[0]? = some (.ref D) := rfl
  have f1 : (#[.ref D, .ref x, .ref C] : Array Value)[1]? = some (.ref x) := rfl
  have f2 : (#[.ref D, .ref x, .ref C] : Array Value)[2]? = some (.ref C) := rfl
  unfold Builtin.«super.__getattribute__»
  repeat (first
    | (with_reducible refine wpAny_field hso hdt f0 ?_) | (with_reducible refine wpAny_field hso hdt f1 ?_) | (with_reducible refine wpAny_field hso hdt f2 ?_)
    | (with_reducible refine ks_wpAny_notOpaque hno ?_)
    | (with_reducible refine Looks.at hC ?_; rw [hl])
    | (refine ks_forIn_along X (fun _ _ => rfl) rfl ?_ hf)
    | (with_reducible refine wpAny_of_eq htb ?_)
    | (with_reducible refine wd_get hI ?_)
    | (with_reducible refine ⟨_, rfl, ?_⟩)
    | (simp only [hn, hne, Bool.or_false, Bool.false_eq_true, if_false])
    | wp_step
    | dsimp only)
  all_goals exact hq
theorem getMethod_super_init {so D x C : Addr} {l₀ l : List Value} {K : Frag} {pl : Sem Bool} {Q : Value × List Value → Shared → Prop}
    (hso : h.get? so = some { cls := .type "super", dict := none, data := .fields #[.ref D, .ref x, .ref C], slots := #[] }) (hno : Looks (model prog w) h (opaqueClassAbove (.ref C)) none)
    (hC : Looks (model prog w) h (mroOf (.ref C)) l₀) (hl : (l₀.dropWhile (· != .ref D)).drop 1 = l) (X : K.In h)
    (hf : alongIn K "__init__" l = some (some (.builtin "set.__init__"))) (hxC : x ≠ C) (hI : Looks (model prog w) h (isInstance (.ref x) (.type "set")) true)
    (hq : Q (.ref h.objs.size, []) ⟨h.push (mwO x), g, d, t + 1, os⟩) :
    wpAny (model prog w) A (getMethod (.ref so) "__init__" pl) Q E ⟨h, g, d, t, os⟩ := by
  have hlk := F.ks_slot_super_ga.lookup
  have hcan := F.ks_canon_super_ga
  have hT : ∀ t', (⟨h, g, d, t', os⟩ : Shared).TypeIs (.ref so) "super" := fun _ => ⟨_, hso, rfl⟩
  unfold getMethod
  refine wpAny_bind (wpAny_specialOf (hT _) hlk ?_)
  show wpAny _ _ (if (Manifest.canonical "super.__getattribute__" != "object.__getattribute__") = true then _ else _) _ _ _
  rw [if_pos hcan]
  unfold getAttr getAttrBy
  refine wpAny_bind (wpAny_bind (wpAny_mkText (wpAny_holding (wpAny_bind (wpAny_typeOf (hT _) (wpAny_bind (wpAny_of_eq hlk ?_)))))))
  show wpAny _ _ (getAttrByItsOwn (.ref so) (.str "__init__" t) (.type "super") (.builtin "super.__getattribute__") true false) _ _ _
  unfold getAttrByItsOwn hookBefore callGetattribute boundAndCalled
  refine wpAny_bind (wpAny_of_eq (show (if onTheHeap (.type "super") then typeLookup (.type "super") "__getattr__" else pure none) = pure none from rfl) ?_)
  refine wpAny_bind (wpAny_attempt (wpAny_holding ?_))
  show wpAny _ _ (bindSpecial (.builtin "super.__getattribute__") (.ref so) >>= _) _ _ _
  refine wpAny_bind (wpAny_of_eq (F.ks_slot_super_ga.bind _) ?_)
  refine wpAny_mono (Q := fun v s' => v = .ref h.objs.size ∧ s' = ⟨h.push (mwO x), g, d, t + 1, os⟩) (E := fun _ _ => False)
    (wpAny_call_entry F.ks_slot_super_ga (hT _) F.ks_entry_super_ga (super_ga_init hso hno hC hl X hf hxC hI ⟨_, rfl, rfl, rfl⟩) (F.ks_gaArgs_super _ _)) (fun v s' hv => ?_) fun _ _ z => z.elim
  obtain ⟨rfl, rfl⟩ := hv
  exact wpAny_pure (wpAny_pure hq)
end
end
-- S15
section
set_option maxHeartbeats 4000000
abbrev toV (e : Nat × Tok) : Value := .int (e.1 : Int) e.2
abbrev seqO (T : String) (vals : List (Nat × Tok)) (nl : Nat) : Obj := { cls := .type T, dict := none, data := .seq (vals.map toV).toArray nl, slots := #[] }
theorem setLike75 {w : World} {h : Heap} {x : Addr} {d : Option Addr} {led : Bool} {ep : Nat} {vals : List (Nat × Tok)} (X : (kf.heap_1 w.params).In h) (e : h.get? x = some (setO (.ref 75) d led ep vals)) : SetLike (model prog w) h x := by
  have hT : Looks (model prog w) h (typeOf (.ref x)) (.ref 75) := (Looks.ld e).andThen .now
  exact ⟨hT.andThen (looks_findIn X (by kernel_rfl)), hT.andThen (looks_findIn X (by kernel_rfl)), hT.andThen (looks_findIn X (by kernel_rfl)), hT.andThen (looks_mroIn X (by kernel_rfl))⟩
theorem andLike75 {w : World} {h : Heap} (X : (kf.heap_1 w.params).In h) : AndLike (model prog w) h 75 := by
  refine ⟨?_, looks_mroIn X (by kernel_rfl), looks_findIn X (by kernel_rfl)⟩
  have hmm : (clsIn (kf.heap_1 w.params) 75).map (·.mro) = some [.ref 75, .type "set", .type "object"] := by kernel_rfl
  cases hc : clsIn (kf.heap_1 w.params) 75 with
  | none => rw [hc] at hmm; cases hmm
  | some cd =>
    rw [hc] at hmm
    have hm : cd.mro = [.ref 75, .type "set", .type "object"] := Option.some.inj hmm
    intro A Q E s k q
    unfold fillsNumberSlot
    refine wpAny_bind ((looks_clsIn X hc).andThen (f := fun cd => pure cd.mro) .now A _ E s k ?_)
    rw [hm, List.anyM_cons]
    refine wpAny_bind ?_
    show wpAny _ A (List.anyM _ [PySem.dunder "and", dunderR "and"]) _ _ _
    rw [List.anyM_cons]
    refine wpAny_bind (wpAny_bind ((looks_findIn (name := PySem.dunder "and") (r := some (.builtin "set.__and__")) X (by kernel_rfl)) A _ E s k ?_))
    dsimp only
    rw [if_neg (by decide +kernel)]
    unfold inheritsSeqSlot
    refine wpAny_bind (wpAny_bind ((looks_clsIn X hc).andThen (f := fun cd => pure cd.mro) .now A _ E s k ?_))
    rw [hm, List.anyM_cons]
    refine wpAny_bind (wpAny_pure ?_)
    rw [if_neg Bool.false_ne_true, List.anyM_cons]
    refine wpAny_bind (wpAny_bind (wpAny_of_eq F.slot_set_and.lookup (wpAny_pure ?_)))
    rw [if_neg (by decide +kernel), List.anyM_cons]
    refine wpAny_bind (wpAny_bind (wpAny_of_eq (show typeLookup (.type "object") (PySem.dunder "and") = pure none by rw [typeLookup_type, builtinLookup_eq_fast]; kernel_rfl) (wpAny_pure ?_)))
    rw [if_neg (by decide +kernel), List.anyM_nil]
    refine wpAny_pure (wpAny_pure ?_)
    rw [if_pos (show (!false) = true from rfl)]
    refine wpAny_pure ?_
    rw [if_pos (show true = true from rfl)]
    exact wpAny_pure q
/-- what a CandidateSet may be made from -/
inductive SrcO (w : World) (vals : List (Nat × Tok)) : Obj → Prop
  | seq (T : String) (nl : Nat) (hT : T = "list" ∨ T = "tuple") : SrcO w vals (seqO T vals nl)
  | set (d : Option Addr) (ep : Nat) (hne : vals ≠ []) : SrcO w vals (setO (.ref 75) d (ledW w) ep vals)
def Src (w : World) (h : Heap) (l : Addr) (vals : List (Nat × Tok)) : Prop := ∃ o, h.get? l = some o ∧ SrcO w vals o
theorem Src.keeps {w : World} {h h' : Heap} {l : Addr} {vals : List (Nat × Tok)} (x : Src w h l vals) (k : ∀ b o, h.get? b = some o → h'.get? b = some o) : Src w h' l vals :=
  let ⟨o, e, r⟩ := x; ⟨o, k _ _ e, r⟩
theorem Src.at {w : World} {h h' : Heap} {l : Addr} {vals : List (Nat × Tok)} (x : Src w h l vals) (k : ∀ o, h.get? l = some o → h'.get? l = some o) : Src w h' l vals :=
  let ⟨o, e, r⟩ := x; ⟨o, k _ e, r⟩
theorem Src.lt {w : World} {h : Heap} {l : Addr} {vals : List (Nat × Tok)} (x : Src w h l vals) : l < h.objs.size := let ⟨_, e, _⟩ := x; Heap.lt_size e
abbrev oneOf (vals : List (Nat × Tok)) (_ : Nat) (v : Value) : Prop := ∃ e ∈ vals, v = toV e
theorem Walks.weaken {w : World} {A : Around} {I : Addr} {fp wr : List Addr} {n : Nat} {P P' : Nat → Value → Prop} {St : Nat → Heap → Prop} (W : Walks prog w A I fp wr n P St) (h : ∀ i v, P i v → P' i v) : Walks prog w A I fp wr n P' St where
  sub := W.sub
  frame := W.frame
  item := fun i s Q E hi st hQ => W.item i s Q E hi st fun v h' tk p => hQ v h' tk (h _ _ p)
  done := W.done
  self := W.self
section
variable {w : World} {A : Around} {E : Value → Shared → Prop} {s : Shared} {l : Addr} {vals : List (Nat × Tok)}
theorem Src.len {Q : Value → Shared → Prop} (X : (kf.heap_1 w.params).In s.heap) (x : Src w s.heap l vals) (hsm : Sm vals) (h : ∀ t tk, Q (.int vals.length t) { s with toks := tk }) : wpAny (model prog w) A (call (.builtin "len") [.ref l]) Q E s := by
  have hl := hsm.len
  have hz : (vals.map toV).toArray.size = vals.length := by simp
  obtain ⟨o, ho, hk⟩ := x
  cases hk with
  | seq T nl hT =>
    rcases hT with rfl | rfl
    · have := fun (Q' : Value → Shared → Prop) => call_len_list (prog := prog) (w := w) (A := A) (E := E) (s := s) (Q := Q') (l := l) (items := (vals.map toV).toArray) ⟨_, ho, rfl, nl, rfl⟩ (by rw [hz]; omega)
      rw [hz] at this
      exact this _ (h _ _)
    · have := fun (Q' : Value → Shared → Prop) => P.len_tuple (prog := prog) (w := w) (A := A) (E := E) (s := s) (Q := Q') (t := l) (items := (vals.map toV).toArray) (n := nl) ho (by rw [hz]; omega)
      rw [hz] at this
      exact this _ (h _ _)
  | set d ep hne => exact len_set (setLike75 X ho) ho (by omega) h
theorem Src.iter {Q : Value → Shared → Prop} (X : (kf.heap_1 w.params).In s.heap) (x : Src w s.heap l vals) (hsm : Sm vals)
    (h : ∀ it St, it.isFreed = false → (∀ A' : Around, A'.handled = none → Walks prog w A' s.heap.objs.size [s.heap.objs.size, l] [s.heap.objs.size] vals.length (oneOf vals) St) → St 0 (s.heap.push it) →
      Q (.ref s.heap.objs.size) { s with heap := s.heap.push it }) : wpAny (model prog w) A (pyIter (.ref l)) Q E s := by
  have hlt := x.lt
  have hne : l ≠ s.heap.objs.size := Nat.ne_of_lt hlt
  have hl := hsm.len
  have hz : (vals.map toV).toArray.size = vals.length := by simp
  have hval : ∀ (i : Nat) (v : Value), (vals.map toV).toArray[i]? = some v → oneOf vals i v := by
    intro i v hv
    simp only [List.getElem?_toArray, List.getElem?_map, Option.map_eq_some_iff] at hv
    obtain ⟨e, he, rfl⟩ := hv
    exact ⟨e, List.mem_of_getElem? he, rfl⟩
  obtain ⟨o, ho, hk⟩ := x
  cases hk with
  | seq T nl hT =>
    rcases hT with rfl | rfl
    · have hli : s.heap.IsList l (vals.map toV).toArray := ⟨_, ho, rfl, nl, rfl⟩
      refine wpAny_pyIter_list hli (h _ (fun i h => h.IsListIter s.heap.objs.size l i ∧ h.IsList l (vals.map toV).toArray) rfl (fun A' hA => ?_) ⟨⟨_, Heap.get?_push_size _ rfl, rfl, rfl⟩, hli.push _⟩)
      have W := Walks.list (prog := prog) (w := w) hA s.heap.objs.size l hne (vals.map toV).toArray
      rw [hz] at W
      exact W.weaken hval
    · have hti : s.heap.IsTuple l (vals.map toV).toArray := ⟨_, ho, rfl, nl, rfl⟩
      refine wpAny_pyIter_tuple hti (h _ (fun i h => h.IsTupleIter s.heap.objs.size l i ∧ h.IsTuple l (vals.map toV).toArray) rfl (fun A' hA => ?_) ⟨⟨_, Heap.get?_push_size _ rfl, rfl, rfl⟩, hti.push _⟩)
      have W := Walks.tuple (prog := prog) (w := w) hA s.heap.objs.size l hne (vals.map toV).toArray
      rw [hz] at W
      exact W.weaken hval
  | set d ep hnv =>
    refine iter_set (setLike75 X ho) ho (by omega) (h _ _ rfl (fun A' hA => Walks.set hA s.heap.objs.size l hne (.ref 75) d ep vals hsm) ⟨⟨0, fun _ => (bel hsm).1, Heap.get?_push_size _ rfl⟩, Heap.get?_push_of_some _ ho⟩)
/-- the body of `set.__init__` upon a fresh empty set -/
theorem Src.init {S : Addr} {C : Value} {d : Option Addr} {ep : Nat} {Q : Fin → Shared → Prop} (hh : A.handled = none) (X : (kf.heap_1 w.params).In s.heap) (x : Src w s.heap l vals) (hsm : Sm vals) (hSl : S ≠ l)
    (hS : s.heap.get? S = some (setO C d (ledW w) ep [])) (hN : NameLike (model prog w) s.heap S)
    (h : ∀ h' tk ep', (∀ b o, b ≠ S → s.heap.get? b = some o → h'.get? b = some o) → h'.get? S = some (setO C d (ledW w) ep' vals) → Q (.done (.ret .none)) { s with heap := h', toks := tk }) :
    wpAny (model prog w) A (Builtin.«set.__init__» ⟨[.ref S, .ref l], []⟩) Q E s := by
  obtain ⟨nm, hnm⟩ := hN.cut
  refine init_body hS hnm ?_
  obtain ⟨o, ho, hk⟩ := x
  cases hk with
  | seq T nl hT => exact upd_from hh hS ho hT rfl rfl hsm.up hsm.lt hsm.len h
  | set d' ep' hne =>
    have hO := ho
    have Y := setLike75 X ho
    unfold Builtin.Frozenset.updateFrom Builtin.Frozenset.isAnySet
    refine wpAny_bind (wpAny_bind (Y.inst.here (wpAny_pure ?_)))
    simp only [if_true]
    unfold Builtin.Frozenset.addrOf Builtin.Frozenset.merge
    refine wpAny_bind (wpAny_pure ?_)
    unfold setEpoch
    refine wpAny_bind (wpAny_bind (state_set hO (by have := hsm.len; omega) (wpAny_pure ?_)))
    exact merge_set hSl hS hO hsm hne fun h' ep' a b => h h' s.toks ep' a b
/-- a call of the method wrapper that `super().__init__` gave -/
theorem call_mw {u S : Addr} {C : Value} {d : Option Addr} {ep : Nat} {Q : Value → Shared → Prop} (hh : A.handled = none) (hu : s.heap.get? u = some (mwO S)) (X : (kf.heap_1 w.params).In s.heap) (x : Src w s.heap l vals) (hsm : Sm vals) (hSl : S ≠ l)
    (hS : s.heap.get? S = some (setO C d (ledW w) ep [])) (hN : NameLike (model prog w) s.heap S)
    (h : ∀ h' tk ep', (∀ b o, b ≠ S → s.heap.get? b = some o → h'.get? b = some o) → h'.get? S = some (setO C d (ledW w) ep' vals) → Q .none { s with heap := h', toks := tk }) :
    wpAny (model prog w) A (call (.ref u) [.ref l]) Q E s := by
  refine wpAny_call (codeAny_of_tree ?_)
  show wpAny _ A.in1 (callAny (.ref u) ⟨[.ref l], []⟩) _ _ s
  simp only [callAny]
  refine wpAny_bind (wpAny_load hu ?_)
  simp only [show (Value.type "method-wrapper" == Value.type "method" || Value.type "method-wrapper" == Value.type "builtin_function_or_method" || Value.type "method-wrapper" == Value.type "method-wrapper") = true by decide, if_true]
  show wpAny _ _ (if (Value.type "method-wrapper" != Value.type "method") = true then _ else _) _ _ _
  rw [if_pos (by decide)]
  unfold checkBoundCall
  simp only [sig_set_init, kind_set_init]
  show wpAny _ _ (do (if (Manifest.AttrKind.slot != Manifest.AttrKind.method && Manifest.AttrKind.slot != Manifest.AttrKind.classMethod) = true then _ else _ : Sem Unit); _) _ _ _
  rw [if_pos (by decide)]
  unfold Bind.checkArgs
  have f1 : (#[Value.builtin "set.__init__", Value.ref S] : Array Value)[1] = Value.ref S := rfl
  simp only [f1]
  refine wpAny_bind (wpAny_bind (m := Bind.printed "set" true _ _) (PyProof.Rows.printed_name (by decide) ?_))
  refine wpAny_bind (m := Bind.printed "*" false _ _) (printed_starL rfl hN fun short => ?_)
  have hrn : (Manifest.Receiver.self == Manifest.Receiver.none) = false := by decide
  have hn : (if (Manifest.Receiver.self == Manifest.Receiver.none) = true then [Value.ref S, Value.ref l].length else [Value.ref S, Value.ref l].length - 1) = 1 := by simp [hrn]
  rw [hn]
  simp only [List.map_nil]
  have hk1 : (Manifest.ParamKind.posOnly == Manifest.ParamKind.posOnly) = true := by decide
  have hk2 : (Manifest.ParamKind.posOnly == Manifest.ParamKind.posOrKw) = false := by decide
  have hk3 : (Manifest.ParamKind.posOnly == Manifest.ParamKind.varPos) = false := by decide
  have hc : Bind.check ⟨.positional, "set", "*", .self, [⟨"iterable", .posOnly, false⟩]⟩ "set" short 1 [] = pure () := by
    simp [Bind.check, Bind.checkCount, Bind.isPositional, hk1, hk2, hk3]
  rw [hc]
  refine wpAny_pure (wpAny_bind (wpAny_pure (wpAny_pure ?_)))
  refine ⟨plainId_quiet F.called_set.init.plain _, codeAny_builtin F.entry_set_init ?_⟩
  rw [Around.under_plainId F.called_set.init.plain _]
  exact x.init (by simpa using hh) X hsm hSl hS hN h
end
end
-- S16
section
set_option maxHeartbeats 4000000
section
variable {w : World} {A : Around} {E : Value → Shared → Prop} {s : Shared} {h₀ : Heap} {L : Addr} {m mg mb : Str → Option Value} {news : List (Addr × Obj)} {K : Frag} {p : Program} {loose : List Str} {mean : ExcName → Option Value} {x C f cc cda so : Addr}
/-- `super()` in a function that has other cells too -/
theorem super_node {body : List Stmt} {q : Str} {scope : Scope} {p0 p1 : Pos} {whole : Sem Value} {fd : FuncData} {ar : Arg} {vs : Array Value} {file : Str} {tf : Tok} {oc ccl clv : Value} {od cdd cld : Option Addr} {osl ccs csl : Array (Option Value)} {cdD : ClassData} {cl : List (Str × Addr)} {Q : Value → Shared → Prop} {ox : Obj}
    (F : Fr h₀ L s.heap m) (X₀ : K.In h₀) (N : News h₀ L s.heap news) (T : Top p loose mean mg mb h₀)
    (hf : K.lookup f = some ⟨oc, od, .func fd, osl⟩) (hp : (fd.params.posonlyargs ++ fd.params.args).head? = some ar) (hv : m ar.arg = some (.ref x)) (hx : s.heap.get? x = some ox) (hxc : ox.cls = .ref C) (hnc : ∀ c, ox.data ≠ .cls c)
    (hcode : K.lookup cda = some ⟨ccl, cdd, .fields vs, ccs⟩) (hvs : vs[2]? = some (.str file tf)) (hfile : ((prog.main.file : Str) == file) = true) (hclk : cl.lookup ("__class__" : Str) = some cc)
    (hcell : K.lookup cc = some ⟨clv, cld, .cell (some (.ref C)), csl⟩) (hD : clsIn K C = some cdD) (hsub : mroIn K C (.ref C) = some true) (hsuper : nsIn K mainGlobals "super" = some none)
    (hks : scope.names.lookup ("super" : Str) = some .globalImplicit) (hkc : scope.names.lookup ("__class__" : Str) = some .free) (hka : scope.names.lookup ar.arg = some .local) (hk : scope.kind = .function)
    (htop : (prog.main.scope.names.lookup ("super" : Str)).isSome = false) (hboot : bootBuiltins "super" = some (.type "super"))
    (h : ∀ so h', Fr h₀ L h' m → News h₀ L h' ((so, ks_superObj C x C) :: news) → (∀ b o, s.heap.get? b = some o → h'.get? b = some o) → Q (.ref so) { s with heap := h' }) :
    _root_.PySem.wpAt (model prog w) A (.func body (envX q scope L f (.ref cda) cl)) (attributeBase (.Call (.Name "super" p0) [] [] p1) "__init__" (envX q scope L f (.ref cda) cl) whole) Q E s := by
  have X : K.In s.heap := X₀.keeps F.keep
  obtain ⟨hh, g, d, t, os⟩ := s
  obtain ⟨oD, hD1, hD2⟩ : ∃ oD, hh.get? C = some oD ∧ oD.data = .cls cdD := by
    unfold clsIn at hD
    split at hD
    · rename_i c d cd' sl ho
      cases hD
      exact ⟨_, X _ _ ho, rfl⟩
    · cases hD
  refine ks_wpAt_super_base (env := envX q scope L f (.ref cda) cl) hks hkc (by decide) rfl (X _ _ hf) rfl hp rfl (X _ _ hcode) rfl hvs hfile htop ?_
  refine ks_loadName_global hk hks (loadGlobal_builtin (env := envX q scope L f (.ref cda) cl) (T.g.keeps F.keep) (mg_none_of X₀ T.g hsuper) (T.b.keeps F.keep) ((T.builtins _ (by decide +kernel)).trans hboot) ⟨rfl, ?_⟩)
  refine wpAny_loadName_free hk hkc hclk ⟨_, X _ _ hcell, rfl⟩ ?_
  refine wpAny_loadName_local hk hka F.ns hv ?_
  refine ks_wpAny_isType_cls hD1 hD2 ⟨rfl, ?_⟩
  refine ks_wpAny_call_super hD1 hD2 hx hxc hnc (looks_mroIn X hsub) (fun h' e k => ?_)
  obtain ⟨F', N', l'⟩ := ks_newsPush (s := ⟨hh, g, d, t, os⟩) F N rfl e k
  exact h _ _ F' N' k
theorem keeper_mw {u S : Addr} {Q : Keeper → Shared → Prop} (hu : s.heap.get? u = some (mwO S)) (h : Q .machine s) : wpAny (model prog w) A (keeperOf (.ref u)) Q E s := by
  unfold keeperOf
  refine wpAny_bind (wpAny_load hu ?_)
  simp only [show (Value.type "method-wrapper" != Value.type "method") = true by decide, show (Value.type "method-wrapper" == Value.type "builtin_function_or_method" || Value.type "method-wrapper" == Value.type "method-wrapper") = true by decide, if_true]
  exact wpAny_pure h
theorem News.upd {h h' : Heap} {x : Addr} {o o' : Obj} {g : Obj → List (Addr × Obj)} (N : News h₀ L h news) (U : UpdF x o news g) (k : ∀ b ob, b ≠ x → h.get? b = some ob → h'.get? b = some ob) (ho : h'.get? x = some o') : News h₀ L h' (g o') := by
  obtain ⟨pre, post, rfl, hg, a1, a2⟩ := U.split
  rw [hg]
  have hx := N (x, o) (List.mem_append_right _ (.head _))
  intro q hq
  rcases List.mem_append.mp hq with hq | hq
  · have := N q (List.mem_append_left _ hq)
    exact ⟨k _ _ (a1 q hq) this.1, this.2⟩
  · rcases List.mem_cons.mp hq with rfl | hq
    · exact ⟨ho, hx.2⟩
    · have := N q (List.mem_append_right _ (.tail _ hq))
      exact ⟨k _ _ (a2 q hq) this.1, this.2⟩
theorem Fr.upd {h h' : Heap} {x : Addr} (F : Fr h₀ L h m) (hL : x ≠ L) (hx : h₀.get? x = none) (k : ∀ b ob, b ≠ x → h.get? b = some ob → h'.get? b = some ob) : Fr h₀ L h' m := by
  obtain ⟨oL, es, ep, e, r⟩ := F.ns
  exact ⟨⟨oL, es, ep, k _ _ (Ne.symm hL) e, r⟩, fun b o e => k b o (fun q => by rw [q, hx] at e; cases e) (F.keep b o e), F.above⟩
/-- `super().__init__(candidates)` in a subclass of set -/
theorem super_stmt {body : List Stmt} {q : Str} {scope : Scope} {p0 p1 p2 p3 p4 p5 : Pos} {fd : FuncData} {ar : Arg} {vs : Array Value} {file : Str} {tf : Tok} {oc ccl clv : Value} {od cdd cld : Option Addr} {osl ccs csl : Array (Option Value)} {cdD : ClassData} {cl : List (Str × Addr)} {Q : Flow → Shared → Prop} {dx l : Addr} {y : Str} {vals : List (Nat × Tok)} {g : Obj → List (Addr × Obj)}
    (F : Fr h₀ L s.heap m) (X₀ : K.In h₀) (XK : (kf.heap_1 w.params).In h₀) (N : News h₀ L s.heap news) (T : Top p loose mean mg mb h₀) (hh : A.handled = none)
    (hf : K.lookup f = some ⟨oc, od, .func fd, osl⟩) (hp : (fd.params.posonlyargs ++ fd.params.args).head? = some ar) (hv : m ar.arg = some (.ref x)) (U : UpdF x (freshSet C dx (ledW w)) news g)
    (hcode : K.lookup cda = some ⟨ccl, cdd, .fields vs, ccs⟩) (hvs : vs[2]? = some (.str file tf)) (hfile : ((prog.main.file : Str) == file) = true) (hclk : cl.lookup ("__class__" : Str) = some cc)
    (hcell : K.lookup cc = some ⟨clv, cld, .cell (some (.ref C)), csl⟩) (hD : clsIn K C = some cdD) (hsub : mroIn K C (.ref C) = some true) (hset : mroIn K C (.type "set") = some true) (hsuper : nsIn K mainGlobals "super" = some none)
    (hks : scope.names.lookup ("super" : Str) = some .globalImplicit) (hkc : scope.names.lookup ("__class__" : Str) = some .free) (hka : scope.names.lookup ar.arg = some .local) (hk : scope.kind = .function)
    (htop : (prog.main.scope.names.lookup ("super" : Str)).isSome = false) (hboot : bootBuiltins "super" = some (.type "super"))
    (hop : nsIn K cStatics "thirdparty.any" = some none) (hsl : alongIn K "__init__" ((cdD.mro.dropWhile (· != .ref C)).drop 1) = some (some (.builtin "set.__init__"))) (hshort : shortIn K C = true)
    (hky : scope.names.lookup y = some .local) (hy : m y = some (.ref l)) (hsrc : Src w s.heap l vals) (hsm : Sm vals) (hxl : x ≠ l) (hdb : (y == ("__debug__" : Str)) = false) {pl : Sem Bool}
    (hint : interactive (envX q scope L f (.ref cda) cl) = false) (hsw : swapsWith (.Call (.Attribute (.Call (.Name "super" p0) [] [] p1) "__init__" p2) [.Name y p3] [] p4) none p5.line (envX q scope L f (.ref cda) cl) = pure false)
    (hev : eval (.Call (.Attribute (.Call (.Name "super" p0) [] [] p1) "__init__" p2) [.Name y p3] [] p4) (envX q scope L f (.ref cda) cl) = (do
      let ov ← attributeBase (.Call (.Name "super" p0) [] [] p1) "__init__" (envX q scope L f (.ref cda) cl) (eval (.Call (.Name "super" p0) [] [] p1) (envX q scope L f (.ref cda) cl))
      standAt p2.atName
      let (fn, first) ← holding [ov] (getMethod ov "__init__" pl)
      callWith p4 fn first (backTo p4 (starEach [.Name y p3] (envX q scope L f (.ref cda) cl))) []))
    (hst : starEach [.Name y p3] (envX q scope L f (.ref cda) cl) = (false, eval (.Name y p3) (envX q scope L f (.ref cda) cl)) :: starEach [] (envX q scope L f (.ref cda) cl))
    (h : ∀ h' tk ep', Fr h₀ L h' m → News h₀ L h' (g (setO (.ref C) (some dx) (ledW w) ep' vals)) → (∀ b o, b ≠ x → s.heap.get? b = some o → h'.get? b = some o) → Q .next { s with heap := h', toks := tk }) :
    _root_.PySem.wpAt (model prog w) A (.func body (envX q scope L f (.ref cda) cl)) (exec (.Expr (.Call (.Attribute (.Call (.Name "super" p0) [] [] p1) "__init__" p2) [.Name y p3] [] p4) p5) (envX q scope L f (.ref cda) cl)) Q E s := by
  have hm : (x, freshSet C dx (ledW w)) ∈ news := by
    obtain ⟨pre, post, rfl, _⟩ := U.split
    exact List.mem_append_right _ (.head _)
  have hxs : s.heap.get? x = some (freshSet C dx (ledW w)) := (N _ hm).1
  have hxL : x ≠ L := (N _ hm).2.1
  have hx0 : h₀.get? x = none := (N _ hm).2.2
  refine ks_wpAt_Expr_any (ks_wpAt_MethodCall ?_ hev) hint hsw
  refine super_node F X₀ N T hf hp hv hxs rfl (fun c e => by cases e) hcode hvs hfile hclk hcell hD hsub hsuper hks hkc hka hk htop hboot fun so h1 F1 N1 k1 => ?_
  have X1 : K.In h1 := X₀.keeps F1.keep
  have hxC : x ≠ C := by
    rintro rfl
    unfold clsIn at hD
    split at hD
    · rename_i c d cd' sl ho
      have := (X₀ _ _ ho)
      rw [hx0] at this; cases this
    · cases hD
  have hx1 : h1.get? x = some (freshSet C dx (ledW w)) := k1 _ _ hxs
  have hT1 : Looks (model prog w) h1 (typeOf (.ref x)) (.ref C) := (Looks.ld hx1).andThen .now
  have hI1 : Looks (model prog w) h1 (isInstance (.ref x) (.type "set")) true := hT1.andThen (looks_mroIn X1 hset)
  have hmro : Looks (model prog w) h1 (mroOf (.ref C)) cdD.mro := (looks_clsIn X1 hD).andThen .now
  obtain ⟨hs0, g0, d0, t0, os0⟩ := s
  refine getMethod_super_init (N1 _ (.head _)).1 (looks_opaque X1 hop) hmro rfl X1 hsl hxC hI1 ?_
  have k2 : ∀ b o, h1.get? b = some o → (h1.push (mwO x)).get? b = some o := fun b o e => Heap.get?_push_of_some _ e
  have F2 : Fr h₀ L (h1.push (mwO x)) m := F1.push _
  unfold callWith
  refine wpAny_bind (wpAny_holding ?_)
  have harg : wpAny (model prog w) A (evalArgs (.ref h1.objs.size) true (backTo p4 (starEach [.Name y p3] (envX q scope L f (.ref cda) cl))) []) (fun a s' => a = ⟨[.ref l], []⟩ ∧ s' = ⟨h1.push (mwO x), g0, d0, t0 + 1, os0⟩) E ⟨h1.push (mwO x), g0, d0, t0 + 1, os0⟩ := by
    exact evalArgs_plain (spliced_more (nameX_L F2 hy (spliced_none ⟨rfl, rfl⟩) hk hky hdb) hst)
  refine wpAny_mono harg (fun a s' ha => ?_) fun _ _ z => z
  obtain ⟨rfl, rfl⟩ := ha
  refine wpAny_bind (wpAny_standAt ?_)
  have hu : (h1.push (mwO x)).get? h1.objs.size = some (mwO x) := Heap.get?_push_size _ rfl
  refine wpAny_bind (keeper_mw (s := ⟨h1.push (mwO x), g0, d0, t0 + 1, os0⟩) hu ?_)
  refine wpAny_bind ?_
  refine call_mw (s := ⟨h1.push (mwO x), g0, d0, t0 + 1, os0⟩) hh hu (XK.keeps F2.keep) ((hsrc.keeps k1).keeps k2) hsm hxl (k2 _ _ hx1) (nameLike_cls (X1.keeps k2) hshort (hT1.keeps k2)) fun h' tk ep' hk' hg' => ?_
  refine wpAny_bind (wpAny_holding (wpAny_point ?_))
  have kk : ∀ b o, b ≠ x → hs0.get? b = some o → h'.get? b = some o := fun b o hb e => hk' b o hb (k2 _ _ (k1 _ _ e))
  exact wpAny_pure (h h' tk ep' (Mine.Fr.upd F hxL hx0 kk) (Mine.News.upd N U kk hg') kk)
end
end
-- S17
section
set_option maxHeartbeats 4000000
section
variable {M : Model} {A : Around} {E : Value → Shared → Prop} {s : Shared}
/-- a generator expression's code, whether it lies in the table or not -/
theorem genCode {env : Env} {c P : Addr} {ps : Array Value} {pos : Pos} {qualname : Str} {scope : Scope} {Q : Value → Shared → Prop} (hc : env.code = .ref c) (C : CodeHd s.heap c P) (hP : s.heap.get? P = some (tabObj ps)) (ht : TriplesOk ps.toList)
    (hQ : ∀ code h' tk ps', Heap.ExtBut P s.heap h' → s.heap.objs.size ≤ h'.objs.size → h'.get? P = some (tabObj ps') → TriplesOk ps'.toList → Q code { s with heap := h', toks := tk }) :
    wpAny M A (genexprCode env pos qualname scope) Q E s := by
  cases hnf : codeAmong pos ps.toList with
  | none =>
    refine wpAny_genexprCodeX hc (C.code hP ht) (C.tab hP) hnf fun c' h' tk hx h1 h2 _ _ htab _ => ?_
    refine hQ _ h' tk _ hx (by omega) htab.2 ?_
    rw [show (ps ++ #[rawInt pos.line, rawInt pos.col, Value.ref c']).toList = ps.toList ++ [rawInt pos.line, rawInt pos.col, .ref c'] by simp]
    exact TriplesOk_snoc _ _ _ _ ht
  | some cv =>
    obtain ⟨o, vs, file, tf, flags, tg, inF, text, tt, op, ho, hd, h11, h2, h7, h9, h10, hop, hpd, htr, hne⟩ := C.code hP ht
    unfold genexprCode codeAt
    rw [hc, if_neg (show ¬ ((Value.ref c == Value.none) = true) from Bool.false_ne_true)]
    refine wpAny_bind (wpAny_fieldsOf ho hd ?_)
    rw [h11]
    refine wpAny_bind (wpAny_fieldsOf hop hpd ?_)
    rw [hnf]
    exact wpAny_pure (hQ cv s.heap s.toks ps (Heap.ExtBut.refl _ _) (Nat.le_refl _) hP ht)
end
theorem passing_all (n : Nat) : passing (fun _ => true) n 0 = List.range n := by
  unfold passing; simp
theorem weakenS {w : World} {A : Around} {I : Addr} {fp wr : List Addr} {G : Array GenState → Array GenState → Prop} {n n' : Nat} {P P' : Nat → Value → Prop} {St : Nat → Shared → Prop} (W : WalksS prog w A I fp wr G n P St) (hn : n = n') (h : ∀ i v, P i v → P' i v) : WalksS prog w A I fp wr G n' P' St := by
  subst hn
  exact { W with item := fun i s Q E hi st hQ => W.item i s Q E hi st fun v s' p => hQ v s' (h _ _ p) }
theorem Src.notTab {w : World} {h : Heap} {l : Addr} {vals : List (Nat × Tok)} {ps : Array Value} (x : Src w h l vals) (e : h.get? l = some (tabObj ps)) : False := by
  obtain ⟨o, ho, hk⟩ := x
  rw [e] at ho
  cases hk <;> cases ho
section
variable {w : World} {A : Around} {E : Value → Shared → Prop} {s : Shared} {h₀ : Heap} {L a c P : Addr} {m mg mb : Str → Option Value} {cn : Str} {cs : Scope} {cl : List (Str × Addr)} {news : List (Addr × Obj)} {g : Obj → List (Addr × Obj)}
  {p : Program} {loose : List Str} {mean : ExcName → Option Value} {ps : Array Value} {l : Addr} {vals : List (Nat × Tok)}
/-- a generator expression over a source, its element by a quiet expression -/
theorem gen_src {elt : Expr} {x y : Str} {px py pos : Pos} {scope : Scope} {cl' : List (Str × Addr)} {Q : Value → Shared → Prop} (F₀ : Value → Prop)
    (F : Fr h₀ L s.heap m) (XK : (kf.heap_1 w.params).In h₀) (N : News h₀ L s.heap news) (T : Top p loose mean mg mb h₀) (C : CodeHd h₀ c P) (U : UpdF P (tabObj ps) news g) (ht : TriplesOk ps.toList) (hG : AllBare s.gens) (hh : A.handled = none) (hroom : A.depth < recursionLimit)
    (hco : scope.isCoroutine = false) (hclos : closureFor scope (envX cn cs L a (.ref c) cl) = pure cl') (hcell : ∀ y ∈ scope.names, y.2 ≠ .cell) (h0 : scope.names.lookup (".0" : Str) = some NameKind.local)
    (hx : scope.names.lookup x = some .local) (hkind : scope.kind = .function)
    (hck : cs.kind = .function) (hky : cs.names.lookup y = some .local) (hdb : (y == ("__debug__" : Str)) = false) (hy : m y = some (.ref l)) (hsrc : Src w s.heap l vals) (hsm : Sm vals)
    (helt : ∀ (C' : Addr) (code : Value) (A' : Around) E' (s₂ : Shared) m₂ e, e ∈ vals → s₂.heap.Ns C' m₂ → m₂ x = some (toV e) → (∀ b o, b ≠ P → s.heap.get? b = some o → s₂.heap.get? b = some o) →
      wpAny (model prog w) A' (eval elt (genEnv scope cl' C' code builtinsNs (envX cn cs L a (.ref c) cl))) (fun v s₃ => F₀ v ∧ Keeps s₂ s₃) E' s₂)
    (h : ∀ u s' ps', Aft s s' → Fr h₀ L s'.heap m → News h₀ L s'.heap (g (tabObj ps')) → TriplesOk ps'.toList → ∀ Kb, Gen prog w A Kb u vals.length (fun _ v => F₀ v) s' → L ≤ Kb → (∀ q ∈ g (tabObj ps'), q.1 ≤ Kb) → (∀ b o, b ≠ P → s.heap.get? b = some o → s'.heap.get? b = some o ∧ b ≤ Kb) → Q (.ref u) s')
    (hs : ∀ v, genFold (.Name y py) (envX cn cs L a (.ref c) cl) v = pure v) :
    wpAny (model prog w) A (eval (.GeneratorExp elt [⟨.Name x px, .Name y py, [], 0⟩] scope pos) (envX cn cs L a (.ref c) cl)) Q E s := by
  obtain ⟨own, rest, rfl, hgr, h1, h2⟩ := U.split
  have hm := N (P, tabObj ps) (List.mem_append_right _ (.head _))
  have hLs : L < s.heap.objs.size := F.ns.lt
  have hlP : l ≠ P := by rintro rfl; exact hsrc.notTab hm.1
  refine wpAny_GeneratorExp_walksQ hh hco hclos hcell h0 hx hkind hroom (nameX_L F hy (hsrc.iter (XK.keeps F.keep) hsm fun it St hfr W st => ?_) hck hky hdb) hs
  have hPI : P ≠ s.heap.objs.size := Nat.ne_of_lt (Heap.lt_size hm.1)
  have k₁ : ∀ b o, s.heap.get? b = some o → (s.heap.push it).get? b = some o := fun b o e => Heap.get?_push_of_some _ e
  have F₁ : Fr h₀ L (s.heap.push it) m := F.push _
  have hl₁ : (s.heap.push it).NoLimit := T.nolimit.keeps F₁.keep
  refine ⟨hl₁, genCode rfl (C.keeps F₁.keep) (k₁ _ _ hm.1) ht fun code h₃ tk₃ ps' hx₃ hsz₃ hP₃ ht₃ => ?_⟩
  have hgs := T.g.keeps F₁.keep
  obtain ⟨bm, ob, b1, b2, b3, b4, b5, b6⟩ := T.bmain
  have hgP : mainGlobals ≠ P := fun q => by
    obtain ⟨o, es, ep, e, hd, _⟩ := hgs
    rw [q, k₁ _ _ hm.1] at e; cases e; cases hd
  have hbP : bm ≠ P := fun q => by
    have e := F.keep _ _ b3
    rw [q, hm.1] at e; cases e; cases b4
  have hcP : cStatics ≠ P := fun e => by
    obtain ⟨_, hns, _⟩ := hl₁
    obtain ⟨o, es, ep, ho, hd, _⟩ := hns
    rw [e, k₁ _ _ hm.1] at ho; cases ho; cases hd
  have k₃ : ∀ b o, b ≠ P → s.heap.get? b = some o → h₃.get? b = some o := fun b o hb e => hx₃ b o hb (k₁ b o e)
  have F₃ : Fr h₀ L h₃ m := ⟨F₁.ns.extBut hx₃ hm.2.1.symm, fun b o e => hx₃ b o (fun q => by rw [q, hm.2.2] at e; cases e) (F₁.keep b o e), F₁.above⟩
  have hz1 : (s.heap.push it).objs.size = s.heap.objs.size + 1 := Heap.size_push ..
  have hsz₃' : s.heap.objs.size + 1 ≤ h₃.objs.size := hz1 ▸ (show (s.heap.push it).objs.size ≤ h₃.objs.size from hsz₃)
  have hcl : cStatics < s.heap.objs.size := by
    obtain ⟨_, hns, _⟩ := T.nolimit.keeps F.keep
    exact hns.lt
  refine wpAny_builtinsFor (hgs.extBut hx₃ hgP) b1 b2 (hx₃ _ _ hbP (k₁ _ _ (F.keep _ _ b3))) b4 b5 b6 ?_
  refine ⟨s.heap.objs.size, _, _, vals.length, oneOf vals, St, fun _ => true, fun _ v => F₀ v, rfl, W, (W A hh).frame _ _ _ st (fun b hb o e => hx₃ b o ?_ e), fun b hb => ?_, hl₁.extBut hx₃ hcP, ?_, fun href hhref => ⟨fun A' E' i v s₂ m₂ _ _ _ _ _ => ?_, fun A' E' i v s₂ m₂ _ hv _ hns hv2 hk2 => ?_⟩, fun u h₅ tk gs hgb hag hsz₅ hk₅ W' hat => ?_⟩
  · rintro rfl
    rcases List.mem_cons.mp hb with q | q
    · exact hPI q
    · exact hlP (List.mem_singleton.mp q).symm
  · show b < h₃.objs.size
    have hlt := hsrc.lt
    rcases List.mem_cons.mp hb with rfl | q
    · exact hsz₃'
    · rw [List.mem_singleton.mp q]; exact Nat.lt_trans hlt hsz₃'
  · intro q
    rw [List.mem_singleton.mp q] at hcl
    exact Nat.lt_irrefl _ hcl
  · rw [List.forIn_nil]
    exact wpAny_pure ⟨rfl, _, _, rfl, fun _ _ e => e⟩
  · obtain ⟨e, he, rfl⟩ := hv
    refine helt _ code A' E' s₂ m₂ e he hns hv2 fun b o hb eb => ?_
    refine hk2 b (List.mem_range.mpr (Nat.lt_of_lt_of_le (Heap.lt_size (k₃ b o hb eb)) (Nat.le_refl _))) (fun q => ?_) o (hhref b o (k₃ b o hb eb))
    rw [List.mem_singleton.mp q] at eb
    exact Nat.lt_irrefl _ (Heap.lt_size eb)
  · have k₅ : ∀ b o, b ≠ P → s.heap.get? b = some o → h₅.get? b = some o := fun b o hb e => hk₅ b o (k₃ b o hb e)
    have W2 := weakenS W' (n' := vals.length) (P' := fun _ v => F₀ v) (by rw [passing_all, List.length_range]) (fun j v hv => by obtain ⟨_, _, hv⟩ := hv; exact hv)
    refine h u _ ps' ⟨rfl, fun G => G.push hgb, by show s.gens.size ≤ (s.gens.push _).size; simp⟩ ⟨F₃.ns.keeps hk₅, fun b o e => hk₅ b o (F₃.keep b o e), F₃.above⟩ ?_ ht₃ (s.heap.objs.size - 1) ⟨_, _, _, _, W2, hat, (fun i s' st => st.1.typeIs), List.mem_cons_self, ?_, ?_⟩ (Nat.le_sub_one_of_lt hLs) ?_ (fun b o hb e => ⟨k₅ b o hb e, Nat.le_sub_one_of_lt (Heap.lt_size e)⟩)
    · rw [hgr]
      intro q hq
      rcases List.mem_append.mp hq with hq | hq
      · have := N q (List.mem_append_left _ hq)
        exact ⟨k₅ _ _ (h1 q hq) this.1, this.2⟩
      · rcases List.mem_cons.mp hq with rfl | hq
        · exact ⟨hk₅ _ _ hP₃, hm.2⟩
        · have := N q (List.mem_append_right _ (.tail _ hq))
          exact ⟨k₅ _ _ (h2 q hq) this.1, this.2⟩
    · intro b hb
      show b < h₅.objs.size
      rw [hsz₅]
      rcases List.mem_cons.mp hb with rfl | hb
      · exact Nat.lt_succ_self _
      · rcases List.mem_cons.mp hb with rfl | hb
        · exact Nat.lt_succ_of_lt hag
        · exact Nat.lt_succ_of_lt (Nat.lt_trans (List.mem_range.mp hb) hag)
    · intro b hb
      rcases List.mem_cons.mp hb with rfl | hb
      · show s.heap.objs.size - 1 < h₃.objs.size
        omega
      · rw [List.mem_singleton.mp hb]; exact Nat.sub_lt (Nat.lt_of_le_of_lt (Nat.zero_le _) hLs) Nat.one_pos
    · rw [hgr]
      intro q hq
      refine Nat.le_sub_one_of_lt ?_
      rcases List.mem_append.mp hq with hq | hq
      · exact Heap.lt_size (N q (List.mem_append_left _ hq)).1
      · rcases List.mem_cons.mp hq with rfl | hq
        · exact Heap.lt_size hm.1
        · exact Heap.lt_size (N q (List.mem_append_right _ (.tail _ hq))).1
end
section
variable {w : World} {A : Around} {E : Value → Shared → Prop} {s : Shared} {h₀ : Heap} {L u Kb n : Addr} {m : Str → Option Value} {news : List (Addr × Obj)}
theorem news_below {h h' : Heap} (N : News h₀ L h news) (hK : ∀ q ∈ news, q.1 ≤ Kb) (k : ∀ b o, b ≤ Kb → h.get? b = some o → h'.get? b = some o) : News h₀ L h' news :=
  fun q hq => ⟨k _ _ (hK q hq) (N q hq).1, (N q hq).2⟩
theorem all_true {Q : Value → Shared → Prop} (F : Fr h₀ L s.heap m) (N : News h₀ L s.heap news) (G : AllBare s.gens) (X : Gen prog w A Kb u n (fun _ v => v = .bool true) s) (hLK : L ≤ Kb) (hK : ∀ q ∈ news, q.1 ≤ Kb)
    (h : ∀ s', Aft s s' → Fr h₀ L s'.heap m → News h₀ L s'.heap news → (∀ b o, b ≤ Kb → s.heap.get? b = some o → s'.heap.get? b = some o) → Q (.bool true) s') : wpAny (model prog w) A (call (.builtin "all") [.ref u]) Q E s := by
  obtain ⟨fp, wr, g, St, W, hst, _, _, hfp, hwr⟩ := X
  have W := W.in4_1
  refine call_all_walkS (W.self 0 _ _ _ hst ⟨u, _, _, _, _, _, _, (fun _ => true), rfl, W, hst, (fun j v s Q E hv hQ => ?_), fun s' hm => ?_⟩)
  · subst hv; exact wpAny_truthy_bool hQ
  · have hk : ∀ b o, b ≤ Kb → s.heap.get? b = some o → s'.heap.get? b = some o := fun b o hb e => hm.heap b o (fun hmem => Nat.lt_irrefl _ (Nat.lt_of_lt_of_le (hwr b hmem) hb)) e
    have hz : s'.gens.size = s.gens.size := by
      rcases hm.gens with e | e
      · rw [e]
      · exact e.1.1
    rw [show (List.range n).all (fun _ => true) = true by simp]
    exact h s' ⟨hm.os, fun _ => G.movedS hm, Nat.le_of_eq hz.symm⟩ (F.moved hm fun b hb => Nat.lt_of_le_of_lt hLK (hwr b hb)) (news_below N hK hk) hk
theorem any_false {Q : Value → Shared → Prop} (F : Fr h₀ L s.heap m) (N : News h₀ L s.heap news) (G : AllBare s.gens) (X : Gen prog w A Kb u n (fun _ v => v = .bool false) s) (hLK : L ≤ Kb) (hK : ∀ q ∈ news, q.1 ≤ Kb)
    (h : ∀ s', Aft s s' → Fr h₀ L s'.heap m → News h₀ L s'.heap news → (∀ b o, b ≤ Kb → s.heap.get? b = some o → s'.heap.get? b = some o) → Q (.bool false) s') : wpAny (model prog w) A (call (.builtin "any") [.ref u]) Q E s := by
  obtain ⟨fp, wr, g, St, W, hst, _, _, hfp, hwr⟩ := X
  have W := W.in4_1
  refine call_any_walkS (W.self 0 _ _ _ hst ⟨u, _, _, _, _, _, _, (fun _ => false), rfl, W, hst, (fun j v s Q E hv hQ => ?_), fun s' hm => ?_⟩)
  · subst hv; exact wpAny_truthy_bool hQ
  · have hk : ∀ b o, b ≤ Kb → s.heap.get? b = some o → s'.heap.get? b = some o := fun b o hb e => hm.heap b o (fun hmem => Nat.lt_irrefl _ (Nat.lt_of_lt_of_le (hwr b hmem) hb)) e
    have hz : s'.gens.size = s.gens.size := by
      rcases hm.gens with e | e
      · rw [e]
      · exact e.1.1
    rw [show (List.range n).any (fun _ => false) = false by simp]
    exact h s' ⟨hm.os, fun _ => G.movedS hm, Nat.le_of_eq hz.symm⟩ (F.moved hm fun b hb => Nat.lt_of_le_of_lt hLK (hwr b hb)) (news_below N hK hk) hk
end
section
variable {w : World} {A : Around} {E : Value → Shared → Prop} {s : Shared} {env : Env}
/-- a for loop over any iterator, by a falling measure -/
theorem for_k {v : Str} {px pos : Pos} {iter : Expr} {body : List Stmt} {Q : Flow → Shared → Prop} (J : Addr → Nat → Shared → Prop)
    (h : wpAny (model prog w) A (eval iter env) (fun xv s₁ => wpAny (model prog w) A (pyIter xv) (fun it s₂ => ∃ I k, it = .ref I ∧ J I k s₂) E s₁) E s)
    (hstep : ∀ I k s', J I k s' → wpAny (model prog w) A (pyNext (.ref I)) (fun r s₁ => match r with
      | none => Q .next s₁
      | some y => wpAny (model prog w) A (storeName env v y) (fun _ s₂ => wpAny (model prog w) A (execs body env) (OwitFlow Q fun s₃ => ∃ k' < k, J I k' s₃) E s₂) E s₁) E s')
    (hs : ∀ x, foldedSetIterable iter env x = pure x := by intro _; rfl) (hE : PassesOwn (model prog w) A env E := by passes_own) :
    wpAny (model prog w) A (exec (.For (.Name v px) iter body [] pos) env) Q E s := by
  refine wpAny_For (wpAny_mono h (fun xv s₁ h₁ => wpAny_mono h₁ (fun it s₂ h₂ => ?_) fun _ _ z => z) fun _ _ z => z) hs
  obtain ⟨I, k, rfl, h₂⟩ := h₂
  refine codeAny_forLoop (R := fun r s' => match r with | .ok f => Q f s' | .error e => cameBackBy (model prog w) A env E e s') (fun k s' => J I k s') ?_ k h₂
  intro k s' hk
  refine wpAny_passesOwn hE (wpAny_mono (hstep I k s' hk) (fun r s₁ hr => ?_) fun _ _ z => z)
  cases r with
  | none => exact wpAny_execs_nil hr
  | some y =>
    refine wpAny_passesOwn hE (wpAny_assign_Name (wpAny_mono hr (fun _ s₂ h₂ => ?_) fun _ _ z => z))
    refine wpAny_passesOwn hE (wpAny_mono h₂ (fun f s₃ h₃ => ?_) fun _ _ z => z)
    cases f with
    | next => obtain ⟨k', hk', h₃⟩ := h₃; exact ⟨k', hk', h₃⟩
    | cont => obtain ⟨k', hk', h₃⟩ := h₃; exact ⟨k', hk', h₃⟩
    | brk => exact h₃
    | ret _ => exact h₃
end
end
-- S18
section
set_option maxHeartbeats 4000000
theorem Src.notNs {w : World} {h : Heap} {l : Addr} {vals : List (Nat × Tok)} {m : Str → Option Value} (x : Src w h l vals) (e : h.Ns l m) : False := by
  obtain ⟨o, es, ep, e1, e2, _⟩ := e
  obtain ⟨o', ho, hk⟩ := x
  rw [e1] at ho
  cases ho
  cases hk <;> cases e2
section
variable {w : World} {A : Around} {E : Value → Shared → Prop} {s : Shared} {h₀ : Heap} {L a : Addr} {m : Str → Option Value} {cn : Str} {cs : Scope} {cd : Value} {cl : List (Str × Addr)} {news : List (Addr × Obj)} {l : Addr} {vals : List (Nat × Tok)}
abbrev setM (m : Str → Option Value) (v : Str) (ov : Option Value) : Str → Option Value := fun z => if z = v then ov else m z
/-- `for v in y:` over a source, with a body that only looks -/
theorem for_src {v y : Str} {px py pos : Pos} {body : List Stmt} {Q : Flow → Shared → Prop}
    (F : Fr h₀ L s.heap m) (XK : (kf.heap_1 w.params).In h₀) (N : News h₀ L s.heap news) (hh : A.handled = none) (hck : cs.kind = .function) (hky : cs.names.lookup y = some .local) (hkv : cs.names.lookup v = some .local) (hdb : (y == ("__debug__" : Str)) = false)
    (hy : m y = some (.ref l)) (hsrc : Src w s.heap l vals) (hsm : Sm vals)
    (hbody : ∀ e ∈ vals, ∀ h' tk, Fr h₀ L h' (setM m v (some (toV e))) → News h₀ L h' news → wpAny (model prog w) A (execs body (envX cn cs L a cd cl)) (fun fl s₃ => fl = .next ∧ Keeps { s with heap := h', toks := tk } s₃) E { s with heap := h', toks := tk })
    (h : ∀ ov h' tk, Fr h₀ L h' (setM m v ov) → News h₀ L h' news → (∀ b o, b ≠ L → s.heap.get? b = some o → h'.get? b = some o) → Q .next { s with heap := h', toks := tk })
    (hs : ∀ x, foldedSetIterable (.Name y py) (envX cn cs L a cd cl) x = pure x := by intro _; rfl) (hE : PassesOwn (model prog w) A (envX cn cs L a cd cl) E := by passes_own) :
    wpAny (model prog w) A (exec (.For (.Name v px) (.Name y py) body [] pos) (envX cn cs L a cd cl)) Q E s := by
  have hlL : l ≠ L := by rintro rfl; exact hsrc.notNs F.ns
  have hlt := hsrc.lt
  have hLs : L < s.heap.objs.size := F.ns.lt
  have hm0 : setM m v (m v) = m := by
    funext z
    by_cases q : z = v
    · subst q; simp
    · simp [q]
  refine for_k (fun I k s' => ∃ (i : Nat) (ov : Option Value) (h' : Heap) (tk : Nat) (St : Nat → Heap → Prop), s' = { s with heap := h', toks := tk } ∧ k = vals.length + 1 - i ∧ i ≤ vals.length ∧ I = s.heap.objs.size ∧
    (∀ A' : Around, A'.handled = none → Walks prog w A' I [I, l] [I] vals.length (oneOf vals) St) ∧ St i h' ∧ Fr h₀ L h' (setM m v ov) ∧ News h₀ L h' news ∧ (∀ b o, b ≠ L → s.heap.get? b = some o → h'.get? b = some o)) ?_ ?_ hs hE
  · refine nameX_L F hy (hsrc.iter (XK.keeps F.keep) hsm fun it St hfr W st => ?_) hck hky hdb
    refine ⟨_, _, rfl, 0, m v, _, s.toks, St, rfl, rfl, Nat.zero_le _, rfl, W, st, by rw [hm0]; exact F.push _, fun q hq => ⟨Heap.get?_push_of_some _ (N q hq).1, (N q hq).2⟩, fun b o _ e => Heap.get?_push_of_some _ e⟩
  · rintro I k s' ⟨i, ov, h', tk, St, rfl, rfl, hi, rfl, W, st, F', N', hk⟩
    have nI : ∀ b o, s.heap.get? b = some o → b ∉ [s.heap.objs.size] := fun b o e q => by
      rw [List.mem_singleton.mp q] at e; exact Nat.lt_irrefl _ (Heap.lt_size e)
    have hnI : ∀ b, b < s.heap.objs.size → b ∉ [s.heap.objs.size] := fun b hb q => by
      rw [List.mem_singleton.mp q] at hb; exact Nat.lt_irrefl _ hb
    have hLI : L ∉ [s.heap.objs.size] := hnI L hLs
    have hnN : ∀ q ∈ news, q.1 ∉ [s.heap.objs.size] := fun q hq => hnI _ (Heap.lt_size (N q hq).1)
    have h0I : ∀ b o, h₀.get? b = some o → b ∉ [s.heap.objs.size] := fun b o e => nI b o (F.keep b o e)
    have upd : ∀ h₁ : Heap, (∀ b o, b ∉ [s.heap.objs.size] → h'.get? b = some o → h₁.get? b = some o) → Fr h₀ L h₁ (setM m v ov) ∧ News h₀ L h₁ news ∧ (∀ b o, b ≠ L → s.heap.get? b = some o → h₁.get? b = some o) := by
      intro h₁ k₁
      refine ⟨⟨F'.ns.at' fun o e => k₁ _ o hLI e, fun b o e => k₁ b o (h0I b o e) (F'.keep b o e), F'.above⟩, fun q hq => ⟨k₁ _ _ (hnN q hq) (N' q hq).1, (N' q hq).2⟩, fun b o hb e => k₁ b o (nI b o e) (hk b o hb e)⟩
    by_cases hlt : i < vals.length
    · refine (W A hh).item i _ _ _ hlt st fun x h₁ tk₁ hx st₁ k₁ => ?_
      obtain ⟨e, he, rfl⟩ := hx
      obtain ⟨F₁, N₁, hk₁⟩ := upd h₁ k₁
      dsimp only
      refine wpAny_storeName_local (env := envX cn cs L a cd cl) hkv F₁.ns (fun h₂ hn₂ hs₂ => ?_) (by show (cs.kind == .class || (cs.kind == .module && L != mainGlobals)) = false; rw [hck]; rfl)
      have F₂ : Fr h₀ L h₂ (setM m v (some (toV e))) := by
        have := F₁.set hn₂ hs₂
        have e2 : (fun y => if y = v then some (toV e) else setM m v ov y) = setM m v (some (toV e)) := by
          funext z
          show (if z = v then some (toV e) else if z = v then ov else m z) = if z = v then some (toV e) else m z
          by_cases q : z = v
          · rw [if_pos q, if_pos q]
          · rw [if_neg q, if_neg q, if_neg q]
        rw [e2] at this
        exact this
      have N₂ : News h₀ L h₂ news := N₁.set hs₂
      refine wpAny_mono (hbody e he h₂ _ F₂ N₂) (fun fl s₃ hf => ?_) fun _ _ z => z
      obtain ⟨rfl, h₃, tk₃, rfl, hk₃⟩ := hf
      refine ⟨vals.length + 1 - (i + 1), by omega, i + 1, some (toV e), h₃, tk₃, St, rfl, rfl, hlt, rfl, W, ?_, ⟨F₂.ns.keeps hk₃, fun b o e => hk₃ b o (F₂.keep b o e), F₂.above⟩, fun q hq => ⟨hk₃ _ _ (N₂ q hq).1, (N₂ q hq).2⟩, fun b o hb e => ?_⟩
      · refine (W A hh).frame _ _ _ st₁ fun b hb o eb => hk₃ b o (hs₂.extBut b o (fun q => ?_) eb)
        subst q
        rcases List.mem_cons.mp hb with q | q
        · exact hLI (List.mem_singleton.mpr q)
        · exact hlL (List.mem_singleton.mp q).symm
      · exact hk₃ b o (hs₂.extBut b o hb (hk₁ b o hb e))
    · obtain rfl : i = vals.length := by omega
      refine (W A hh).done _ _ _ st fun h₁ tk₁ k₁ => ?_
      obtain ⟨F₁, N₁, hk₁⟩ := upd h₁ k₁
      exact h ov h₁ tk₁ F₁ N₁ hk₁
end
end
-- S19
section
set_option maxHeartbeats 0
abbrev csO (w : World) (dx : Addr) (ep : Nat) (vals : List (Nat × Tok)) : Obj := setO (.ref 75) (some dx) (ledW w) ep vals
/-- the contract of CandidateSet(l, ..) -/
abbrev CsC (w : World) (l : Addr) (vals : List (Nat × Tok)) (kw : List (Str × Value)) : Prop :=
  ∀ (lo : List Str) (mean : ExcName → Option Value) (mg mb : Str → Option Value) (dp un : Nat) (gd : Option (List Code)) (cn : Str) (cs : Scope) (a : Addr) (ccd : Value) (cl : List (Str × Addr)) (outer : List Env) (A₀ : Around) (base h₀ : Heap) (L : Addr) (m : Str → Option Value) (s : Shared) (Q E : Value → Shared → Prop) (rest : List (Addr × Obj)) (gT : Obj → List (Addr × Obj)) (ps : Array Value),
    Below A₀ base outer h₀ → Fr h₀ L s.heap m → (kf.heap_1 w.params).In h₀ → News h₀ L s.heap rest → Top topProg lo mean mg mb h₀ → cs.kind = .function → dp + 20 < recursionLimit → un + 200 < cLine → AllBare s.gens →
    UpdF 52 (tabObj ps) rest gT → TriplesOk ps.toList → Src w s.heap l vals →
    (∀ x dx ep ps' s', Aft s s' → Fr h₀ L s'.heap m → News h₀ L s'.heap ((x, csO w dx ep vals) :: (dx, emptyDict) :: gT (tabObj ps')) → TriplesOk ps'.toList → (∀ p ∈ gT (tabObj ps'), p.1 < dx) → dx < x → Q (.ref x) s') →
    wpAny (model prog w) (ktrTop dp un gd cn cs L a ccd cl outer) (call (.ref 75) [.ref l] kw) Q E s
theorem upd_lt {d : Addr} {o o' : Obj} {rest : List (Addr × Obj)} {g : Obj → List (Addr × Obj)} {b : Addr} (U : UpdF d o rest g) (h : ∀ p ∈ rest, p.1 < b) : ∀ p ∈ g o', p.1 < b := by
  obtain ⟨own, r, rfl, hg, _⟩ := U.split
  rw [hg]
  intro p hp
  rcases List.mem_append.mp hp with hp | hp
  · exact h p (List.mem_append_left _ hp)
  · rcases List.mem_cons.mp hp with rfl | hp
    · exact h (d, o) (List.mem_append_right _ (.head _))
    · exact h p (List.mem_append_right _ (.tail _ hp))
theorem len_csK {w : World} {A : Around} {E : Value → Shared → Prop} {s : Shared} {h₀ : Heap} {L x : Addr} {m : Str → Option Value} {news : List (Addr × Obj)} {d : Option Addr} {ep : Nat} {es : List (Nat × Tok)} {Q : Value → Shared → Prop}
    (F : Fr h₀ L s.heap m) (X : (kf.heap_1 w.params).In h₀) (N : News h₀ L s.heap news) (hm : (x, setO (.ref 75) d (ledW w) ep es) ∈ news) (hl : es.length ≤ 4) (h : ∀ t tk, Q (.int es.length t) { s with toks := tk }) :
    wpAny (model prog w) A (call (.builtin "len") [.ref x]) Q E s := len_set (setLike75 (X.keeps F.keep) (N _ hm).1) (N _ hm).1 hl h
theorem len_srcK {w : World} {A : Around} {E : Value → Shared → Prop} {s : Shared} {h₀ : Heap} {L l : Addr} {m : Str → Option Value} {vals : List (Nat × Tok)} {Q : Value → Shared → Prop}
    (F : Fr h₀ L s.heap m) (X : (kf.heap_1 w.params).In h₀) (hsrc : Src w s.heap l vals) (hsm : Sm vals) (h : ∀ t tk, Q (.int vals.length t) { s with toks := tk }) :
    wpAny (model prog w) A (call (.builtin "len") [.ref l]) Q E s := hsrc.len (X.keeps F.keep) hsm h
theorem ne_same {w : World} {A : Around} {E : Value → Shared → Prop} {s : Shared} {n : Int} {t u : Tok} {Q : Value → Shared → Prop} (h : Q (.bool false) s) : wpAny (model prog w) A (compareOp .NotEq (.int n t) (.int n u)) Q E s :=
  PyProof.Rows.ne_int (by simpa using h)
def codeHdIn (K : Frag) (c P : Addr) : Bool := match K.lookup c with
  | some ⟨.type cls, _, .fields vs, _⟩ => cls == "code" && (vs[11]? == some (.ref P)) && (vs.getD 11 .none == .ref P) && (match vs.getD 18 .none with | .str _ _ => true | _ => false) && (match vs.getD 7 .none with | .int _ _ => true | _ => false) &&
      (match vs.getD 9 .none with | .bool _ => true | _ => false) && (match vs.getD 10 .none with | .int _ _ => true | _ => false) && c != P
  | _ => false
theorem codeHd_of {K : Frag} {h : Heap} {c P : Addr} (X : K.In h) (e : codeHdIn K c P = true) : CodeHd h c P := by
  unfold codeHdIn at e
  split at e
  · rename_i cls od vs sl ho
    simp only [Bool.and_eq_true, beq_iff_eq, bne_iff_ne] at e
    obtain ⟨⟨⟨⟨⟨⟨⟨e1, e2⟩, e3⟩, e4⟩, e5⟩, e6⟩, e7⟩, e8⟩ := e
    cases h18 : vs.getD 18 .none <;> rw [h18] at e4 <;> try cases e4
    cases h7 : vs.getD 7 .none <;> rw [h7] at e5 <;> try cases e5
    cases h9 : vs.getD 9 .none <;> rw [h9] at e6 <;> try cases e6
    cases h10 : vs.getD 10 .none <;> rw [h10] at e7 <;> try cases e7
    subst e1
    exact ⟨_, vs, _, _, _, _, _, _, _, X _ _ ho, rfl, rfl, e2, e3, h18, h7, h9, h10, e8⟩
  · cases e
theorem codeHd56 {p : Params} {h : Heap} (X : (kf.heap_1 p).In h) : CodeHd h 56 52 := codeHd_of X (by kernel_rfl)
theorem codeHd84 {p : Params} {h : Heap} (X : (kf.heap_1 p).In h) : CodeHd h 84 80 := codeHd_of X (by kernel_rfl)
theorem codeHd92 {p : Params} {h : Heap} (X : (kf.heap_1 p).In h) : CodeHd h 92 88 := codeHd_of X (by kernel_rfl)
section
variable {w : World} {A : Around} {E : Value → Shared → Prop} {s : Shared} {scope : Scope} {cl : List (Str × Addr)} {C : Addr} {code : Value} {bi : Addr} {env : Env} {m : Str → Option Value} {x z : Str} {p1 p2 p3 : Pos} {n k : Nat} {t u : Tok}
theorem elt_ge0 (hk : scope.kind = .function) (hx : scope.names.lookup x = some .local) (hd : (x == ("__debug__" : Str)) = false) (hn : s.heap.Ns C m) (hv : m x = some (.int (n : Int) t)) :
    wpAny (model prog w) A (eval (.Compare (.Name x p1) [.GtE] [.Constant (.int 0) k p2] p3) (genEnv scope cl C code bi env)) (fun v s₃ => v = .bool true ∧ Keeps s s₃) E s := by
  refine wpAny_Compare1 (ldG (cenv := genEnv scope cl C code bi env) hn hv (wpAny_Constant_int (PyProof.Rows.ge_int ?_)) hk hx hd)
  exact ⟨by rw [decide_eq_true (by omega)], _, _, rfl, fun _ _ e => e⟩
theorem elt_ge_cell {c : Addr} {o : Obj} {j : Int} (hk : scope.kind = .function) (hx : scope.names.lookup x = some .local) (hd : (x == ("__debug__" : Str)) = false) (hn : s.heap.Ns C m) (hv : m x = some (.int (n : Int) t))
    (hz : scope.names.lookup z = some .free) (hzd : (z == ("__debug__" : Str)) = false) (hzc : (z == ("__classdict__" : Str)) = false) (hcl : cl.lookup z = some c) (ho : s.heap.get? c = some o) (hod : o.data = .cell (some (.int j u))) (hlt : (n : Int) < j) :
    wpAny (model prog w) A (eval (.Compare (.Name x p1) [.GtE] [.Name z p2] p3) (genEnv scope cl C code bi env)) (fun v s₃ => v = .bool false ∧ Keeps s s₃) E s := by
  refine wpAny_Compare1 (ldG (cenv := genEnv scope cl C code bi env) hn hv (wpAny_Name (wpAny_loadName_free (env := genEnv scope cl C code bi env) hk hz hcl ⟨o, ho, hod⟩ (PyProof.Rows.ge_int ?_) hzc) hzd) hk hx hd)
  exact ⟨by rw [decide_eq_false (by omega)], _, _, rfl, fun _ _ e => e⟩
end
end
-- S21
section
set_option maxHeartbeats 0
local macro_rules | `(tactic| k_room) => `(tactic| ktr_room)
local macro_rules | `(tactic| k_units) => `(tactic| ktr_units)
local macro_rules | `(tactic| k_enter) => `(tactic| (refine' code_def ?k1 ?k2 ?k3 ?k4 ?k5 ?kA ?kF ?kK ?k6 ?k7 ?k8 ?k9 ?kB ?_ ?c2 ?c3 ?c4 ?c5; (case kA => exact rfl); (case kF => exact rfl); (case kK => first | exact rfl | assumption); (case k1 => k_asm); (case k2 => k_asm); (case k3 => k_asm); (case k4 => k_asm); (case k5 => k_asm); (case k6 => k_is); (case k7 => k_is); (case k8 => ktr_room); (case k9 => first | exact BindsTo.of_eq rfl | exact binds_K (by k_in) rfl (by k_is) rfl rfl rfl); (case c5 => decide); (case kB => exact locs rfl); (case c2 => exact rfl); (case c3 => exact rfl); (case c4 => exact rfl); k_whole; intro g' L' h' FG' F' N' B' X' T'; (try dsimp only); (try k_fold)))
local macro_rules | `(tactic| k_mem) => `(tactic| first | exact List.Mem.head _ | assumption | (refine' List.Mem.tail _ ?_; k_mem))

local macro_rules | `(tactic| fail "hook call builtin:len") => `(tactic| (k_here; k_dflt (first
  | (refine len_csK (by k_asm) (by k_asm) (by k_asm) (by k_mem) (Nat.le_succ_of_le (Sm.len (by assumption))) ?_; intro t' tk')
  | (refine len_srcK (by k_asm) (by k_asm) (by assumption) (by assumption) ?_; intro t' tk'))))
local macro_rules | `(tactic| fail "hook compareOp NotEq int int") => `(tactic| (refine ne_same ?_))
local macro_rules | `(tactic| fail "hook exec For Name Name cons nil") => `(tactic| (k_here; (refine Held.out ?_)))
local macro_rules | `(tactic| fail "hook Keeps") => `(tactic| exact ⟨_, _, rfl, fun _ _ e => e⟩)
theorem upd_self {d : Addr} {o o' : Obj} {rest : List (Addr × Obj)} {g : Obj → List (Addr × Obj)} (U : UpdF d o rest g) : UpdF d o' (g o') g := by
  induction U with
  | head h => exact .head h
  | tail h _ ih => exact .tail h ih
theorem cs_makeN (w : World) (l : Addr) (vals : List (Nat × Tok)) (hsm : Sm vals) (j : Int) (tj : Tok) (hlt : ∀ e ∈ vals, (e.1 : Int) < j) : CsC w l vals [(Str.ofString "num_cand", .int j tj)] := by
  intro lo mean mg mb dp un gd cn cs a ccd cl outer A₀ base h₀ L m s Q E rest gT ps B F X N T hk hd hu hG U ht hsrc hret
  refine wpAny_call ?_
  refine make_setN F N (X.keeps F.keep) (C := 75) (fI := 57) (by kernel_rfl) (by k_is) (by k_is) fun x dx h1 F1 N1 l1 l2 k1 => ?_
  have hsrc1 : Src w h1 l vals := hsrc.keeps k1
  have hxl0 : x ≠ l := by
    rintro rfl
    have e1 := (N1 _ (.head _)).1
    obtain ⟨o, ho, hko⟩ := hsrc1
    rw [e1] at ho
    cases hko with
    | seq T nl hT => cases ho
    | set d ep hne =>
      have e2 := congrArg (fun o : Option Obj => o.map (·.data)) ho
      simp at e2
      exact hne e2.1
  refine enter_cell3 (K := kf.heap_1 w.params) (s := { s with heap := h1 }) (x := "self") (y := "candidates") (z := "num_cand") (vx := .ref x) (vy := .ref l) (vz := .int j tj) (by k_asm) (by k_asm) (by k_asm) (by k_asm) (by k_asm) rfl rfl ?kK rfl ?cd ?room ?bind ?cells ?push ?hx ?hy ?hz ?h ?hco ?hgen ?hk
  case kK => first | exact rfl | assumption
  case cd => k_is
  case room => ktr_room
  case bind => first | exact BindsTo.of_eq rfl | exact binds_K (by k_in) rfl (by k_is) rfl rfl rfl
  case cells => intro n; rfl
  case push => intro h; rfl
  case hx => rfl
  case hy => rfl
  case hz => rfl
  case hco => rfl
  case hgen => rfl
  case hk => rfl
  intro g₁ L' h₁ tk o' FG F' N' hd' B' X' T' lt' hk₁
  obtain ⟨oc', od', odt', osl'⟩ := o'
  dsimp only at hd'
  subst hd'
  refine ks_wpAt_execs_cons ?_
  have hx52 : (52 : Nat) < dx := by
    obtain ⟨own, r, rfl, _⟩ := U.split
    exact l1 (52, tabObj ps) (List.mem_append_right _ (.head _))
  have lx : ∀ p ∈ rest, p.1 < x := fun p hp => Nat.lt_trans (l1 p hp) l2
  have hxL : x < L' := lt' _ (.head _)
  refine' super_stmt (x := x) (C := 75) (cc := 43) (dx := dx) (l := l) (vals := vals) (g := fun o => (L' + 1, ({ cls := oc', dict := od', data := .cell (some (.int j tj)), slots := osl' } : Obj)) :: (x, o) :: (dx, emptyDict) :: rest) F' X' X' N' T' ?hh ?hf ?hp ?hv ?U ?hcode ?hvs ?hfile ?hclk ?hcell ?hD ?hsub ?hset ?hsuper ?hks ?hkc ?hka ?hk ?htop ?hboot ?hop ?hsl ?hshort ?hky ?hy ?hsrc hsm ?hxl ?hdb ?hint ?hsw ?hev ?hst ?hcont
  case hh => rfl
  case hf => exact rfl
  case hp => rfl
  case hv => rfl
  case U => exact .tail (Nat.ne_of_gt (Nat.lt_succ_of_lt hxL)) (.head fun p hp => by
    rcases List.mem_cons.mp hp with rfl | hp
    · exact Nat.ne_of_lt l2
    · exact Nat.ne_of_lt (lx p hp))
  case hcode => k_is
  case hvs => rfl
  case hfile => first | rfl | decide +kernel
  case hclk => rfl
  case hcell => k_is
  case hD => k_is
  case hsub => k_is
  case hset => k_is
  case hsuper => k_is
  case hks => rfl
  case hkc => rfl
  case hka => rfl
  case hk => rfl
  case htop => decide +kernel
  case hboot => first | boot_by_name | rfl | kernel_rfl
  case hop => k_is
  case hsl => kernel_rfl
  case hshort => kernel_rfl
  case hky => rfl
  case hy => rfl
  case hsrc => exact hsrc1.keeps hk₁
  case hxl => exact hxl0
  case hdb => decide
  case hint => rfl
  case hsw => rfl
  case hev => rfl
  case hst => rfl
  intro h₂ tk₂ ep₂ F₂ N₂ k₂
  dsimp only at N₂ ⊢
  refine wpAt_of_wpAny ?_
  have hxl : x ≠ l := hxl0
  have hsrc2 : Src w h₂ l vals := (hsrc1.keeps hk₁).at fun o e => k₂ _ o hxl.symm e
  k_steps
  refine Held.mk ?_
  refine for_src F₂ X' N₂ rfl rfl rfl rfl (by decide) rfl hsrc2 hsm ?body ?cont
  case body =>
    intro e he h' tk' F' N'
    k_steps
  intro ov h₃ tk₃ F₃ N₃ k₃
  have n3 : dx ≠ 52 := Nat.ne_of_gt hx52
  have n2 : x ≠ 52 := Nat.ne_of_gt (Nat.lt_trans hx52 l2)
  have n1 : L' + 1 ≠ 52 := Nat.ne_of_gt (Nat.lt_succ_of_lt (Nat.lt_trans (Nat.lt_trans hx52 l2) hxL))
  have hlL : l ≠ L' := by rintro rfl; exact hsrc2.notNs F₂.ns
  have hsrc3 : Src w h₃ l vals := hsrc2.at fun o e => k₃ _ o hlL e
  k_steps
  refine gen_src (fun v => v = .bool true) F₃ X' N₃ T' (codeHd56 X') (.tail n1 (.tail n2 (.tail n3 U))) ht hG rfl ?room rfl rfl (by decide) rfl rfl rfl rfl rfl (by decide) rfl hsrc3 hsm ?elt ?cont2 (fun _ => rfl)
  case room => ktr_room
  case elt =>
    intro C' code A' E' s₂ m₂ e he hn hm hkk
    exact elt_ge0 rfl rfl (by decide) hn hm
  intro u s₄ ps' hA4 F₄ N₄ ht' Kb hGen hLK hKN k4
  have hG4 : AllBare s₄.gens := hA4.gens hG
  k_steps
  refine all_true F₄ N₄ hG4 hGen hLK hKN fun s₅ hA5 F₅ N₅ k5 => ?_
  have hG5 : AllBare s₅.gens := hA5.gens hG4
  have hlP : l ≠ 52 := by
    rintro rfl
    exact hsrc.notTab (N _ (by obtain ⟨own, r, rfl, _⟩ := U.split; exact List.mem_append_right _ (.head _))).1
  have hsrc5 : Src w s₅.heap l vals := hsrc3.at fun o e => k5 _ o (k4 _ o hlP e).2 (k4 _ o hlP e).1
  iterate 7 walk1
  refine nameX_C N₅ rfl (.head _) rfl ?_ rfl rfl (by decide)
  k_steps
  refine gen_src (fun v => v = .bool false) F₅ X' N₅ T' (codeHd56 X') (.tail n1 (.tail n2 (.tail n3 (upd_self U)))) ht' hG5 rfl ?room2 rfl rfl (by decide) rfl rfl rfl rfl rfl (by decide) rfl (hsrc5) hsm ?elt2 ?cont3 (fun _ => rfl)
  case room2 => ktr_room
  case elt2 =>
    intro C' code A' E' s₂ m₂ e he hn hm hkk
    exact elt_ge_cell rfl rfl (by decide) hn hm rfl (by decide) (by decide) rfl (hkk _ _ n1 (N₅ _ (.head _)).1) rfl (hlt e he)
  intro u6 s₆ ps6 hA6 F₆ N₆ ht6 Kb6 hGen6 hLK6 hKN6 k6
  have hG6 : AllBare s₆.gens := hA6.gens hG5
  k_steps
  refine any_false F₆ N₆ hG6 hGen6 hLK6 hKN6 fun s₇ hA7 F₇ N₇ k7 => ?_
  k_steps
  rename Fr _ _ _ _ => F8
  rename News _ _ _ _ => N8
  exact hret x dx _ ps6 s₇ ⟨(hA7.os.trans hA6.os).trans (hA5.os.trans hA4.os), fun G => hA7.gens (hA6.gens (hA5.gens (hA4.gens G))), Nat.le_trans (Nat.le_trans hA4.size hA5.size) (Nat.le_trans hA6.size hA7.size)⟩ F8 (fun q hq => N8 q (.tail _ hq)) ht6 (upd_lt U l1) l2
end
-- S22
section
set_option maxHeartbeats 0
local macro_rules | `(tactic| k_room) => `(tactic| ktr_room)
local macro_rules | `(tactic| k_units) => `(tactic| ktr_units)
local macro_rules | `(tactic| k_enter) => `(tactic| (refine' code_def ?k1 ?k2 ?k3 ?k4 ?k5 ?kA ?kF ?kK ?k6 ?k7 ?k8 ?k9 ?kB ?_ ?c2 ?c3 ?c4 ?c5; (case kA => exact rfl); (case kF => exact rfl); (case kK => first | exact rfl | assumption); (case k1 => k_asm); (case k2 => k_asm); (case k3 => k_asm); (case k4 => k_asm); (case k5 => k_asm); (case k6 => k_is); (case k7 => k_is); (case k8 => ktr_room); (case k9 => first | exact BindsTo.of_eq rfl | exact binds_K (by k_in) rfl (by k_is) rfl rfl rfl); (case c5 => decide); (case kB => exact locs rfl); (case c2 => exact rfl); (case c3 => exact rfl); (case c4 => exact rfl); k_whole; intro g' L' h' FG' F' N' B' X' T'; (try dsimp only); (try k_fold)))
local macro_rules | `(tactic| k_mem) => `(tactic| first | exact List.Mem.head _ | assumption | (refine' List.Mem.tail _ ?_; k_mem))

local macro_rules | `(tactic| fail "hook call builtin:len") => `(tactic| (k_here; k_dflt (first
  | (refine len_csK (by k_asm) (by k_asm) (by k_asm) (by k_mem) (Nat.le_succ_of_le (Sm.len (by assumption))) ?_; intro t' tk')
  | (refine len_srcK (by k_asm) (by k_asm) (by assumption) (by assumption) ?_; intro t' tk'))))
local macro_rules | `(tactic| fail "hook compareOp NotEq int int") => `(tactic| (refine ne_same ?_))
local macro_rules | `(tactic| fail "hook exec For Name Name cons nil") => `(tactic| (k_here; (refine Held.out ?_)))
local macro_rules | `(tactic| fail "hook Keeps") => `(tactic| exact ⟨_, _, rfl, fun _ _ e => e⟩)
theorem cs_makeK (w : World) (l : Addr) (vals : List (Nat × Tok)) (hsm : Sm vals) : CsC w l vals [(Str.ofString "num_cand", .none)] := by
  intro lo mean mg mb dp un gd cn cs a ccd cl outer A₀ base h₀ L m s Q E rest gT ps B F X N T hk hd hu hG U ht hsrc hret
  refine wpAny_call ?_
  refine make_setN F N (X.keeps F.keep) (C := 75) (fI := 57) (by kernel_rfl) (by k_is) (by k_is) fun x dx h1 F1 N1 l1 l2 k1 => ?_
  have hsrc1 : Src w h1 l vals := hsrc.keeps k1
  have hxl0 : x ≠ l := by
    rintro rfl
    have e1 := (N1 _ (.head _)).1
    obtain ⟨o, ho, hko⟩ := hsrc1
    rw [e1] at ho
    cases hko with
    | seq T nl hT => cases ho
    | set d ep hne =>
      have e2 := congrArg (fun o : Option Obj => o.map (·.data)) ho
      simp at e2
      exact hne e2.1
  refine enter_cell3 (K := kf.heap_1 w.params) (s := { s with heap := h1 }) (x := "self") (y := "candidates") (z := "num_cand") (vx := .ref x) (vy := .ref l) (vz := .none) (by k_asm) (by k_asm) (by k_asm) (by k_asm) (by k_asm) rfl rfl ?kK rfl ?cd ?room ?bind ?cells ?push ?hx ?hy ?hz ?h ?hco ?hgen ?hk
  case kK => first | exact rfl | assumption
  case cd => k_is
  case room => ktr_room
  case bind => first | exact BindsTo.of_eq rfl | exact binds_K (by k_in) rfl (by k_is) rfl rfl rfl
  case cells => intro n; rfl
  case push => intro h; rfl
  case hx => rfl
  case hy => rfl
  case hz => rfl
  case hco => rfl
  case hgen => rfl
  case hk => rfl
  intro g₁ L' h₁ tk o' FG F' N' hd' B' X' T' lt' hk₁
  obtain ⟨oc', od', odt', osl'⟩ := o'
  dsimp only at hd'
  subst hd'
  refine ks_wpAt_execs_cons ?_
  have hx52 : (52 : Nat) < dx := by
    obtain ⟨own, r, rfl, _⟩ := U.split
    exact l1 (52, tabObj ps) (List.mem_append_right _ (.head _))
  have lx : ∀ p ∈ rest, p.1 < x := fun p hp => Nat.lt_trans (l1 p hp) l2
  have hxL : x < L' := lt' _ (.head _)
  refine' super_stmt (x := x) (C := 75) (cc := 43) (dx := dx) (l := l) (vals := vals) (g := fun o => (L' + 1, ({ cls := oc', dict := od', data := .cell (some .none), slots := osl' } : Obj)) :: (x, o) :: (dx, emptyDict) :: rest) F' X' X' N' T' ?hh ?hf ?hp ?hv ?U ?hcode ?hvs ?hfile ?hclk ?hcell ?hD ?hsub ?hset ?hsuper ?hks ?hkc ?hka ?hk ?htop ?hboot ?hop ?hsl ?hshort ?hky ?hy ?hsrc hsm ?hxl ?hdb ?hint ?hsw ?hev ?hst ?hcont
  case hh => rfl
  case hf => exact rfl
  case hp => rfl
  case hv => rfl
  case U => exact .tail (Nat.ne_of_gt (Nat.lt_succ_of_lt hxL)) (.head fun p hp => by
    rcases List.mem_cons.mp hp with rfl | hp
    · exact Nat.ne_of_lt l2
    · exact Nat.ne_of_lt (lx p hp))
  case hcode => k_is
  case hvs => rfl
  case hfile => first | rfl | decide +kernel
  case hclk => rfl
  case hcell => k_is
  case hD => k_is
  case hsub => k_is
  case hset => k_is
  case hsuper => k_is
  case hks => rfl
  case hkc => rfl
  case hka => rfl
  case hk => rfl
  case htop => decide +kernel
  case hboot => first | boot_by_name | rfl | kernel_rfl
  case hop => k_is
  case hsl => kernel_rfl
  case hshort => kernel_rfl
  case hky => rfl
  case hy => rfl
  case hsrc => exact hsrc1.keeps hk₁
  case hxl => exact hxl0
  case hdb => decide
  case hint => rfl
  case hsw => rfl
  case hev => rfl
  case hst => rfl
  intro h₂ tk₂ ep₂ F₂ N₂ k₂
  dsimp only at N₂ ⊢
  refine wpAt_of_wpAny ?_
  have hxl : x ≠ l := hxl0
  have hsrc2 : Src w h₂ l vals := (hsrc1.keeps hk₁).at fun o e => k₂ _ o hxl.symm e
  k_steps
  refine Held.mk ?_
  refine for_src F₂ X' N₂ rfl rfl rfl rfl (by decide) rfl hsrc2 hsm ?body ?cont
  case body =>
    intro e he h' tk' F' N'
    k_steps
  intro ov h₃ tk₃ F₃ N₃ k₃
  have n3 : dx ≠ 52 := Nat.ne_of_gt hx52
  have n2 : x ≠ 52 := Nat.ne_of_gt (Nat.lt_trans hx52 l2)
  have n1 : L' + 1 ≠ 52 := Nat.ne_of_gt (Nat.lt_succ_of_lt (Nat.lt_trans (Nat.lt_trans hx52 l2) hxL))
  have hlL : l ≠ L' := by rintro rfl; exact hsrc2.notNs F₂.ns
  have hsrc3 : Src w h₃ l vals := hsrc2.at fun o e => k₃ _ o hlL e
  k_steps
  refine gen_src (fun v => v = .bool true) F₃ X' N₃ T' (codeHd56 X') (.tail n1 (.tail n2 (.tail n3 U))) ht hG rfl ?room rfl rfl (by decide) rfl rfl rfl rfl rfl (by decide) rfl hsrc3 hsm ?elt ?cont2 (fun _ => rfl)
  case room => ktr_room
  case elt =>
    intro C' code A' E' s₂ m₂ e he hn hm hkk
    exact elt_ge0 rfl rfl (by decide) hn hm
  intro u s₄ ps' hA4 F₄ N₄ ht' Kb hGen hLK hKN k4
  have hG4 : AllBare s₄.gens := hA4.gens hG
  k_steps
  refine all_true F₄ N₄ hG4 hGen hLK hKN fun s₅ hA5 F₅ N₅ k5 => ?_
  have hG5 : AllBare s₅.gens := hA5.gens hG4
  iterate 7 walk1
  refine nameX_C N₅ rfl (.head _) rfl ?_ rfl rfl (by decide)
  k_steps
  rename Fr _ _ _ _ => F6
  rename News _ _ _ _ => N6
  exact hret x dx _ ps' s₅ ⟨hA5.os.trans hA4.os, fun G => hA5.gens (hA4.gens G), Nat.le_trans hA4.size hA5.size⟩ F6 (fun q hq => N6 q (.tail _ hq)) ht' (upd_lt U l1) l2
end
-- S23
section
set_option maxHeartbeats 0
local macro_rules | `(tactic| k_room) => `(tactic| ktr_room)
local macro_rules | `(tactic| k_units) => `(tactic| ktr_units)
local macro_rules | `(tactic| k_enter) => `(tactic| (refine' code_def ?k1 ?k2 ?k3 ?k4 ?k5 ?kA ?kF ?kK ?k6 ?k7 ?k8 ?k9 ?kB ?_ ?c2 ?c3 ?c4 ?c5; (case kA => exact rfl); (case kF => exact rfl); (case kK => first | exact rfl | assumption); (case k1 => k_asm); (case k2 => k_asm); (case k3 => k_asm); (case k4 => k_asm); (case k5 => k_asm); (case k6 => k_is); (case k7 => k_is); (case k8 => ktr_room); (case k9 => first | exact BindsTo.of_eq rfl | exact binds_K (by k_in) rfl (by k_is) rfl rfl rfl); (case c5 => decide); (case kB => exact locs rfl); (case c2 => exact rfl); (case c3 => exact rfl); (case c4 => exact rfl); k_whole; intro g' L' h' FG' F' N' B' X' T'; (try dsimp only); (try k_fold)))
local macro_rules | `(tactic| k_mem) => `(tactic| first | exact List.Mem.head _ | assumption | (refine' List.Mem.tail _ ?_; k_mem))

theorem under_units (A : Around) (C : Addr) (vals : List Value) (kw : List (Str × Value)) : (A.under (.builtin "type.__call__" ⟨.ref C :: vals, kw⟩)).units = A.units + 1 := rfl
/-- a voter's attributes -/
abbrev voD (w : World) (x : Addr) (wt : Int) (t1 t2 tw : Tok) : Obj :=
  dictOf [⟨PyData.keyHash w.params (Str.ofString "approved"), .str (Str.ofString "approved") t1, .ref x⟩, ⟨PyData.keyHash w.params (Str.ofString "weight"), .str (Str.ofString "weight") t2, .int wt tw⟩] 2
theorem voter_make (w : World) (l : Addr) (vals : List (Nat × Tok)) (hsm : Sm vals) (wt : Int) (tw : Tok) (hw : 0 < wt) (ol : Obj) (hso : SrcO w vals ol) :
  ∀ (lo : List Str) (mean : ExcName → Option Value) (mg mb : Str → Option Value) (dp un : Nat) (gd : Option (List Code)) (cn : Str) (cs : Scope) (a : Addr) (ccd : Value) (cl : List (Str × Addr)) (outer : List Env) (A₀ : Around) (base h₀ : Heap) (L : Addr) (m : Str → Option Value) (s : Shared) (Q E : Value → Shared → Prop) (rest : List (Addr × Obj)) (gT : Obj → List (Addr × Obj)) (ps : Array Value),
    Below A₀ base outer h₀ → Fr h₀ L s.heap m → (kf.heap_1 w.params).In h₀ → News h₀ L s.heap rest → Top topProg lo mean mg mb h₀ → cs.kind = .function → dp + 30 < recursionLimit → un + 600 < cLine → AllBare s.gens →
    UpdF 52 (tabObj ps) rest gT → TriplesOk ps.toList → (l, ol) ∈ rest →
    (∀ v dv x dx ep ps' t1 t2 s', Aft s s' → Fr h₀ L s'.heap m → News h₀ L s'.heap ((x, csO w dx ep vals) :: (dx, emptyDict) :: (v, instObj 718 dv) :: (dv, voD w x wt t1 t2 tw) :: gT (tabObj ps')) → TriplesOk ps'.toList → (∀ p ∈ gT (tabObj ps'), p.1 < dv) → dv < v → v < dx → dx < x → Q (.ref v) s') →
    wpAny (model prog w) (ktrTop dp un gd cn cs L a ccd cl outer) (call (.ref 718) [.ref l, .int wt tw]) Q E s := by
  intro lo mean mg mb dp un gd cn cs a ccd cl outer A₀ base h₀ L m s Q E rest gT ps B F X N T hk hd hu hG U ht hl hret
  k_steps
  rename_i x1 d1 h1 F1 N1 l1 l2 g1 L1 h2 FG1 F2 N2 B2 X2 T2
  have h52 : (52 : Nat) < d1 := by
    obtain ⟨own, r, rfl, _⟩ := U.split
    exact l1 (52, tabObj ps) (List.mem_append_right _ (.head _))
  have hS2 : Src w h2 l vals := ⟨ol, (N2 _ (.tail _ (.tail _ hl))).1, hso⟩
  refine' (cs_makeK w l vals hsm) _ _ _ _ _ _ _ _ _ _ _ _ _ _ _ _ _ _ _ _ _ _ _ ps B2 F2 X2 N2 T2 ?cK ?cD ?cU hG (.tail (Nat.ne_of_gt (Nat.lt_trans h52 l2)) (.tail (Nat.ne_of_gt h52) U)) ht hS2 ?_
  case cK => first | exact rfl | assumption
  case cD => ktr_room
  case cU => ((try simp only [under_units]); ktr_units)
  intro x3 dx3 ep3 ps3 s3 hA3 F3 N3 ht3 lt3 ltx3
  (try dsimp only at N3); (try dsimp only at lt3)
  have hG3 : AllBare s3.gens := hA3.gens hG
  have lt4 := upd_lt (o' := tabObj ps3) U l1
  have lt4c := lt4
  have lt3c := lt3
  (try k_lt lt4)
  (try k_lt lt3)
  (try k_lt2 ltx3)
  (try dsimp only)
  (try k_fold)
  k_steps
  rename Fr _ _ _ _ => F9
  rename News _ _ _ _ => N9
  exact hret x1 d1 x3 dx3 _ ps3 _ _ _ ⟨hA3.os, hA3.gens, hA3.size⟩ F9 N9 ht3 lt4c l2 lt3.1 ltx3
end
-- S24
section
set_option maxHeartbeats 0
local macro_rules | `(tactic| k_room) => `(tactic| ktr_room)
local macro_rules | `(tactic| k_units) => `(tactic| ktr_units)
local macro_rules | `(tactic| k_enter) => `(tactic| (refine' code_def ?k1 ?k2 ?k3 ?k4 ?k5 ?kA ?kF ?kK ?k6 ?k7 ?k8 ?k9 ?kB ?_ ?c2 ?c3 ?c4 ?c5; (case kA => exact rfl); (case kF => exact rfl); (case kK => first | exact rfl | assumption); (case k1 => k_asm); (case k2 => k_asm); (case k3 => k_asm); (case k4 => k_asm); (case k5 => k_asm); (case k6 => k_is); (case k7 => k_is); (case k8 => ktr_room); (case k9 => first | exact BindsTo.of_eq rfl | exact binds_K (by k_in) rfl (by k_is) rfl rfl rfl); (case c5 => decide); (case kB => exact locs rfl); (case c2 => exact rfl); (case c3 => exact rfl); (case c4 => exact rfl); k_whole; intro g' L' h' FG' F' N' B' X' T'; (try dsimp only); (try k_fold)))
local macro_rules | `(tactic| k_mem) => `(tactic| first | exact List.Mem.head _ | assumption | (refine' List.Mem.tail _ ?_; k_mem))

theorem voter_makeN (w : World) (l : Addr) (vals : List (Nat × Tok)) (hsm : Sm vals) (wt : Int) (tw : Tok) (hw : 0 < wt) (ol : Obj) (hso : SrcO w vals ol) (j : Int) (tj : Tok) (hj : ∀ e ∈ vals, (e.1 : Int) < j) :
  ∀ (lo : List Str) (mean : ExcName → Option Value) (mg mb : Str → Option Value) (dp un : Nat) (gd : Option (List Code)) (cn : Str) (cs : Scope) (a : Addr) (ccd : Value) (cl : List (Str × Addr)) (outer : List Env) (A₀ : Around) (base h₀ : Heap) (L : Addr) (m : Str → Option Value) (s : Shared) (Q E : Value → Shared → Prop) (rest : List (Addr × Obj)) (gT : Obj → List (Addr × Obj)) (ps : Array Value),
    Below A₀ base outer h₀ → Fr h₀ L s.heap m → (kf.heap_1 w.params).In h₀ → News h₀ L s.heap rest → Top topProg lo mean mg mb h₀ → cs.kind = .function → dp + 30 < recursionLimit → un + 600 < cLine → AllBare s.gens →
    UpdF 52 (tabObj ps) rest gT → TriplesOk ps.toList → (l, ol) ∈ rest →
    (∀ v dv x dx ep ps' t1 t2 s', Aft s s' → Fr h₀ L s'.heap m → News h₀ L s'.heap ((x, csO w dx ep vals) :: (dx, emptyDict) :: (v, instObj 718 dv) :: (dv, voD w x wt t1 t2 tw) :: gT (tabObj ps')) → TriplesOk ps'.toList → (∀ p ∈ gT (tabObj ps'), p.1 < dv) → dv < v → v < dx → dx < x → Q (.ref v) s') →
    wpAny (model prog w) (ktrTop dp un gd cn cs L a ccd cl outer) (call (.ref 718) [.ref l] [(Str.ofString "weight", .int wt tw), (Str.ofString "num_cand", .int j tj)]) Q E s := by
  intro lo mean mg mb dp un gd cn cs a ccd cl outer A₀ base h₀ L m s Q E rest gT ps B F X N T hk hd hu hG U ht hl hret
  k_steps
  rename_i x1 d1 h1 F1 N1 l1 l2 g1 L1 h2 FG1 F2 N2 B2 X2 T2
  have h52 : (52 : Nat) < d1 := by
    obtain ⟨own, r, rfl, _⟩ := U.split
    exact l1 (52, tabObj ps) (List.mem_append_right _ (.head _))
  have hS2 : Src w h2 l vals := ⟨ol, (N2 _ (.tail _ (.tail _ hl))).1, hso⟩
  refine' (cs_makeN w l vals hsm j tj hj) _ _ _ _ _ _ _ _ _ _ _ _ _ _ _ _ _ _ _ _ _ _ _ ps B2 F2 X2 N2 T2 ?cK ?cD ?cU hG (.tail (Nat.ne_of_gt (Nat.lt_trans h52 l2)) (.tail (Nat.ne_of_gt h52) U)) ht hS2 ?_
  case cK => first | exact rfl | assumption
  case cD => ktr_room
  case cU => ((try simp only [under_units]); ktr_units)
  intro x3 dx3 ep3 ps3 s3 hA3 F3 N3 ht3 lt3 ltx3
  (try dsimp only at N3); (try dsimp only at lt3)
  have hG3 : AllBare s3.gens := hA3.gens hG
  have lt4 := upd_lt (o' := tabObj ps3) U l1
  have lt4c := lt4
  have lt3c := lt3
  (try k_lt lt4)
  (try k_lt lt3)
  (try k_lt2 ltx3)
  (try dsimp only)
  (try k_fold)
  k_steps
  rename Fr _ _ _ _ => F9
  rename News _ _ _ _ => N9
  exact hret x1 d1 x3 dx3 _ ps3 _ _ _ ⟨hA3.os, hA3.gens, hA3.size⟩ F9 N9 ht3 lt4c l2 lt3.1 ltx3
end
-- S25
section
set_option maxHeartbeats 0
local macro_rules | `(tactic| k_room) => `(tactic| ktr_room)
local macro_rules | `(tactic| k_units) => `(tactic| ktr_units)
local macro_rules | `(tactic| k_enter) => `(tactic| (refine' code_def ?k1 ?k2 ?k3 ?k4 ?k5 ?kA ?kF ?kK ?k6 ?k7 ?k8 ?k9 ?kB ?_ ?c2 ?c3 ?c4 ?c5; (case kA => exact rfl); (case kF => exact rfl); (case kK => first | exact rfl | assumption); (case k1 => k_asm); (case k2 => k_asm); (case k3 => k_asm); (case k4 => k_asm); (case k5 => k_asm); (case k6 => k_is); (case k7 => k_is); (case k8 => ktr_room); (case k9 => first | exact BindsTo.of_eq rfl | exact binds_K (by k_in) rfl (by k_is) rfl rfl rfl); (case c5 => decide); (case kB => exact locs rfl); (case c2 => exact rfl); (case c3 => exact rfl); (case c4 => exact rfl); k_whole; intro g' L' h' FG' F' N' B' X' T'; (try dsimp only); (try k_fold)))
local macro_rules | `(tactic| k_mem) => `(tactic| first | exact List.Mem.head _ | assumption | (refine' List.Mem.tail _ ?_; k_mem))
local macro_rules | `(tactic| fail "hook call ref") => `(tactic| (k_here; (with_reducible show wpAny _ _ (call (Value.ref 305) [Value.int _ _]) _ _ _); k_dflt (refine' (fr_new _ _ _ _ ?c0 ?c1) _ _ _ _ _ _ _ _ _ _ _ _ _ _ _ _ _ _ _ _ _ ?cB ?cF ?cX ?cN ?cT ?cK ?cD ?cU ?cG ?_; (case cB => k_asm); (case cF => k_asm); (case cX => k_asm); (case cN => k_asm); (case cT => k_asm); (case cK => first | exact rfl | assumption); (case cD => ktr_room); (case cU => ktr_units); (case cG => assumption); (case c0 => omega); (case c1 => omega)); (intro r' nw' s' hA' F' N' hP'; obtain ⟨x', d', t1', t2', t3', t4', e1', e2', l1, l2⟩ := hP'; subst e1'; subst e2'; (try dsimp only [frD] at N'); (have hG' := Aft.gens hA' (by assumption)); (have l1c := l1); (try k_lt l1); (try k_lt2 l2); (try dsimp only); (try k_fold))))
theorem cc_one (w : World) (t : Tok) (news : List (Addr × Obj)) :
    CallC w 388 [.int 1 t] news 40 600 (FrPost w 1 news) := by
  intro lo mean mg mb dp un gd cn cs a ccd cl outer A₀ base h₀ L m s Q E B F X N T hk hd hu hG hret
  k_steps
  all_goals (refine' hret _ _ _ ?a ?f (cb_drop ?n (sub2 ?ha ?hb ?hl)) ⟨_, _, _, _, _, _, rfl, rfl, ?o1, ?o2⟩; (case a => first | exact Aft.same | (rename Aft _ _ => q; exact ⟨q.os, q.gens, q.size⟩)); (case f => k_asm); (case n => assumption); (case ha => repeat (first | exact List.Mem.head _ | refine' List.Mem.tail _ ?_)); (case hb => repeat (first | exact List.Mem.head _ | refine' List.Mem.tail _ ?_)); (case hl => (intro p hp; repeat (first | exact hp | refine' List.Mem.tail _ ?_))); (case o1 => first | assumption | (refine' lt_of ?q ?s; (case q => assumption); (case s => (intro p hp; repeat (first | exact hp | refine' List.Mem.tail _ ?_))))); (case o2 => assumption))
theorem cc_two (w : World) (t : Tok) (news : List (Addr × Obj)) :
    CallC w 388 [.int 2 t] news 40 600 (FrPost w 0 news) := by
  intro lo mean mg mb dp un gd cn cs a ccd cl outer A₀ base h₀ L m s Q E B F X N T hk hd hu hG hret
  k_steps
  all_goals (refine' hret _ _ _ ?a ?f (cb_drop ?n (sub2 ?ha ?hb ?hl)) ⟨_, _, _, _, _, _, rfl, rfl, ?o1, ?o2⟩; (case a => first | exact Aft.same | (rename Aft _ _ => q; exact ⟨q.os, q.gens, q.size⟩)); (case f => k_asm); (case n => assumption); (case ha => repeat (first | exact List.Mem.head _ | refine' List.Mem.tail _ ?_)); (case hb => repeat (first | exact List.Mem.head _ | refine' List.Mem.tail _ ?_)); (case hl => (intro p hp; repeat (first | exact hp | refine' List.Mem.tail _ ?_))); (case o1 => first | assumption | (refine' lt_of ?q ?s; (case q => assumption); (case s => (intro p hp; repeat (first | exact hp | refine' List.Mem.tail _ ?_))))); (case o2 => assumption))
end
-- S26
section
set_option maxHeartbeats 0
local macro_rules | `(tactic| k_room) => `(tactic| ktr_room)
local macro_rules | `(tactic| k_units) => `(tactic| ktr_units)
local macro_rules | `(tactic| k_enter) => `(tactic| (refine' code_def ?k1 ?k2 ?k3 ?k4 ?k5 ?kA ?kF ?kK ?k6 ?k7 ?k8 ?k9 ?kB ?_ ?c2 ?c3 ?c4 ?c5; (case kA => exact rfl); (case kF => exact rfl); (case kK => first | exact rfl | assumption); (case k1 => k_asm); (case k2 => k_asm); (case k3 => k_asm); (case k4 => k_asm); (case k5 => k_asm); (case k6 => k_is); (case k7 => k_is); (case k8 => ktr_room); (case k9 => first | exact BindsTo.of_eq rfl | exact binds_K (by k_in) rfl (by k_is) rfl rfl rfl); (case c5 => decide); (case kB => exact locs rfl); (case c2 => exact rfl); (case c3 => exact rfl); (case c4 => exact rfl); k_whole; intro g' L' h' FG' F' N' B' X' T'; (try dsimp only); (try k_fold)))
local macro_rules | `(tactic| k_mem) => `(tactic| first | exact List.Mem.head _ | assumption | (refine' List.Mem.tail _ ?_; k_mem))
/-- a call that leaves the ledger as it is and gives a truth value -/
abbrev BoPost (b : Bool) (news : List (Addr × Obj)) (news' : List (Addr × Obj)) (r : Value) : Prop := r = .bool b ∧ news' = news
theorem fr_eq (w : World) (n k : Int) (x d y e : Addr) (t1 t2 t3 t4 u1 u2 u3 u4 : Tok) (news : List (Addr × Obj)) (hx : (x, instObj 305 d) ∈ news) (hd : (d, frD w n t1 t2 t3 t4) ∈ news) (hy : (y, instObj 305 e) ∈ news) (he : (e, frD w k u1 u2 u3 u4) ∈ news) (h0 : -1000 ≤ n) (h1 : n ≤ 1000) (h2 : -1000 ≤ k) (h3 : k ≤ 1000) :
    CallC w 274 [.ref x, .ref y] news 30 300 (BoPost (n == k) news) := by
  intro lo mean mg mb dp un gd cn cs a ccd cl outer A₀ base h₀ L m s Q E B F X N T hk hdp hu hG hret
  dsimp only [frD] at hd he
  k_steps
  all_goals ((try simp only [Int.mul_one, Int.one_mul]); (rename Fr _ _ _ _ => F9); (rename News _ _ _ _ => N9); exact hret _ news _ Aft.same F9 (fun q hq => N9 q (by repeat (first | exact hq | refine List.Mem.tail _ ?_))) ⟨rfl, rfl⟩)
end
-- S27
section
set_option maxHeartbeats 0
local macro_rules | `(tactic| k_room) => `(tactic| ktr_room)
local macro_rules | `(tactic| k_units) => `(tactic| ktr_units)
local macro_rules | `(tactic| k_enter) => `(tactic| (refine' code_def ?k1 ?k2 ?k3 ?k4 ?k5 ?kA ?kF ?kK ?k6 ?k7 ?k8 ?k9 ?kB ?_ ?c2 ?c3 ?c4 ?c5; (case kA => exact rfl); (case kF => exact rfl); (case kK => first | exact rfl | assumption); (case k1 => k_asm); (case k2 => k_asm); (case k3 => k_asm); (case k4 => k_asm); (case k5 => k_asm); (case k6 => k_is); (case k7 => k_is); (case k8 => ktr_room); (case k9 => first | exact BindsTo.of_eq rfl | exact binds_K (by k_in) rfl (by k_is) rfl rfl rfl); (case c5 => decide); (case kB => exact locs rfl); (case c2 => exact rfl); (case c3 => exact rfl); (case c4 => exact rfl); k_whole; intro g' L' h' FG' F' N' B' X' T'; (try dsimp only); (try k_fold)))
local macro_rules | `(tactic| k_mem) => `(tactic| first | exact List.Mem.head _ | assumption | (refine' List.Mem.tail _ ?_; k_mem))
theorem fr_lt_int (w : World) (n k : Int) (x d : Addr) (t1 t2 t3 t4 tk : Tok) (news : List (Addr × Obj)) (hx : (x, instObj 305 d) ∈ news) (hd : (d, frD w n t1 t2 t3 t4) ∈ news) (h0 : -1000 ≤ n) (h1 : n ≤ 1000) (h2 : -1000 ≤ k) (h3 : k ≤ 1000) :
    CallC w 281 [.ref x, .int k tk] news 30 300 (BoPost (decide (n < k)) news) := by
  intro lo mean mg mb dp un gd cn cs a ccd cl outer A₀ base h₀ L m s Q E B F X N T hk hdp hu hG hret
  dsimp only [frD] at hd
  k_steps
  all_goals ((try simp only [Int.mul_one, Int.one_mul]); (rename Fr _ _ _ _ => F9); (rename News _ _ _ _ => N9); exact hret _ news _ Aft.same F9 (fun q hq => N9 q (by repeat (first | exact hq | refine List.Mem.tail _ ?_))) ⟨rfl, rfl⟩)
theorem fr_eq_int (w : World) (n k : Int) (x d : Addr) (t1 t2 t3 t4 tk : Tok) (news : List (Addr × Obj)) (hx : (x, instObj 305 d) ∈ news) (hd : (d, frD w n t1 t2 t3 t4) ∈ news) (h0 : -1000 ≤ n) (h1 : n ≤ 1000) (h2 : -1000 ≤ k) (h3 : k ≤ 1000) :
    CallC w 274 [.ref x, .int k tk] news 30 300 (BoPost (n == k) news) := by
  intro lo mean mg mb dp un gd cn cs a ccd cl outer A₀ base h₀ L m s Q E B F X N T hk hdp hu hG hret
  dsimp only [frD] at hd
  k_steps
  all_goals ((try simp only [Int.mul_one, Int.one_mul]); (rename Fr _ _ _ _ => F9); (rename News _ _ _ _ => N9); exact hret _ news _ Aft.same F9 (fun q hq => N9 q (by repeat (first | exact hq | refine List.Mem.tail _ ?_))) ⟨rfl, rfl⟩)
end
-- S28
section
set_option maxHeartbeats 0
local macro_rules | `(tactic| k_room) => `(tactic| ktr_room)
local macro_rules | `(tactic| k_units) => `(tactic| ktr_units)
local macro_rules | `(tactic| k_enter) => `(tactic| (refine' code_def ?k1 ?k2 ?k3 ?k4 ?k5 ?kA ?kF ?kK ?k6 ?k7 ?k8 ?k9 ?kB ?_ ?c2 ?c3 ?c4 ?c5; (case kA => exact rfl); (case kF => exact rfl); (case kK => first | exact rfl | assumption); (case k1 => k_asm); (case k2 => k_asm); (case k3 => k_asm); (case k4 => k_asm); (case k5 => k_asm); (case k6 => k_is); (case k7 => k_is); (case k8 => ktr_room); (case k9 => first | exact BindsTo.of_eq rfl | exact binds_K (by k_in) rfl (by k_is) rfl rfl rfl); (case c5 => decide); (case kB => exact locs rfl); (case c2 => exact rfl); (case c3 => exact rfl); (case c4 => exact rfl); k_whole; intro g' L' h' FG' F' N' B' X' T'; (try dsimp only); (try k_fold)))
local macro_rules | `(tactic| k_mem) => `(tactic| first | exact List.Mem.head _ | assumption | (refine' List.Mem.tail _ ?_; k_mem))
theorem fr_gt_int (w : World) (n k : Int) (x d : Addr) (t1 t2 t3 t4 tk : Tok) (news : List (Addr × Obj)) (hx : (x, instObj 305 d) ∈ news) (hd : (d, frD w n t1 t2 t3 t4) ∈ news) (h0 : -1000 ≤ n) (h1 : n ≤ 1000) (h2 : -1000 ≤ k) (h3 : k ≤ 1000) :
    CallC w 295 [.ref x, .int k tk] news 30 300 (BoPost (!decide (n ≤ k)) news) := by
  intro lo mean mg mb dp un gd cn cs a ccd cl outer A₀ base h₀ L m s Q E B F X N T hk hdp hu hG hret
  dsimp only [frD] at hd
  k_steps
  all_goals ((try simp only [Int.mul_one, Int.one_mul]); (rename Fr _ _ _ _ => F9); (rename News _ _ _ _ => N9); exact hret _ news _ Aft.same F9 (fun q hq => N9 q (by repeat (first | exact hq | refine List.Mem.tail _ ?_))) ⟨rfl, rfl⟩)
end
-- S29
section
set_option maxHeartbeats 0
local macro_rules | `(tactic| k_room) => `(tactic| ktr_room)
local macro_rules | `(tactic| k_units) => `(tactic| ktr_units)
local macro_rules | `(tactic| k_enter) => `(tactic| (refine' code_def ?k1 ?k2 ?k3 ?k4 ?k5 ?kA ?kF ?kK ?k6 ?k7 ?k8 ?k9 ?kB ?_ ?c2 ?c3 ?c4 ?c5; (case kA => exact rfl); (case kF => exact rfl); (case kK => first | exact rfl | assumption); (case k1 => k_asm); (case k2 => k_asm); (case k3 => k_asm); (case k4 => k_asm); (case k5 => k_asm); (case k6 => k_is); (case k7 => k_is); (case k8 => ktr_room); (case k9 => first | exact BindsTo.of_eq rfl | exact binds_K (by k_in) rfl (by k_is) rfl rfl rfl); (case c5 => decide); (case kB => exact locs rfl); (case c2 => exact rfl); (case c3 => exact rfl); (case c4 => exact rfl); k_whole; intro g' L' h' FG' F' N' B' X' T'; (try dsimp only); (try k_fold)))
local macro_rules | `(tactic| k_mem) => `(tactic| first | exact List.Mem.head _ | assumption | (refine' List.Mem.tail _ ?_; k_mem))
theorem fr_gt (w : World) (n k : Int) (x d y e : Addr) (t1 t2 t3 t4 u1 u2 u3 u4 : Tok) (news : List (Addr × Obj)) (hx : (x, instObj 305 d) ∈ news) (hd : (d, frD w n t1 t2 t3 t4) ∈ news) (hy : (y, instObj 305 e) ∈ news) (he : (e, frD w k u1 u2 u3 u4) ∈ news) (h0 : -1000 ≤ n) (h1 : n ≤ 1000) (h2 : -1000 ≤ k) (h3 : k ≤ 1000) :
    CallC w 295 [.ref x, .ref y] news 30 300 (BoPost (!decide (n ≤ k)) news) := by
  intro lo mean mg mb dp un gd cn cs a ccd cl outer A₀ base h₀ L m s Q E B F X N T hk hdp hu hG hret
  dsimp only [frD] at hd he
  k_steps
  all_goals ((try simp only [Int.mul_one, Int.one_mul]); (rename Fr _ _ _ _ => F9); (rename News _ _ _ _ => N9); exact hret _ news _ Aft.same F9 (fun q hq => N9 q (by repeat (first | exact hq | refine List.Mem.tail _ ?_))) ⟨rfl, rfl⟩)
end
-- S30
section
set_option maxHeartbeats 0
local macro_rules | `(tactic| k_room) => `(tactic| ktr_room)
local macro_rules | `(tactic| k_units) => `(tactic| ktr_units)
local macro_rules | `(tactic| k_enter) => `(tactic| (refine' code_def ?k1 ?k2 ?k3 ?k4 ?k5 ?kA ?kF ?kK ?k6 ?k7 ?k8 ?k9 ?kB ?_ ?c2 ?c3 ?c4 ?c5; (case kA => exact rfl); (case kF => exact rfl); (case kK => first | exact rfl | assumption); (case k1 => k_asm); (case k2 => k_asm); (case k3 => k_asm); (case k4 => k_asm); (case k5 => k_asm); (case k6 => k_is); (case k7 => k_is); (case k8 => ktr_room); (case k9 => first | exact BindsTo.of_eq rfl | exact binds_K (by k_in) rfl (by k_is) rfl rfl rfl); (case c5 => decide); (case kB => exact locs rfl); (case c2 => exact rfl); (case c3 => exact rfl); (case c4 => exact rfl); k_whole; intro g' L' h' FG' F' N' B' X' T'; (try dsimp only); (try k_fold)))
local macro_rules | `(tactic| k_mem) => `(tactic| first | exact List.Mem.head _ | assumption | (refine' List.Mem.tail _ ?_; k_mem))

theorem len_listK {w : World} {A : Around} {E : Value → Shared → Prop} {s : Shared} {h₀ : Heap} {L x : Addr} {news : List (Addr × Obj)} {its : Array Value} {n : Nat} {Q : Value → Shared → Prop}
    (N : News h₀ L s.heap news) (hm : (x, listOf its n) ∈ news) (hz : its.size ≤ 1000) (h : ∀ t tk, Q (.int its.size t) { s with toks := tk }) :
    wpAny (model prog w) A (call (.builtin "len") [.ref x]) Q E s := call_len_list ⟨_, (N _ hm).1, rfl, n, rfl⟩ (by omega) (h _ _)
local macro_rules | `(tactic| fail "hook call builtin:len") => `(tactic| (k_here; k_dflt (refine len_listK (by k_asm) (by k_mem) (by omega) ?_; intro t' tk')))
/-- a profile's attributes -/
abbrev prD (w : World) (lc ln lv : Addr) (t1 t2 t3 : Tok) (k : Nat) : Obj :=
  dictOf [⟨PyData.keyHash w.params (Str.ofString "candidates"), .str (Str.ofString "candidates") t1, .ref lc⟩, ⟨PyData.keyHash w.params (Str.ofString "cand_names"), .str (Str.ofString "cand_names") t2, .ref ln⟩, ⟨PyData.keyHash w.params (Str.ofString "_voters"), .str (Str.ofString "_voters") t3, .ref lv⟩] k
/-- a walk stops here -/
local macro_rules | `(tactic| fail "hook And") => `(tactic| (k_here; (show _ ∧ wpAny _ _ (call (.ref 718) _ _) _ _ _); (refine ⟨by k_in, ?_⟩); (with_unfolding_all show wpAny _ _ (call (.ref 718) [.ref _] [(Str.ofString "weight", .int _ _), (Str.ofString "num_cand", .int _ _)]) _ _ _); (refine Held.out ?_)))
theorem uniq_voter (w : World) (p dp lc ln lv v dv x dx : Addr) (t1 t2 t3 t4 t5 tw : Tok) (k nl ep : Nat) (its : Array Value) (vals : List (Nat × Tok)) (hsm : Sm vals) (hne : vals ≠ []) (wt : Int) (hw : 0 < wt) (hj : ∀ e ∈ vals, (e.1 : Int) < its.size) (hz : its.size ≤ 8) :
  ∀ (lo : List Str) (mean : ExcName → Option Value) (mg mb : Str → Option Value) (dpt un : Nat) (gd : Option (List Code)) (cn : Str) (cs : Scope) (a : Addr) (ccd : Value) (cl : List (Str × Addr)) (outer : List Env) (A₀ : Around) (base h₀ : Heap) (L : Addr) (m : Str → Option Value) (s : Shared) (Q E : Value → Shared → Prop) (rest : List (Addr × Obj)) (gT : Obj → List (Addr × Obj)) (ps : Array Value),
    Below A₀ base outer h₀ → Fr h₀ L s.heap m → (kf.heap_1 w.params).In h₀ → News h₀ L s.heap rest → Top topProg lo mean mg mb h₀ → cs.kind = .function → dpt + 60 < recursionLimit → un + 900 < cLine → AllBare s.gens →
    UpdF 52 (tabObj ps) rest gT → TriplesOk ps.toList → (p, instObj 681 dp) ∈ rest → (dp, prD w lc ln lv t1 t2 t3 k) ∈ rest → (lc, listOf its nl) ∈ rest → (v, instObj 718 dv) ∈ rest → (dv, voD w x wt t4 t5 tw) ∈ rest → (x, csO w dx ep vals) ∈ rest →
    (∀ v' dv' x' dx' ep' ps' t1' t2' s', Aft s s' → Fr h₀ L s'.heap m → News h₀ L s'.heap ((x', csO w dx' ep' vals) :: (dx', emptyDict) :: (v', instObj 718 dv') :: (dv', voD w x' wt t1' t2' tw) :: gT (tabObj ps')) → TriplesOk ps'.toList → (∀ p ∈ gT (tabObj ps'), p.1 < dv') → dv' < v' → v' < dx' → dx' < x' → Q (.ref v') s') →
    wpAny (model prog w) (ktrTop dpt un gd cn cs L a ccd cl outer) (call (.ref 587) [.ref p, .ref v]) Q E s := by
  intro lo mean mg mb dpt un gd cn cs a ccd cl outer A₀ base h₀ L m s Q E rest gT ps B F X N T hk hdp hu hG U ht m1 m2 m3 m4 m5 m6 hret
  dsimp only [prD] at m2
  dsimp only [voD] at m5
  k_steps
  show wpAny _ _ (call (.ref 718) [.ref _] [(Str.ofString "weight", .int _ _), (Str.ofString "num_cand", .int _ _)]) _ _ _
  refine' (voter_makeN w x vals hsm wt tw hw _ (.set (some dx) ep hne) its.size _ hj) _ _ _ _ _ _ _ _ _ _ _ _ _ _ _ _ _ _ _ _ _ rest gT ps ?cB ?cF ?cX ?cN ?cT ?cK ?cD ?cU ?cG U ht m6 ?_
  case cB => k_asm
  case cF => k_asm
  case cX => k_asm
  case cN => k_asm
  case cT => k_asm
  case cK => first | exact rfl | assumption
  case cD => ktr_room
  case cU => ktr_units
  case cG => assumption
  intro v' dv' x' dx' ep' ps' t1' t2' s' hA' F' N' ht' lt1 lt2 lt3 lt4
  have hG' := Aft.gens hA' (by assumption)
  (try dsimp only)
  (try k_fold)
  k_steps
  rename Fr _ _ _ _ => F9
  rename News _ _ _ _ => N9
  exact hret _ _ _ _ _ _ _ _ _ ⟨hA'.os, hA'.gens, hA'.size⟩ F9 N9 ht' lt1 lt2 lt3 lt4
end
-- S31
section
set_option maxHeartbeats 0
local macro_rules | `(tactic| k_room) => `(tactic| ktr_room)
local macro_rules | `(tactic| k_units) => `(tactic| ktr_units)
local macro_rules | `(tactic| k_enter) => `(tactic| (refine' code_def ?k1 ?k2 ?k3 ?k4 ?k5 ?kA ?kF ?kK ?k6 ?k7 ?k8 ?k9 ?kB ?_ ?c2 ?c3 ?c4 ?c5; (case kA => exact rfl); (case kF => exact rfl); (case kK => first | exact rfl | assumption); (case k1 => k_asm); (case k2 => k_asm); (case k3 => k_asm); (case k4 => k_asm); (case k5 => k_asm); (case k6 => k_is); (case k7 => k_is); (case k8 => ktr_room); (case k9 => first | exact BindsTo.of_eq rfl | exact binds_K (by k_in) rfl (by k_is) rfl rfl rfl); (case c5 => decide); (case kB => exact locs rfl); (case c2 => exact rfl); (case c3 => exact rfl); (case c4 => exact rfl); k_whole; intro g' L' h' FG' F' N' B' X' T'; (try dsimp only); (try k_fold)))
local macro_rules | `(tactic| k_mem) => `(tactic| first | exact List.Mem.head _ | assumption | (refine' List.Mem.tail _ ?_; k_mem))

theorem ne_one {news : List (Addr × Obj)} {x : Nat} (h : ∀ p ∈ news, p.1 < x) : ∀ p ∈ news, p.1 ≠ x := fun p hp => Nat.ne_of_lt (h p hp)
theorem ne_two {news : List (Addr × Obj)} {d x : Nat} (h : ∀ p ∈ news, p.1 < d) (hl : @LE.le Nat _ d x) : ∀ p ∈ news, p.1 ≠ x := fun p hp => Nat.ne_of_lt (Nat.lt_of_lt_of_le (h p hp) hl)
local macro_rules | `(tactic| k_all) => `(tactic| first | exact ne_one (by assumption) | (refine' ne_two ?a ?b; (case a => assumption); (case b => omega)))
abbrev tupO (zs : List Value) : Obj := ({ cls := .type "tuple", data := .seq zs.toArray } : Obj)
/-- the candidates are 0, 1, 2, .. -/
def Cands (its : Array Value) : Prop := ∀ i, i < its.size → ∃ t, its[i]? = some (.int (i : Int) t)
theorem len_tupK {w : World} {A : Around} {E : Value → Shared → Prop} {s : Shared} {h₀ : Heap} {L x : Addr} {news : List (Addr × Obj)} {zs : List Value} {Q : Value → Shared → Prop}
    (N : News h₀ L s.heap news) (hm : (x, tupO zs) ∈ news) (hz : zs.length ≤ 1000) (h : ∀ t tk, Q (.int zs.length t) { s with toks := tk }) :
    wpAny (model prog w) A (call (.builtin "len") [.ref x]) Q E s := len_tuple (News.isTup N hm) (by simp; omega) (by simpa using h _ _)
local macro_rules | `(tactic| fail "hook call type:tuple") => `(tactic| (k_here; (refine' kde_tupleOf (by k_asm) (by k_asm) (News.isList (by k_asm) (by k_mem)) (by omega) rfl ?_); k_whole; intro D' h' F' N' l1; (try k_lt l1); (try k_sweep)))
local macro_rules | `(tactic| fail "hook call builtin:len") => `(tactic| (k_here; k_dflt (refine len_tupK (by k_asm) (by k_mem) (by simp only [Array.length_toList]; omega) ?_; intro t' tk'; (try simp only [Array.length_toList]))))
/-- a combinations object -/
abbrev combO (d D P : Addr) (first stopped : Bool) (r : Nat) (t : Tok) : Obj :=
  { cls := .ref 147, dict := some d, slots := #[some (.bool first), some (.ref D), some (.ref P), some (.int (r : Int) t), some (.bool stopped)] }
abbrev CombPost (its : Array Value) (r : Nat) (news news' : List (Addr × Obj)) (v : Value) : Prop :=
  ∃ (x d P D : Addr) (t : Tok) (c : Nat) (vs : List Value), v = .ref x ∧ news' = (D, listOf vs.toArray c) :: (P, tupO its.toList) :: (x, combO d D P true false r t) :: (d, emptyDict) :: news ∧ IntsAre vs (rangeKs 0 r) ∧ (∀ p ∈ news, p.1 < d) ∧ d < x ∧ x < P ∧ P < D
theorem comb_make (w : World) (l : Addr) (its : Array Value) (nl : Nat) (h5 : 5 ≤ its.size) (h6 : its.size ≤ 6) (r : Nat) (hr1 : 1 ≤ r) (hr3 : r ≤ 3) (tr : Tok) (news : List (Addr × Obj)) (hl : (l, listOf its nl) ∈ news) :
    CallC w 147 [.ref l, .int (r : Int) tr] news 60 900 (CombPost its r news) := by
  intro lo mean mg mb dp un gd cn cs a ccd cl outer A₀ base h₀ L m s Q E B F X N T hk hdp hu hG hret
  k_steps
  rename Fr _ _ _ _ => F9
  rename News _ _ _ _ => N9
  rename IntsAre _ _ => hI9
  rename _ < _ ∧ _ < _ ∧ _ < _ ∧ AllLt _ _ => o1
  rename _ < _ ∧ _ < _ ∧ AllLt _ _ => o2
  have e1 : decide ((its.size : Int) < (r : Int)) = false := decide_eq_false (by omega)
  rw [e1] at N9
  simp only [Int.add_zero] at N9
  exact hret _ _ _ Aft.same F9 N9 ⟨_, _, _, _, _, _, _, rfl, rfl, by simpa using hI9, by assumption, by assumption, o2.1, o1.1⟩
end
-- S32
section
set_option maxHeartbeats 0
local macro_rules | `(tactic| k_room) => `(tactic| ktr_room)
local macro_rules | `(tactic| k_units) => `(tactic| ktr_units)
local macro_rules | `(tactic| k_enter) => `(tactic| (refine' code_def ?k1 ?k2 ?k3 ?k4 ?k5 ?kA ?kF ?kK ?k6 ?k7 ?k8 ?k9 ?kB ?_ ?c2 ?c3 ?c4 ?c5; (case kA => exact rfl); (case kF => exact rfl); (case kK => first | exact rfl | assumption); (case k1 => k_asm); (case k2 => k_asm); (case k3 => k_asm); (case k4 => k_asm); (case k5 => k_asm); (case k6 => k_is); (case k7 => k_is); (case k8 => ktr_room); (case k9 => first | exact BindsTo.of_eq rfl | exact binds_K (by k_in) rfl (by k_is) rfl rfl rfl); (case c5 => decide); (case kB => exact locs rfl); (case c2 => exact rfl); (case c3 => exact rfl); (case c4 => exact rfl); k_whole; intro g' L' h' FG' F' N' B' X' T'; (try dsimp only); (try k_fold)))
local macro_rules | `(tactic| k_mem) => `(tactic| first | exact List.Mem.head _ | assumption | (refine' List.Mem.tail _ ?_; k_mem))
local macro_rules | `(tactic| fail "hook call builtin:list.append") => `(tactic| (k_here; (dsimp only [List.cons_append, List.nil_append])))
theorem get_pool {w : World} {A : Around} {E : Value → Shared → Prop} {s : Shared} {h₀ : Heap} {L P : Addr} {news : List (Addr × Obj)} {its : Array Value} {i : Int} {k : Nat} {u : Tok} {Q : Value → Shared → Prop} {value slice : PySem.Expr}
    (N : News h₀ L s.heap news) (hm : (P, tupO its.toList) ∈ news) (hc : Cands its) (hz : its.size ≤ 6) (hi : i = (k : Int)) (hk : k < its.size) (h : ∀ t, Q (.int (k : Int) t) s)
    (hs : subscripted slice false (.ref P) (.int i u) = operate [.ref P, .int i u] (getItem (.ref P) (.int i u)) := by with_unfolding_all rfl) :
    wpAny (model prog w) A (subscriptTail value slice (.ref P) (.int i u)) Q E s := by
  subst hi
  obtain ⟨t, ht⟩ := hc k hk
  refine item_tupleT (News.isTup N hm) (by omega) (by omega) (j := k) ?_ (by simpa using ht) (h t) hs
  unfold seqIndex?
  simp only [Array.length_toList]
  split
  · omega
  · rename_i h0
    simp; omega
abbrev PickPost (ks : List Nat) (news news' : List (Addr × Obj)) (v : Value) : Prop :=
  ∃ (T : Addr) (vals : List (Nat × Tok)), v = .ref T ∧ vals.map (·.1) = ks ∧ news' = (T, seqO "tuple" vals 0) :: news ∧ ∀ q ∈ news, q.1 < T
theorem skip1 (a b : Addr × Obj) (l : List (Addr × Obj)) : ∀ p ∈ a :: l, p ∈ a :: b :: l := fun p hp => by
  rcases List.mem_cons.mp hp with rfl | hp
  · exact .head _
  · exact .tail _ (.tail _ hp)
theorem all_of {d : Addr} : ∀ {l : List (Addr × Obj)}, AllLt d l → ∀ p ∈ l, p.1 < d
  | [], _ => fun _ h => nomatch h
  | _ :: _, ⟨h, r⟩ => fun p hp => by
    rcases List.mem_cons.mp hp with rfl | hp
    · exact h
    · exact all_of r p hp
local macro_rules | `(tactic| fail "hook call builtin:len") => `(tactic| (k_here; k_dflt (refine len_tupK (by k_asm) (by k_mem) (by simp only [Array.length_toList]; omega) ?_; intro t' tk'; (try simp only [Array.length_toList]))))
local macro_rules | `(tactic| fail "hook subscriptTail") => `(tactic| (k_here; (with_reducible show wpAny _ _ (subscriptTail _ _ (Value.ref _) (Value.int _ _)) _ _ _); k_dflt (refine get_pool (by k_asm) (by k_mem) (by assumption) (by assumption) (by first | exact rfl | (simp only [List.getD_cons_zero, List.getD_cons_succ]; exact rfl)) (by omega) ?_; intro t')))
local macro_rules | `(tactic| fail "hook exec While") => `(tactic| (k_here; k_dflt (refine whl_start 100 ?_)))
local macro_rules | `(tactic| fail "hook exec While BoolOp") => `(tactic| (k_here; k_dflt (refine whl_start 100 ?_)))
theorem picked1 (w : World) (P D : Addr) (its : Array Value) (hc : Cands its) (h6 : its.size ≤ 6) (k0 : Nat) (u0 : Tok) (hk0 : k0 < its.size) (tr : Tok) (c : Nat) (rest : List (Addr × Obj)) :
    CallC w 114 [.ref P, .ref D, .int ((1 : Nat) : Int) tr] ((D, listOf #[.int ((k0 : Nat) : Int) u0] c) :: (P, tupO its.toList) :: rest) 30 600 (PickPost [k0] ((D, listOf #[.int ((k0 : Nat) : Int) u0] c) :: (P, tupO its.toList) :: rest)) := by
  intro lo mean mg mb dp un gd cn cs a ccd cl outer A₀ base h₀ L m s Q E B F X N T hk hdp hu hG hret
  k_steps
  rename Fr _ _ _ _ => F9
  rename News _ _ _ _ => N9
  rename _ < _ ∧ _ < _ ∧ _ < _ ∧ AllLt _ _ => o1
  exact hret _ _ _ Aft.same F9 (cb_drop N9 (skip1 _ _ _)) ⟨_, [(k0, _)], rfl, rfl, rfl, all_of (l := _ :: _ :: _) o1.2⟩
theorem picked2 (w : World) (P D : Addr) (its : Array Value) (hc : Cands its) (h6 : its.size ≤ 6) (k0 k1 : Nat) (u0 u1 : Tok) (hk0 : k0 < its.size) (hk1 : k1 < its.size) (tr : Tok) (c : Nat) (rest : List (Addr × Obj)) :
    CallC w 114 [.ref P, .ref D, .int ((2 : Nat) : Int) tr] ((D, listOf #[.int ((k0 : Nat) : Int) u0, .int ((k1 : Nat) : Int) u1] c) :: (P, tupO its.toList) :: rest) 30 600 (PickPost [k0, k1] ((D, listOf #[.int ((k0 : Nat) : Int) u0, .int ((k1 : Nat) : Int) u1] c) :: (P, tupO its.toList) :: rest)) := by
  intro lo mean mg mb dp un gd cn cs a ccd cl outer A₀ base h₀ L m s Q E B F X N T hk hdp hu hG hret
  k_steps
  rename Fr _ _ _ _ => F9
  rename News _ _ _ _ => N9
  rename _ < _ ∧ _ < _ ∧ _ < _ ∧ AllLt _ _ => o1
  exact hret _ _ _ Aft.same F9 (cb_drop N9 (skip1 _ _ _)) ⟨_, [(k0, _), (k1, _)], rfl, rfl, rfl, all_of (l := _ :: _ :: _) o1.2⟩
theorem picked3 (w : World) (P D : Addr) (its : Array Value) (hc : Cands its) (h6 : its.size ≤ 6) (k0 k1 k2 : Nat) (u0 u1 u2 : Tok) (hk0 : k0 < its.size) (hk1 : k1 < its.size) (hk2 : k2 < its.size) (tr : Tok) (c : Nat) (rest : List (Addr × Obj)) :
    CallC w 114 [.ref P, .ref D, .int ((3 : Nat) : Int) tr] ((D, listOf #[.int ((k0 : Nat) : Int) u0, .int ((k1 : Nat) : Int) u1, .int ((k2 : Nat) : Int) u2] c) :: (P, tupO its.toList) :: rest) 30 600 (PickPost [k0, k1, k2] ((D, listOf #[.int ((k0 : Nat) : Int) u0, .int ((k1 : Nat) : Int) u1, .int ((k2 : Nat) : Int) u2] c) :: (P, tupO its.toList) :: rest)) := by
  intro lo mean mg mb dp un gd cn cs a ccd cl outer A₀ base h₀ L m s Q E B F X N T hk hdp hu hG hret
  k_steps
  rename Fr _ _ _ _ => F9
  rename News _ _ _ _ => N9
  rename _ < _ ∧ _ < _ ∧ _ < _ ∧ AllLt _ _ => o1
  exact hret _ _ _ Aft.same F9 (cb_drop N9 (skip1 _ _ _)) ⟨_, [(k0, _), (k1, _), (k2, _)], rfl, rfl, rfl, all_of (l := _ :: _ :: _) o1.2⟩
end
-- S33
section
set_option maxHeartbeats 0
local macro_rules | `(tactic| k_room) => `(tactic| ktr_room)
local macro_rules | `(tactic| k_units) => `(tactic| ktr_units)
local macro_rules | `(tactic| k_enter) => `(tactic| (refine' code_def ?k1 ?k2 ?k3 ?k4 ?k5 ?kA ?kF ?kK ?k6 ?k7 ?k8 ?k9 ?kB ?_ ?c2 ?c3 ?c4 ?c5; (case kA => exact rfl); (case kF => exact rfl); (case kK => first | exact rfl | assumption); (case k1 => k_asm); (case k2 => k_asm); (case k3 => k_asm); (case k4 => k_asm); (case k5 => k_asm); (case k6 => k_is); (case k7 => k_is); (case k8 => ktr_room); (case k9 => first | exact BindsTo.of_eq rfl | exact binds_K (by k_in) rfl (by k_is) rfl rfl rfl); (case c5 => decide); (case kB => exact locs rfl); (case c2 => exact rfl); (case c3 => exact rfl); (case c4 => exact rfl); k_whole; intro g' L' h' FG' F' N' B' X' T'; (try dsimp only); (try k_fold)))
local macro_rules | `(tactic| k_mem) => `(tactic| first | exact List.Mem.head _ | assumption | (refine' List.Mem.tail _ ?_; k_mem))

local macro_rules | `(tactic| fail "hook call ref") => `(tactic| (k_here; (with_reducible show wpAny _ _ (call (.ref 587) _) _ _ _); (refine Held.out ?_)))
local macro_rules | `(tactic| k_all) => `(tactic| assumption)
theorem add_voter (w : World) (p dp lc ln lv v dv x dx : Addr) (t1 t2 t3 t4 t5 tw : Tok) (k nl ep n : Nat) (its vs : Array Value) (hvs : vs.size ≤ 10) (vals : List (Nat × Tok)) (hsm : Sm vals) (hne : vals ≠ []) (wt : Int) (hw : 0 < wt) (hj : ∀ e ∈ vals, (e.1 : Int) < its.size) (hz : its.size ≤ 8)
    (rest : List (Addr × Obj)) (h52 : @LT.lt Nat _ 52 lv) (hr1 : ∀ q ∈ rest, q.1 ≠ lv) (hr2 : ∀ q ∈ rest, q.1 ≠ 52) :
  ∀ (lo : List Str) (mean : ExcName → Option Value) (mg mb : Str → Option Value) (dpt un : Nat) (gd : Option (List Code)) (cn : Str) (cs : Scope) (a : Addr) (ccd : Value) (cl : List (Str × Addr)) (outer : List Env) (A₀ : Around) (base h₀ : Heap) (L : Addr) (m : Str → Option Value) (s : Shared) (Q E : Value → Shared → Prop) (ps : Array Value),
    Below A₀ base outer h₀ → Fr h₀ L s.heap m → (kf.heap_1 w.params).In h₀ → News h₀ L s.heap ((lv, listOf vs n) :: (52, tabObj ps) :: rest) → Top topProg lo mean mg mb h₀ → cs.kind = .function → dpt + 90 < recursionLimit → un + 1200 < cLine → AllBare s.gens →
    TriplesOk ps.toList → (p, instObj 681 dp) ∈ rest → (dp, prD w lc ln lv t1 t2 t3 k) ∈ rest → (lc, listOf its nl) ∈ rest → (v, instObj 718 dv) ∈ rest → (dv, voD w x wt t4 t5 tw) ∈ rest → (x, csO w dx ep vals) ∈ rest →
    (∀ v' dv' x' dx' ep' ps' t1' t2' n' s', Aft s s' → Fr h₀ L s'.heap m → News h₀ L s'.heap ((x', csO w dx' ep' vals) :: (dx', emptyDict) :: (v', instObj 718 dv') :: (dv', voD w x' wt t1' t2' tw) :: (lv, listOf (vs.push (.ref v')) n') :: (52, tabObj ps') :: rest) → TriplesOk ps'.toList →
      (∀ q ∈ rest, q.1 < dv') → lv < dv' → dv' < v' → v' < dx' → dx' < x' → Q .none s') →
    wpAny (model prog w) (ktrTop dpt un gd cn cs L a ccd cl outer) (call (.ref 594) [.ref p, .ref v]) Q E s := by
  intro lo mean mg mb dpt un gd cn cs a ccd cl outer A₀ base h₀ L m s Q E ps B F X N T hk hdp hu hG ht m1 m2 m3 m4 m5 m6 hret
  have m2c := m2
  dsimp only [prD] at m2
  k_steps
  rename Below _ _ _ _ => B2
  rename Fr _ _ _ _ => F2
  rename News _ _ _ _ => N2
  refine' (uniq_voter w p dp lc ln lv v dv x dx t1 t2 t3 t4 t5 tw k nl ep its vals hsm hne wt hw hj hz) _ _ _ _ _ _ _ _ _ _ _ _ _ _ _ _ _ _ _ _ _ ((lv, listOf vs n) :: (52, tabObj ps) :: rest) (fun o => (lv, listOf vs n) :: (52, o) :: rest) ps ?cB ?cF ?cX ?cN ?cT ?cK ?cD ?cU ?cG ?cUp ht (.tail _ (.tail _ m1)) (.tail _ (.tail _ m2c)) (.tail _ (.tail _ m3)) (.tail _ (.tail _ m4)) (.tail _ (.tail _ m5)) (.tail _ (.tail _ m6)) ?_
  case cB => k_asm
  case cF => k_asm
  case cX => k_asm
  case cN => k_asm
  case cT => k_asm
  case cK => first | exact rfl | assumption
  case cD => ktr_room
  case cU => ktr_units
  case cG => assumption
  case cUp => exact .tail (Nat.ne_of_gt h52) (.head hr2)
  intro v' dv' x' dx' ep' ps' t1' t2' s' hA' F' N' ht' lt1 lt2 lt3 lt4
  have hG' := Aft.gens hA' (by assumption)
  have lt1c := lt1
  (try dsimp only at N')
  (try dsimp only at lt1)
  (try k_lt lt1)
  (try k_lt2 lt2)
  (try k_lt2 lt3)
  (try k_lt2 lt4)
  (try dsimp only)
  (try k_fold)
  k_steps
  rename Fr _ _ _ _ => F9
  rename News _ _ _ _ => N9
  exact hret _ _ _ _ _ _ _ _ _ _ ⟨hA'.os, hA'.gens, hA'.size⟩ F9 N9 ht' (fun q hq => lt1c q (.tail _ (.tail _ hq))) (lt1c _ (.head _)) lt2 lt3 lt4
end
-- U1
section
set_option maxHeartbeats 0
theorem stop_S {w : World} {A : Around} {E : Value → Shared → Prop} {s : Shared} {base G h₀ : Heap} {cn : Str} {cs : Scope} {L a e t : Addr} {ccd : Value} {outer : List Env} {A₀ : Around} {m : Str → Option Value} {vs : List Value} {news : List (Addr × Obj)} {KF : Frag}
    {p : Program} {loose : List Str} {mean : ExcName → Option Value} {mg mb : Str → Option Value} {Q : Option Value → Shared → Prop}
    (R : RaisedS base G (envOf cn cs L a ccd :: outer) e (.type "StopIteration") t vs news s.heap) (F : Fr h₀ L G m) (K : Below A₀ base outer h₀) (hsm : G.UpToSlots s.heap) (XB : KF.In base) (TB : Top p loose mean mg mb base) (D : KtsDicts (outer.filterMap (·.frame)) h₀)
    (k : ∀ g', KtsTurn (outer.filterMap (·.frame)) h₀ g' → Fr g' L s.heap m → News g' L s.heap news → Below A₀ base outer g' → KF.In g' → Top p loose mean mg mb g' → KtsDicts (outer.filterMap (·.frame)) g' → Q none s) :
    OwitStop (model prog w) A Q E (.ref e) s := by
  obtain ⟨⟨B, hB, hBG, hl, hfl, hnew⟩, htup⟩ := R
  have hL : B.get? L = none := by
    obtain ⟨_, ⟨L', _, hf, hn', _⟩, _⟩ := hfl.2.2.1
    obtain rfl : L = L' := Option.some.inj hf
    exact hn'
  obtain ⟨g', T', F', K'⟩ := kts_ground K F hBG hfl.1 hsm
  obtain ⟨ob, hob, hobc⟩ := hfl.there
  have hT : s.TypeIs (.ref e) "StopIteration" := (show ∃ o, s.heap.get? e = some o ∧ o.cls = .type "StopIteration" from ⟨ob, hob, hobc⟩)
  have Nl : News g' L s.heap news := fun q hq => ⟨hfl.1 _ _ (hl q hq).1, (fun z => by have := (hl q hq).1; rw [z, hL] at this; cases this), T'.none_ _ (kts_none F.keep (hl q hq).2.1)⟩
  unfold OwitStop
  refine wpAny_isInstance hT isSubtype_stop ?_
  show (if true = true then Q none s else E (.ref e) s)
  rw [if_pos rfl]
  exact k g' T' F' Nl K' (XB.keeps K'.stays) (TB.keeps K'.stays) (D.turn T')
/-- a contract of a function in whose call an exception is caught: the heap below may change in the slots of the frames -/
abbrev ChainK (w : World) (vs : List Value) (news : List (Addr × Obj)) (ddp dun : Nat) {α : Type} (Post : List (Addr × Obj) → α → Prop) (tree : Sem α) : Prop :=
  ∀ (lo : List Str) (mean : ExcName → Option Value) (mg mb : Str → Option Value) (dp un : Nat) (gd : Option (List Code)) (cn : Str) (cs : Scope) (a : Addr) (ccd : Value) (outer : List Env) (A₀ : Around) (base h₀ : Heap) (L : Addr) (m : Str → Option Value) (s : Shared) (Q : α → Shared → Prop) (E : Value → Shared → Prop),
    Below A₀ base outer h₀ → Fr h₀ L s.heap m → (kf.heap_1 w.params).In h₀ → News h₀ L s.heap news → Top topProg lo mean mg mb h₀ → (kf.heap_1 w.params).In base → Top topProg lo mean mg mb base → KtsDicts (outer.filterMap (·.frame)) h₀ →
    cs.kind = .function → dp + ddp < recursionLimit → un + dun < cLine → AllBare s.gens →
    (∀ r news' s' h₀', Aft s s' → KtsTurn (outer.filterMap (·.frame)) h₀ h₀' → Fr h₀' L s'.heap m → News h₀' L s'.heap news' → Below A₀ base outer h₀' → (kf.heap_1 w.params).In h₀' → Top topProg lo mean mg mb h₀' → KtsDicts (outer.filterMap (·.frame)) h₀' → Post news' r → Q r s') →
    wpAny (model prog w) (ktrTop dp un gd cn cs L a ccd [] outer) tree Q E s
theorem turn_nil {g g' h : Heap} {L : Addr} {m : Str → Option Value} {news : List (Addr × Obj)} (T : KtsTurn [] g g') (F : Fr g' L h m) (N : News g' L h news) : Fr g L h m ∧ News g L h news :=
  ⟨⟨F.ns, fun b o e => F.keep b o (T.other b o e (List.not_mem_nil)), by rw [← T.size]; exact F.above⟩, fun p hp => ⟨(N p hp).1, (N p hp).2.1, kts_none (fun b o e => T.other b o e List.not_mem_nil) (N p hp).2.2⟩⟩
end
-- S34
section
set_option maxHeartbeats 0
local macro_rules | `(tactic| k_room) => `(tactic| ktr_room)
local macro_rules | `(tactic| k_units) => `(tactic| ktr_units)
local macro_rules | `(tactic| k_enter) => `(tactic| (refine' code_def ?k1 ?k2 ?k3 ?k4 ?k5 ?kA ?kF ?kK ?k6 ?k7 ?k8 ?k9 ?kB ?_ ?c2 ?c3 ?c4 ?c5; (case kA => exact rfl); (case kF => exact rfl); (case kK => first | exact rfl | assumption); (case k1 => k_asm); (case k2 => k_asm); (case k3 => k_asm); (case k4 => k_asm); (case k5 => k_asm); (case k6 => k_is); (case k7 => k_is); (case k8 => ktr_room); (case k9 => first | exact BindsTo.of_eq rfl | exact binds_K (by k_in) rfl (by k_is) rfl rfl rfl); (case c5 => decide); (case kB => exact locs rfl); (case c2 => exact rfl); (case c3 => exact rfl); (case c4 => exact rfl); k_whole; intro g' L' h' FG' F' N' B' X' T'; (try dsimp only); (try k_fold)))
local macro_rules | `(tactic| k_mem) => `(tactic| first | exact List.Mem.head _ | assumption | (refine' List.Mem.tail _ ?_; k_mem))
def nextI (n : Nat) : List Nat → Option (List Nat)
  | [i] => if i + 1 = n then none else some [i + 1]
  | [i, j] => if j + 1 = n then (if i + 2 = n then none else some [i + 1, i + 2]) else some [i, j + 1]
  | [i, j, k] => if k + 1 = n then (if j + 2 = n then (if i + 3 = n then none else some [i + 1, i + 2, i + 3]) else some [i, j + 1, j + 2]) else some [i, j, k + 1]
  | _ => none
/-- what a call of __next__ tells: the next committee, or the end -/
def NextPost (x d P D : Addr) (its : Array Value) (r : Nat) (tr : Tok) (rest : List (Addr × Obj)) (nx : Option (List Nat)) (news' : List (Addr × Obj)) (v : Option Value) : Prop :=
  match nx with
  | some ks => ∃ (T : Addr) (vals iv : List (Nat × Tok)) (c' : Nat), v = some (.ref T) ∧ vals.map (·.1) = ks ∧ iv.map (·.1) = ks ∧ news' = (T, seqO "tuple" vals 0) :: (D, listOf (iv.map toV).toArray c') :: (P, tupO its.toList) :: (x, combO d D P false false r tr) :: (d, emptyDict) :: rest ∧ (∀ q ∈ rest, q.1 < T) ∧ D < T
  | none => v = none ∧ ∃ (iv : List (Nat × Tok)) (c' : Nat), news' = (D, listOf (iv.map toV).toArray c') :: (P, tupO its.toList) :: (x, combO d D P false true r tr) :: (d, emptyDict) :: rest
local macro_rules | `(tactic| fail "hook call builtin:len") => `(tactic| (k_here; k_dflt (refine len_tupK (by k_asm) (by k_mem) (by simp only [Array.length_toList]; omega) ?_; intro t' tk'; (try simp only [Array.length_toList]))))
local macro_rules | `(tactic| fail "hook subscriptTail") => `(tactic| (k_here; (with_reducible show wpAny _ _ (subscriptTail _ _ (Value.ref _) (Value.int _ _)) _ _ _); k_dflt (refine get_pool (by k_asm) (by k_mem) (by assumption) (by assumption) (by first | exact rfl | (simp only [List.getD_cons_zero, List.getD_cons_succ]; exact rfl)) (by omega) ?_; intro t')))
local macro_rules | `(tactic| fail "hook exec While") => `(tactic| (k_here; k_dflt (refine whl_start 100 ?_)))
local macro_rules | `(tactic| fail "hook exec While BoolOp") => `(tactic| (k_here; k_dflt (refine whl_start 100 ?_)))
local macro_rules | `(tactic| k_all) => `(tactic| first | assumption | exact ne_one (by assumption) | (refine' ne_two ?a ?b; (case a => assumption); (case b => omega)))
local macro_rules | `(tactic| fail "hook call ref") => `(tactic| (k_here; (with_reducible show wpAny _ _ (call (.ref 114) _) _ _ _); (refine Held.out ?_)))
local macro_rules | `(tactic| fail "hook OwitStop") => `(tactic| (refine Held.out ?_))
theorem comb_first1 (w : World) (x d P D : Addr) (its : Array Value) (hc : Cands its) (h5 : 5 ≤ its.size) (h6 : its.size ≤ 6) (i0 : Nat) (u0 : Tok) (hl : i0 < its.size) (tr : Tok) (c : Nat) (hdx : @LT.lt Nat _ d x) (hxP : @LT.lt Nat _ x P) (hPD : @LT.lt Nat _ P D) (rest : List (Addr × Obj)) (hrx : ∀ p ∈ rest, p.1 ≠ x) (hrD : ∀ p ∈ rest, p.1 ≠ D) :
    ChainK w [] ((D, listOf #[.int ((i0 : Nat) : Int) u0] c) :: (P, tupO its.toList) :: (x, combO d D P true false 1 tr) :: (d, emptyDict) :: rest) 60 900 (NextPost x d P D its 1 tr rest (some [i0])) (pyNext (.ref x)) := by
  intro lo mean mg mb dp un gd cn cs a ccd outer A₀ base h₀ L m s Q E B F X N T XB TB D0 hk hdp hu hG hret
  refine' owit_next F X ?I (f := 143) ?hs ?hf ?_
  case I => k_inst
  case hs => k_is
  case hf => k_is
  k_steps
  all_goals (try unfold Held)
  all_goals first
    | (rename Below _ _ _ _ => B2; rename Fr _ _ _ _ => F2; rename News _ _ _ _ => N2; rename Frag.In _ _ => X2; rename Top _ _ _ _ _ _ => T2
       refine' (picked1 w P D its hc h6 (i0) _ (by omega) tr _ _) _ _ _ _ _ _ _ _ _ _ _ _ _ _ _ _ _ _ _ _ _ ?cB ?cF ?cX ?cN ?cT ?cK ?cD ?cU ?cG ?_
       case cB => exact B2
       case cF => exact F2
       case cX => exact X2
       case cN => exact N2
       case cT => exact T2
       case cK => first | exact rfl | assumption
       case cD => ktr_room
       case cU => ktr_units
       case cG => exact hG
       clear B2 F2 N2 X2 T2
       intro r' nw' s' hA' F' N' hP'
       obtain ⟨T', vals', rfl, hv', rfl, lt'⟩ := hP'
       (try dsimp only)
       (try k_fold)
       k_steps
       rename Fr _ _ _ _ => F9
       rename News _ _ _ _ => N9
       refine hret _ _ _ h₀ ⟨hA'.os, hA'.gens, hA'.size⟩ KtsTurn.refl F9 N9 B X T (by assumption) ?_
       have e9 : (some [i0]) = some [i0] := by
         first
           | rfl
           | (simp only [nextI]; repeat (first | rw [if_pos (by omega)] | rw [if_neg (by omega)]))
       rw [e9]
       exact ⟨T', vals', [(i0, _)], _, rfl, hv', rfl, rfl, fun q hq => lt' q (.tail _ (.tail _ (.tail _ (.tail _ hq)))), lt' _ (.head _)⟩)
    | skip
theorem comb_step1 (w : World) (x d P D : Addr) (its : Array Value) (hc : Cands its) (h5 : 5 ≤ its.size) (h6 : its.size ≤ 6) (i0 : Nat) (u0 : Tok) (hl : i0 < its.size) (tr : Tok) (c : Nat) (hdx : @LT.lt Nat _ d x) (hxP : @LT.lt Nat _ x P) (hPD : @LT.lt Nat _ P D) (rest : List (Addr × Obj)) (hrx : ∀ p ∈ rest, p.1 ≠ x) (hrD : ∀ p ∈ rest, p.1 ≠ D) :
    ChainK w [] ((D, listOf #[.int ((i0 : Nat) : Int) u0] c) :: (P, tupO its.toList) :: (x, combO d D P false false 1 tr) :: (d, emptyDict) :: rest) 60 900 (NextPost x d P D its 1 tr rest (nextI its.size [i0])) (pyNext (.ref x)) := by
  intro lo mean mg mb dp un gd cn cs a ccd outer A₀ base h₀ L m s Q E B F X N T XB TB D0 hk hdp hu hG hret
  refine' owit_next F X ?I (f := 143) ?hs ?hf ?_
  case I => k_inst
  case hs => k_is
  case hf => k_is
  k_steps
  all_goals (try unfold Held)
  all_goals first
    | (have c0 : ((i0 : Nat) : Int) ≠ ((1 : Nat) : Int) - 1 + (its.size : Int) - ((1 : Nat) : Int) := by assumption
       rename Below _ _ _ _ => B2; rename Fr _ _ _ _ => F2; rename News _ _ _ _ => N2; rename Frag.In _ _ => X2; rename Top _ _ _ _ _ _ => T2
       refine' (picked1 w P D its hc h6 (i0 + 1) _ (by omega) tr _ _) _ _ _ _ _ _ _ _ _ _ _ _ _ _ _ _ _ _ _ _ _ ?cB ?cF ?cX ?cN ?cT ?cK ?cD ?cU ?cG ?_
       case cB => exact B2
       case cF => exact F2
       case cX => exact X2
       case cN => exact N2
       case cT => exact T2
       case cK => first | exact rfl | assumption
       case cD => ktr_room
       case cU => ktr_units
       case cG => exact hG
       clear B2 F2 N2 X2 T2
       intro r' nw' s' hA' F' N' hP'
       obtain ⟨T', vals', rfl, hv', rfl, lt'⟩ := hP'
       (try dsimp only)
       (try k_fold)
       k_steps
       rename Fr _ _ _ _ => F9
       rename News _ _ _ _ => N9
       refine hret _ _ _ h₀ ⟨hA'.os, hA'.gens, hA'.size⟩ KtsTurn.refl F9 N9 B X T (by assumption) ?_
       have e9 : (nextI its.size [i0]) = some [i0 + 1] := by
         first
           | rfl
           | (simp only [nextI]; repeat (first | rw [if_pos (by omega)] | rw [if_neg (by omega)]))
       rw [e9]
       exact ⟨T', vals', [(i0 + 1, _)], _, rfl, hv', rfl, rfl, fun q hq => lt' q (.tail _ (.tail _ (.tail _ (.tail _ hq)))), lt' _ (.head _)⟩)
    | (have c0 : ((i0 : Nat) : Int) = ((1 : Nat) : Int) - 1 + (its.size : Int) - ((1 : Nat) : Int) := by assumption
       rename RaisedS _ _ _ _ _ _ _ _ _ => R9; rename Heap.UpToSlots _ _ => U9; rename Fr _ _ _ _ => F9
       clear F9
       refine stop_S R9 (by assumption) B U9 XB TB (by assumption) fun g9 T9 F9 N9 B9 X9 P9 D9 => hret _ _ _ g9 ⟨rfl, id, Nat.le_refl _⟩ T9 F9 N9 B9 X9 P9 D9 ?_
       have e9 : (nextI its.size [i0]) = none := by
         simp only [nextI]
         repeat (first | rw [if_pos (by omega)] | rw [if_neg (by omega)])
       rw [e9]
       exact ⟨rfl, [(i0, _)], _, rfl⟩)
    | skip
theorem comb_first2 (w : World) (x d P D : Addr) (its : Array Value) (hc : Cands its) (h5 : 5 ≤ its.size) (h6 : its.size ≤ 6) (i0 i1 : Nat) (u0 u1 : Tok) (hi1 : i0 < i1) (hl : i1 < its.size) (tr : Tok) (c : Nat) (hdx : @LT.lt Nat _ d x) (hxP : @LT.lt Nat _ x P) (hPD : @LT.lt Nat _ P D) (rest : List (Addr × Obj)) (hrx : ∀ p ∈ rest, p.1 ≠ x) (hrD : ∀ p ∈ rest, p.1 ≠ D) :
    ChainK w [] ((D, listOf #[.int ((i0 : Nat) : Int) u0, .int ((i1 : Nat) : Int) u1] c) :: (P, tupO its.toList) :: (x, combO d D P true false 2 tr) :: (d, emptyDict) :: rest) 60 900 (NextPost x d P D its 2 tr rest (some [i0, i1])) (pyNext (.ref x)) := by
  intro lo mean mg mb dp un gd cn cs a ccd outer A₀ base h₀ L m s Q E B F X N T XB TB D0 hk hdp hu hG hret
  refine' owit_next F X ?I (f := 143) ?hs ?hf ?_
  case I => k_inst
  case hs => k_is
  case hf => k_is
  k_steps
  all_goals (try unfold Held)
  all_goals first
    | (rename Below _ _ _ _ => B2; rename Fr _ _ _ _ => F2; rename News _ _ _ _ => N2; rename Frag.In _ _ => X2; rename Top _ _ _ _ _ _ => T2
       refine' (picked2 w P D its hc h6 (i0) (i1) _ _ (by omega) (by omega) tr _ _) _ _ _ _ _ _ _ _ _ _ _ _ _ _ _ _ _ _ _ _ _ ?cB ?cF ?cX ?cN ?cT ?cK ?cD ?cU ?cG ?_
       case cB => exact B2
       case cF => exact F2
       case cX => exact X2
       case cN => exact N2
       case cT => exact T2
       case cK => first | exact rfl | assumption
       case cD => ktr_room
       case cU => ktr_units
       case cG => exact hG
       clear B2 F2 N2 X2 T2
       intro r' nw' s' hA' F' N' hP'
       obtain ⟨T', vals', rfl, hv', rfl, lt'⟩ := hP'
       (try dsimp only)
       (try k_fold)
       k_steps
       rename Fr _ _ _ _ => F9
       rename News _ _ _ _ => N9
       refine hret _ _ _ h₀ ⟨hA'.os, hA'.gens, hA'.size⟩ KtsTurn.refl F9 N9 B X T (by assumption) ?_
       have e9 : (some [i0, i1]) = some [i0, i1] := by
         first
           | rfl
           | (simp only [nextI]; repeat (first | rw [if_pos (by omega)] | rw [if_neg (by omega)]))
       rw [e9]
       exact ⟨T', vals', [(i0, _), (i1, _)], _, rfl, hv', rfl, rfl, fun q hq => lt' q (.tail _ (.tail _ (.tail _ (.tail _ hq)))), lt' _ (.head _)⟩)
    | skip
theorem comb_step2 (w : World) (x d P D : Addr) (its : Array Value) (hc : Cands its) (h5 : 5 ≤ its.size) (h6 : its.size ≤ 6) (i0 i1 : Nat) (u0 u1 : Tok) (hi1 : i0 < i1) (hl : i1 < its.size) (tr : Tok) (c : Nat) (hdx : @LT.lt Nat _ d x) (hxP : @LT.lt Nat _ x P) (hPD : @LT.lt Nat _ P D) (rest : List (Addr × Obj)) (hrx : ∀ p ∈ rest, p.1 ≠ x) (hrD : ∀ p ∈ rest, p.1 ≠ D) :
    ChainK w [] ((D, listOf #[.int ((i0 : Nat) : Int) u0, .int ((i1 : Nat) : Int) u1] c) :: (P, tupO its.toList) :: (x, combO d D P false false 2 tr) :: (d, emptyDict) :: rest) 60 900 (NextPost x d P D its 2 tr rest (nextI its.size [i0, i1])) (pyNext (.ref x)) := by
  intro lo mean mg mb dp un gd cn cs a ccd outer A₀ base h₀ L m s Q E B F X N T XB TB D0 hk hdp hu hG hret
  refine' owit_next F X ?I (f := 143) ?hs ?hf ?_
  case I => k_inst
  case hs => k_is
  case hf => k_is
  k_steps
  all_goals (try unfold Held)
  all_goals first
    | (have c1 : ((i1 : Nat) : Int) = ((2 : Nat) : Int) - 1 + (its.size : Int) - ((2 : Nat) : Int) := by assumption
       have c0 : ((i0 : Nat) : Int) ≠ ((2 : Nat) : Int) - 1 - 1 + (its.size : Int) - ((2 : Nat) : Int) := by assumption
       rename Below _ _ _ _ => B2; rename Fr _ _ _ _ => F2; rename News _ _ _ _ => N2; rename Frag.In _ _ => X2; rename Top _ _ _ _ _ _ => T2
       refine' (picked2 w P D its hc h6 (i0 + 1) (i0 + 2) _ _ (by omega) (by omega) tr _ _) _ _ _ _ _ _ _ _ _ _ _ _ _ _ _ _ _ _ _ _ _ ?cB ?cF ?cX ?cN ?cT ?cK ?cD ?cU ?cG ?_
       case cB => exact B2
       case cF => exact F2
       case cX => exact X2
       case cN => exact N2
       case cT => exact T2
       case cK => first | exact rfl | assumption
       case cD => ktr_room
       case cU => ktr_units
       case cG => exact hG
       clear B2 F2 N2 X2 T2
       intro r' nw' s' hA' F' N' hP'
       obtain ⟨T', vals', rfl, hv', rfl, lt'⟩ := hP'
       (try dsimp only)
       (try k_fold)
       k_steps
       rename Fr _ _ _ _ => F9
       rename News _ _ _ _ => N9
       refine hret _ _ _ h₀ ⟨hA'.os, hA'.gens, hA'.size⟩ KtsTurn.refl F9 N9 B X T (by assumption) ?_
       have e9 : (nextI its.size [i0, i1]) = some [i0 + 1, i0 + 2] := by
         first
           | rfl
           | (simp only [nextI]; repeat (first | rw [if_pos (by omega)] | rw [if_neg (by omega)]))
       rw [e9]
       exact ⟨T', vals', [(i0 + 1, _), (i0 + 2, _)], _, rfl, hv', rfl, rfl, fun q hq => lt' q (.tail _ (.tail _ (.tail _ (.tail _ hq)))), lt' _ (.head _)⟩)
    | (have c1 : ((i1 : Nat) : Int) ≠ ((2 : Nat) : Int) - 1 + (its.size : Int) - ((2 : Nat) : Int) := by assumption
       rename Below _ _ _ _ => B2; rename Fr _ _ _ _ => F2; rename News _ _ _ _ => N2; rename Frag.In _ _ => X2; rename Top _ _ _ _ _ _ => T2
       refine' (picked2 w P D its hc h6 (i0) (i1 + 1) _ _ (by omega) (by omega) tr _ _) _ _ _ _ _ _ _ _ _ _ _ _ _ _ _ _ _ _ _ _ _ ?cB ?cF ?cX ?cN ?cT ?cK ?cD ?cU ?cG ?_
       case cB => exact B2
       case cF => exact F2
       case cX => exact X2
       case cN => exact N2
       case cT => exact T2
       case cK => first | exact rfl | assumption
       case cD => ktr_room
       case cU => ktr_units
       case cG => exact hG
       clear B2 F2 N2 X2 T2
       intro r' nw' s' hA' F' N' hP'
       obtain ⟨T', vals', rfl, hv', rfl, lt'⟩ := hP'
       (try dsimp only)
       (try k_fold)
       k_steps
       rename Fr _ _ _ _ => F9
       rename News _ _ _ _ => N9
       refine hret _ _ _ h₀ ⟨hA'.os, hA'.gens, hA'.size⟩ KtsTurn.refl F9 N9 B X T (by assumption) ?_
       have e9 : (nextI its.size [i0, i1]) = some [i0, i1 + 1] := by
         first
           | rfl
           | (simp only [nextI]; repeat (first | rw [if_pos (by omega)] | rw [if_neg (by omega)]))
       rw [e9]
       exact ⟨T', vals', [(i0, _), (i1 + 1, _)], _, rfl, hv', rfl, rfl, fun q hq => lt' q (.tail _ (.tail _ (.tail _ (.tail _ hq)))), lt' _ (.head _)⟩)
    | (have c1 : ((i1 : Nat) : Int) = ((2 : Nat) : Int) - 1 + (its.size : Int) - ((2 : Nat) : Int) := by assumption
       have c0 : ((i0 : Nat) : Int) = ((2 : Nat) : Int) - 1 - 1 + (its.size : Int) - ((2 : Nat) : Int) := by assumption
       rename RaisedS _ _ _ _ _ _ _ _ _ => R9; rename Heap.UpToSlots _ _ => U9; rename Fr _ _ _ _ => F9
       clear F9
       refine stop_S R9 (by assumption) B U9 XB TB (by assumption) fun g9 T9 F9 N9 B9 X9 P9 D9 => hret _ _ _ g9 ⟨rfl, id, Nat.le_refl _⟩ T9 F9 N9 B9 X9 P9 D9 ?_
       have e9 : (nextI its.size [i0, i1]) = none := by
         simp only [nextI]
         repeat (first | rw [if_pos (by omega)] | rw [if_neg (by omega)])
       rw [e9]
       exact ⟨rfl, [(i0, _), (i1, _)], _, rfl⟩)
    | skip
theorem comb_first3 (w : World) (x d P D : Addr) (its : Array Value) (hc : Cands its) (h5 : 5 ≤ its.size) (h6 : its.size ≤ 6) (i0 i1 i2 : Nat) (u0 u1 u2 : Tok) (hi1 : i0 < i1) (hi2 : i1 < i2) (hl : i2 < its.size) (tr : Tok) (c : Nat) (hdx : @LT.lt Nat _ d x) (hxP : @LT.lt Nat _ x P) (hPD : @LT.lt Nat _ P D) (rest : List (Addr × Obj)) (hrx : ∀ p ∈ rest, p.1 ≠ x) (hrD : ∀ p ∈ rest, p.1 ≠ D) :
    ChainK w [] ((D, listOf #[.int ((i0 : Nat) : Int) u0, .int ((i1 : Nat) : Int) u1, .int ((i2 : Nat) : Int) u2] c) :: (P, tupO its.toList) :: (x, combO d D P true false 3 tr) :: (d, emptyDict) :: rest) 60 900 (NextPost x d P D its 3 tr rest (some [i0, i1, i2])) (pyNext (.ref x)) := by
  intro lo mean mg mb dp un gd cn cs a ccd outer A₀ base h₀ L m s Q E B F X N T XB TB D0 hk hdp hu hG hret
  refine' owit_next F X ?I (f := 143) ?hs ?hf ?_
  case I => k_inst
  case hs => k_is
  case hf => k_is
  k_steps
  all_goals (try unfold Held)
  all_goals first
    | (rename Below _ _ _ _ => B2; rename Fr _ _ _ _ => F2; rename News _ _ _ _ => N2; rename Frag.In _ _ => X2; rename Top _ _ _ _ _ _ => T2
       refine' (picked3 w P D its hc h6 (i0) (i1) (i2) _ _ _ (by omega) (by omega) (by omega) tr _ _) _ _ _ _ _ _ _ _ _ _ _ _ _ _ _ _ _ _ _ _ _ ?cB ?cF ?cX ?cN ?cT ?cK ?cD ?cU ?cG ?_
       case cB => exact B2
       case cF => exact F2
       case cX => exact X2
       case cN => exact N2
       case cT => exact T2
       case cK => first | exact rfl | assumption
       case cD => ktr_room
       case cU => ktr_units
       case cG => exact hG
       clear B2 F2 N2 X2 T2
       intro r' nw' s' hA' F' N' hP'
       obtain ⟨T', vals', rfl, hv', rfl, lt'⟩ := hP'
       (try dsimp only)
       (try k_fold)
       k_steps
       rename Fr _ _ _ _ => F9
       rename News _ _ _ _ => N9
       refine hret _ _ _ h₀ ⟨hA'.os, hA'.gens, hA'.size⟩ KtsTurn.refl F9 N9 B X T (by assumption) ?_
       have e9 : (some [i0, i1, i2]) = some [i0, i1, i2] := by
         first
           | rfl
           | (simp only [nextI]; repeat (first | rw [if_pos (by omega)] | rw [if_neg (by omega)]))
       rw [e9]
       exact ⟨T', vals', [(i0, _), (i1, _), (i2, _)], _, rfl, hv', rfl, rfl, fun q hq => lt' q (.tail _ (.tail _ (.tail _ (.tail _ hq)))), lt' _ (.head _)⟩)
    | skip
theorem comb_step3 (w : World) (x d P D : Addr) (its : Array Value) (hc : Cands its) (h5 : 5 ≤ its.size) (h6 : its.size ≤ 6) (i0 i1 i2 : Nat) (u0 u1 u2 : Tok) (hi1 : i0 < i1) (hi2 : i1 < i2) (hl : i2 < its.size) (tr : Tok) (c : Nat) (hdx : @LT.lt Nat _ d x) (hxP : @LT.lt Nat _ x P) (hPD : @LT.lt Nat _ P D) (rest : List (Addr × Obj)) (hrx : ∀ p ∈ rest, p.1 ≠ x) (hrD : ∀ p ∈ rest, p.1 ≠ D) :
    ChainK w [] ((D, listOf #[.int ((i0 : Nat) : Int) u0, .int ((i1 : Nat) : Int) u1, .int ((i2 : Nat) : Int) u2] c) :: (P, tupO its.toList) :: (x, combO d D P false false 3 tr) :: (d, emptyDict) :: rest) 60 900 (NextPost x d P D its 3 tr rest (nextI its.size [i0, i1, i2])) (pyNext (.ref x)) := by
  intro lo mean mg mb dp un gd cn cs a ccd outer A₀ base h₀ L m s Q E B F X N T XB TB D0 hk hdp hu hG hret
  refine' owit_next F X ?I (f := 143) ?hs ?hf ?_
  case I => k_inst
  case hs => k_is
  case hf => k_is
  k_steps
  all_goals (try unfold Held)
  all_goals first
    | (have c2 : ((i2 : Nat) : Int) = ((3 : Nat) : Int) - 1 + (its.size : Int) - ((3 : Nat) : Int) := by assumption
       have c1 : ((i1 : Nat) : Int) = ((3 : Nat) : Int) - 1 - 1 + (its.size : Int) - ((3 : Nat) : Int) := by assumption
       have c0 : ((i0 : Nat) : Int) ≠ ((3 : Nat) : Int) - 1 - 1 - 1 + (its.size : Int) - ((3 : Nat) : Int) := by assumption
       rename Below _ _ _ _ => B2; rename Fr _ _ _ _ => F2; rename News _ _ _ _ => N2; rename Frag.In _ _ => X2; rename Top _ _ _ _ _ _ => T2
       refine' (picked3 w P D its hc h6 (i0 + 1) (i0 + 2) (i0 + 3) _ _ _ (by omega) (by omega) (by omega) tr _ _) _ _ _ _ _ _ _ _ _ _ _ _ _ _ _ _ _ _ _ _ _ ?cB ?cF ?cX ?cN ?cT ?cK ?cD ?cU ?cG ?_
       case cB => exact B2
       case cF => exact F2
       case cX => exact X2
       case cN => exact N2
       case cT => exact T2
       case cK => first | exact rfl | assumption
       case cD => ktr_room
       case cU => ktr_units
       case cG => exact hG
       clear B2 F2 N2 X2 T2
       intro r' nw' s' hA' F' N' hP'
       obtain ⟨T', vals', rfl, hv', rfl, lt'⟩ := hP'
       (try dsimp only)
       (try k_fold)
       k_steps
       rename Fr _ _ _ _ => F9
       rename News _ _ _ _ => N9
       refine hret _ _ _ h₀ ⟨hA'.os, hA'.gens, hA'.size⟩ KtsTurn.refl F9 N9 B X T (by assumption) ?_
       have e9 : (nextI its.size [i0, i1, i2]) = some [i0 + 1, i0 + 2, i0 + 3] := by
         first
           | rfl
           | (simp only [nextI]; repeat (first | rw [if_pos (by omega)] | rw [if_neg (by omega)]))
       rw [e9]
       exact ⟨T', vals', [(i0 + 1, _), (i0 + 2, _), (i0 + 3, _)], _, rfl, hv', rfl, rfl, fun q hq => lt' q (.tail _ (.tail _ (.tail _ (.tail _ hq)))), lt' _ (.head _)⟩)
    | (have c2 : ((i2 : Nat) : Int) = ((3 : Nat) : Int) - 1 + (its.size : Int) - ((3 : Nat) : Int) := by assumption
       have c1 : ((i1 : Nat) : Int) ≠ ((3 : Nat) : Int) - 1 - 1 + (its.size : Int) - ((3 : Nat) : Int) := by assumption
       rename Below _ _ _ _ => B2; rename Fr _ _ _ _ => F2; rename News _ _ _ _ => N2; rename Frag.In _ _ => X2; rename Top _ _ _ _ _ _ => T2
       refine' (picked3 w P D its hc h6 (i0) (i1 + 1) (i1 + 2) _ _ _ (by omega) (by omega) (by omega) tr _ _) _ _ _ _ _ _ _ _ _ _ _ _ _ _ _ _ _ _ _ _ _ ?cB ?cF ?cX ?cN ?cT ?cK ?cD ?cU ?cG ?_
       case cB => exact B2
       case cF => exact F2
       case cX => exact X2
       case cN => exact N2
       case cT => exact T2
       case cK => first | exact rfl | assumption
       case cD => ktr_room
       case cU => ktr_units
       case cG => exact hG
       clear B2 F2 N2 X2 T2
       intro r' nw' s' hA' F' N' hP'
       obtain ⟨T', vals', rfl, hv', rfl, lt'⟩ := hP'
       (try dsimp only)
       (try k_fold)
       k_steps
       rename Fr _ _ _ _ => F9
       rename News _ _ _ _ => N9
       refine hret _ _ _ h₀ ⟨hA'.os, hA'.gens, hA'.size⟩ KtsTurn.refl F9 N9 B X T (by assumption) ?_
       have e9 : (nextI its.size [i0, i1, i2]) = some [i0, i1 + 1, i1 + 2] := by
         first
           | rfl
           | (simp only [nextI]; repeat (first | rw [if_pos (by omega)] | rw [if_neg (by omega)]))
       rw [e9]
       exact ⟨T', vals', [(i0, _), (i1 + 1, _), (i1 + 2, _)], _, rfl, hv', rfl, rfl, fun q hq => lt' q (.tail _ (.tail _ (.tail _ (.tail _ hq)))), lt' _ (.head _)⟩)
    | (have c2 : ((i2 : Nat) : Int) ≠ ((3 : Nat) : Int) - 1 + (its.size : Int) - ((3 : Nat) : Int) := by assumption
       rename Below _ _ _ _ => B2; rename Fr _ _ _ _ => F2; rename News _ _ _ _ => N2; rename Frag.In _ _ => X2; rename Top _ _ _ _ _ _ => T2
       refine' (picked3 w P D its hc h6 (i0) (i1) (i2 + 1) _ _ _ (by omega) (by omega) (by omega) tr _ _) _ _ _ _ _ _ _ _ _ _ _ _ _ _ _ _ _ _ _ _ _ ?cB ?cF ?cX ?cN ?cT ?cK ?cD ?cU ?cG ?_
       case cB => exact B2
       case cF => exact F2
       case cX => exact X2
       case cN => exact N2
       case cT => exact T2
       case cK => first | exact rfl | assumption
       case cD => ktr_room
       case cU => ktr_units
       case cG => exact hG
       clear B2 F2 N2 X2 T2
       intro r' nw' s' hA' F' N' hP'
       obtain ⟨T', vals', rfl, hv', rfl, lt'⟩ := hP'
       (try dsimp only)
       (try k_fold)
       k_steps
       rename Fr _ _ _ _ => F9
       rename News _ _ _ _ => N9
       refine hret _ _ _ h₀ ⟨hA'.os, hA'.gens, hA'.size⟩ KtsTurn.refl F9 N9 B X T (by assumption) ?_
       have e9 : (nextI its.size [i0, i1, i2]) = some [i0, i1, i2 + 1] := by
         first
           | rfl
           | (simp only [nextI]; repeat (first | rw [if_pos (by omega)] | rw [if_neg (by omega)]))
       rw [e9]
       exact ⟨T', vals', [(i0, _), (i1, _), (i2 + 1, _)], _, rfl, hv', rfl, rfl, fun q hq => lt' q (.tail _ (.tail _ (.tail _ (.tail _ hq)))), lt' _ (.head _)⟩)
    | (have c2 : ((i2 : Nat) : Int) = ((3 : Nat) : Int) - 1 + (its.size : Int) - ((3 : Nat) : Int) := by assumption
       have c1 : ((i1 : Nat) : Int) = ((3 : Nat) : Int) - 1 - 1 + (its.size : Int) - ((3 : Nat) : Int) := by assumption
       have c0 : ((i0 : Nat) : Int) = ((3 : Nat) : Int) - 1 - 1 - 1 + (its.size : Int) - ((3 : Nat) : Int) := by assumption
       rename RaisedS _ _ _ _ _ _ _ _ _ => R9; rename Heap.UpToSlots _ _ => U9; rename Fr _ _ _ _ => F9
       clear F9
       refine stop_S R9 (by assumption) B U9 XB TB (by assumption) fun g9 T9 F9 N9 B9 X9 P9 D9 => hret _ _ _ g9 ⟨rfl, id, Nat.le_refl _⟩ T9 F9 N9 B9 X9 P9 D9 ?_
       have e9 : (nextI its.size [i0, i1, i2]) = none := by
         simp only [nextI]
         repeat (first | rw [if_pos (by omega)] | rw [if_neg (by omega)])
       rw [e9]
       exact ⟨rfl, [(i0, _), (i1, _), (i2, _)], _, rfl⟩)
    | skip
end
-- S35
section
set_option maxHeartbeats 0
/-- the state at a for loop's start, with the loop's invariant -/
abbrev ForAt (w : World) (A : Around) (E : Value → Shared → Prop) (s : Shared) (h₀ : Heap) (env : Env) (L : Addr) (v : Str) (body : List Stmt) (Q : Flow → Shared → Prop) (it : Value) (s₂ : Shared) : Prop :=
  ∃ (σ : Type) (M : σ → Str → Option Value) (W : σ → List (Addr × Obj)) (R : Nat → σ → Prop) (n : Nat) (P : Nat → Value → Prop) (l : Addr) (ol : Obj) (I : Addr) (St : Nat → Heap → Prop) (st : σ) (oI : Obj),
    it = .ref I ∧ (∀ i h, St i h → ∃ o, h.get? I = some o) ∧ (∀ A' : Around, A'.handled = none → Walks prog w A' I [I, l] [I] n P St) ∧ St 0 s₂.heap ∧ Aft s s₂ ∧ Fr h₀ L s₂.heap (M st) ∧ News h₀ L s₂.heap ((I, oI) :: W st) ∧ R 0 st ∧ (∀ p ∈ W st, p.1 ≠ I) ∧
    (∀ i st, R i st → (l, ol) ∈ W st) ∧
    (∀ i x st I oI s', i < n → P i x → R i st → Aft s s' → Fr h₀ L s'.heap (setM (M st) v (some x)) → News h₀ L s'.heap ((I, oI) :: W st) → (∀ p ∈ W st, p.1 ≠ I) →
      wpAny (model prog w) A (execs body env) (fun fl s₃ => Held (fl = .next ∧ ∃ st', R (i + 1) st' ∧ Aft s' s₃ ∧ Fr h₀ L s₃.heap (M st') ∧ News h₀ L s₃.heap ((I, oI) :: W st') ∧ (∀ p ∈ W st', p.1 ≠ I))) E s') ∧
    (∀ st s', R n st → Aft s s' → Fr h₀ L s'.heap (M st) → News h₀ L s'.heap (W st) → Q .next s')
theorem for_inv2 {w : World} {A : Around} {E : Value → Shared → Prop} {s : Shared} {h₀ : Heap} {L a : Addr} {cn : Str} {cs : Scope} {cd : Value} {cl : List (Str × Addr)} {v : Str} {px pos : Pos} {iter : PySem.Expr} {body : List Stmt} {Q : Flow → Shared → Prop} {m0 : Str → Option Value}
    (_F : Fr h₀ L s.heap m0) (hh : A.handled = none) (hck : cs.kind = .function) (hkv : cs.names.lookup v = some .local)
    (h : wpAny (model prog w) A (eval iter (envX cn cs L a cd cl)) (fun xv s₁ => wpAny (model prog w) A (pyIter xv) (fun it s₂ => Held (ForAt w A E s h₀ (envX cn cs L a cd cl) L v body Q it s₂)) E s₁) E s)
    (hs : ∀ x, foldedSetIterable iter (envX cn cs L a cd cl) x = pure x := by intro _; rfl) (hE : PassesOwn (model prog w) A (envX cn cs L a cd cl) E := by passes_own) :
    wpAny (model prog w) A (exec (.For (.Name v px) iter body [] pos) (envX cn cs L a cd cl)) Q E s := by
  refine for_k (fun I k s' => ∃ (σ : Type) (M : σ → Str → Option Value) (W : σ → List (Addr × Obj)) (R : Nat → σ → Prop) (n : Nat) (P : Nat → Value → Prop) (l : Addr) (ol : Obj) (i : Nat) (st : σ) (oI : Obj) (St : Nat → Heap → Prop), k = n + 1 - i ∧ i ≤ n ∧ (∀ i h, St i h → ∃ o, h.get? I = some o) ∧
    (∀ A' : Around, A'.handled = none → Walks prog w A' I [I, l] [I] n P St) ∧ St i s'.heap ∧ Aft s s' ∧ Fr h₀ L s'.heap (M st) ∧ News h₀ L s'.heap ((I, oI) :: W st) ∧ R i st ∧ (∀ p ∈ W st, p.1 ≠ I) ∧
    (∀ i st, R i st → (l, ol) ∈ W st) ∧
    (∀ i x st I oI s', i < n → P i x → R i st → Aft s s' → Fr h₀ L s'.heap (setM (M st) v (some x)) → News h₀ L s'.heap ((I, oI) :: W st) → (∀ p ∈ W st, p.1 ≠ I) →
      wpAny (model prog w) A (execs body (envX cn cs L a cd cl)) (fun fl s₃ => Held (fl = .next ∧ ∃ st', R (i + 1) st' ∧ Aft s' s₃ ∧ Fr h₀ L s₃.heap (M st') ∧ News h₀ L s₃.heap ((I, oI) :: W st') ∧ (∀ p ∈ W st', p.1 ≠ I))) E s') ∧
    (∀ st s', R n st → Aft s s' → Fr h₀ L s'.heap (M st) → News h₀ L s'.heap (W st) → Q .next s')) ?_ ?_ hs hE
  · refine wpAny_mono h (fun xv s₁ h₁ => wpAny_mono h₁ (fun it s₂ h₂ => ?_) fun _ _ z => z) fun _ _ z => z
    obtain ⟨σ, M, W, R, n, P, l, ol, I, St, st, oI, rfl, hO, hW, hS, hA, F, N, hR, hI, h1, h2, h3⟩ := (h₂ : ForAt _ _ _ _ _ _ _ _ _ _ _ _)
    exact ⟨I, n + 1, rfl, σ, M, W, R, n, P, l, ol, 0, st, oI, St, rfl, Nat.zero_le _, hO, hW, hS, hA, F, N, hR, hI, h1, h2, h3⟩
  · rintro I k s' ⟨σ, M, W, R, n, P, l, ol, i, st, oI, St, rfl, hi, hO, hW, hS, hA, F, N, hR, hI, hsrc, hbody, hend⟩
    have NI := N _ (.head _)
    have hLI : L ∉ [I] := fun q => NI.2.1 (List.mem_singleton.mp q).symm
    have h0I : ∀ b o, h₀.get? b = some o → b ∉ [I] := fun b o e q => by
      rw [List.mem_singleton.mp q, NI.2.2] at e; cases e
    have hl := N _ (.tail _ (hsrc i st hR))
    have upd : ∀ h₁ : Heap, (∀ b o, b ∉ [I] → s'.heap.get? b = some o → h₁.get? b = some o) → Fr h₀ L h₁ (M st) ∧ News h₀ L h₁ (W st) := by
      intro h₁ k₁
      exact ⟨⟨F.ns.at' fun o e => k₁ _ o hLI e, fun b o e => k₁ b o (h0I b o e) (F.keep b o e), F.above⟩,
        fun q hq => ⟨k₁ _ _ (fun z => hI q hq (List.mem_singleton.mp z)) (N q (.tail _ hq)).1, (N q (.tail _ hq)).2⟩⟩
    by_cases hlt : i < n
    · refine (hW A hh).item i _ _ _ hlt hS fun x h₁ tk₁ hx st₁ k₁ => ?_
      obtain ⟨F₁, N₁⟩ := upd h₁ k₁
      dsimp only
      obtain ⟨oI', hI'⟩ := hO _ _ st₁
      refine wpAny_storeName_local (env := envX cn cs L a cd cl) hkv F₁.ns (fun h₂ hn₂ hs₂ => ?_) (by show (cs.kind == .class || (cs.kind == .module && L != mainGlobals)) = false; rw [hck]; rfl)
      have F₂ : Fr h₀ L h₂ (setM (M st) v (some x)) := F₁.set hn₂ hs₂
      have N₁' : News h₀ L h₁ ((I, oI') :: W st) := fun q hq => by
        rcases List.mem_cons.mp hq with rfl | hq
        · exact ⟨hI', NI.2⟩
        · exact N₁ q hq
      have N₂ : News h₀ L h₂ ((I, oI') :: W st) := N₁'.set hs₂
      refine wpAny_mono (hbody i x st I oI' _ hlt hx hR ⟨hA.os, hA.gens, hA.size⟩ F₂ N₂ hI) (fun fl s₃ hf => ?_) fun _ _ z => z
      obtain ⟨rfl, st', hR', hA', F', N', hI''⟩ := (hf : _)
      have stay : ∀ b ∈ [I, l], ∀ o, h₁.get? b = some o → s₃.heap.get? b = some o := fun b hb o eb => by
        rcases List.mem_cons.mp hb with rfl | hb
        · rw [hI'] at eb; cases eb; exact (N' _ (.head _)).1
        · rw [List.mem_singleton.mp hb] at eb ⊢
          rw [(N₁ _ (hsrc i st hR)).1] at eb; cases eb
          exact (N' _ (.tail _ (hsrc _ st' hR'))).1
      exact ⟨n + 1 - (i + 1), by omega, σ, M, W, R, n, P, l, ol, i + 1, st', oI', St, rfl, hlt, hO, hW, (hW A hh).frame _ _ _ st₁ stay, hA.trans ⟨hA'.os, hA'.gens, hA'.size⟩, F', N', hR', hI'', hsrc, hbody, hend⟩
    · obtain rfl : i = n := by omega
      refine (hW A hh).done _ _ _ hS fun h₁ tk₁ k₁ => ?_
      obtain ⟨F₁, N₁⟩ := upd h₁ k₁
      exact hend st _ hR ⟨hA.os, hA.gens, hA.size⟩ F₁ N₁
end
-- S37
section
set_option maxHeartbeats 0
theorem isSub_set : isSubtype (.type "set") (.type "set") = pure true := by rw [isSubtype_type]; kernel_rfl
theorem setLikeB {w : World} {h : Heap} {S : Addr} {d : Option Addr} {led : Bool} {ep : Nat} {vals : List (Nat × Tok)} (e : h.get? S = some (setO (.type "set") d led ep vals)) : SetLike (model prog w) h S := by
  have hT : Looks (model prog w) h (typeOf (.ref S)) (.type "set") := (Looks.ld e).andThen .now
  exact ⟨hT.andThen (Looks.of_pure F.slot_set_iter.lookup), hT.andThen (Looks.of_pure F.slot_set_len.lookup), hT.andThen (Looks.of_pure F.slot_set_contains.lookup), hT.andThen (Looks.of_pure isSub_set)⟩
section
variable {w : World} {A : Around} {E : Value → Shared → Prop} {s : Shared} {h₀ : Heap} {L : Addr} {m : Str → Option Value} {news : List (Addr × Obj)}
theorem news_new {h h' : Heap} {S : Addr} {o : Obj} (F : Fr h₀ L h m) (N : News h₀ L h news) (hS : S = h.objs.size) (k : ∀ b o, h.get? b = some o → h'.get? b = some o) (e : h'.get? S = some o) :
    Fr h₀ L h' m ∧ News h₀ L h' ((S, o) :: news) ∧ (∀ p ∈ news, p.1 < S) := by
  subst hS
  refine ⟨F.keeps k, fun p hp => ?_, fun p hp => Heap.lt_size (N p hp).1⟩
  rcases List.mem_cons.mp hp with rfl | hp
  · exact ⟨e, Nat.ne_of_gt F.ns.lt, Heap.get?_none_of_le (Nat.le_trans F.above (Nat.le_of_lt F.ns.lt))⟩
  · exact ⟨k _ _ (N p hp).1, (N p hp).2⟩
/-- `set(t)` of a tuple -/
theorem set_tupK {T : Addr} {cv : List (Nat × Tok)} {Q : Value → Shared → Prop} (hh : A.handled = none) (F : Fr h₀ L s.heap m) (N : News h₀ L s.heap news) (hm : (T, seqO "tuple" cv 0) ∈ news) (hsm : Sm cv)
    (h : ∀ S h' tk ep, Fr h₀ L h' m → News h₀ L h' ((S, exSet (ledW w) ep cv) :: news) → (∀ p ∈ news, p.1 < S) → Q (.ref S) { s with heap := h', toks := tk }) :
    wpAny (model prog w) A (call (.type "set") [.ref T]) Q E s := by
  refine call_set_seq hh (N _ hm).1 (.inr rfl) rfl rfl hsm fun h' tk ep k e => ?_
  obtain ⟨F', N', l'⟩ := news_new F N rfl k e
  exact h _ h' tk ep F' N' l'
/-- `S & x` of a set and a CandidateSet -/
theorem and_setK {S x : Addr} {dx ep ep' : Nat} {es eo : List (Nat × Tok)} {Q : Value → Shared → Prop} (F : Fr h₀ L s.heap m) (X : (kf.heap_1 w.params).In h₀) (N : News h₀ L s.heap news) (hS : (S, exSet (ledW w) ep es) ∈ news) (hx : (x, csO w dx ep' eo) ∈ news) (hs : Sm es) (ho : Sm eo) (hne : S ≠ x)
    (h2 : cntIn es eo ≤ 2) (h2' : cntIn eo es ≤ 2)
    (h : ∀ S' h' epr rs, Fr h₀ L h' m → News h₀ L h' ((S', exSet (ledW w) epr rs) :: news) → (∀ p ∈ news, p.1 < S') → Sm rs → (rs.length = cntIn es eo ∨ rs.length = cntIn eo es) → Q (.ref S') { s with heap := h' }) :
    wpAny (model prog w) A (binaryOp .BitAnd (.ref S) (.ref x)) Q E s := by
  refine and_set hne (N _ hS).1 (N _ hx).1 hs ho (setLike75 (X.keeps F.keep) (N _ hx).1) (andLike75 (X.keeps F.keep)) h2 h2' fun h' epr rs k e hr hl => ?_
  obtain ⟨F', N', l'⟩ := news_new F N rfl k e
  exact h _ h' epr rs F' N' l' hr hl
/-- the start of a loop over a set -/
theorem iter_setK {S : Addr} {ep : Nat} {rs : List (Nat × Tok)} {Q : Value → Shared → Prop} (F : Fr h₀ L s.heap m) (N : News h₀ L s.heap news) (hS : (S, exSet (ledW w) ep rs) ∈ news) (hsm : Sm rs)
    (h : ∀ (I : Addr) h' oI (St : Nat → Heap → Prop), Fr h₀ L h' m → News h₀ L h' ((I, oI) :: news) → (∀ p ∈ news, p.1 < I) → St 0 h' → (∀ i h, St i h → ∃ o, h.get? I = some o) →
      (∀ A' : Around, A'.handled = none → Walks prog w A' I [I, S] [I] rs.length (fun _ v => ∃ e ∈ rs, v = .int (e.1 : Int) e.2) St) → Q (.ref I) { s with heap := h' }) :
    wpAny (model prog w) A (pyIter (.ref S)) Q E s := by
  refine iter_set (setLikeB (N _ hS).1) (N _ hS).1 (by have := hsm.len; omega) ?_
  obtain ⟨F', N', l'⟩ := news_new (o := { cls := .type "set_iterator", data := .fields #[.int 0 0, .int 0 0, .ref S, .int rs.length 0, .int ep 0] }) F N rfl (fun b o e => Heap.get?_push_of_some _ e) (Heap.get?_push_size _ rfl)
  have hne : S ≠ s.heap.objs.size := Nat.ne_of_lt (l' _ hS)
  refine h _ _ _ (fun i h => (∃ slot, SlotOk w rs slot i ∧ SIt h s.heap.objs.size S rs.length ep slot i) ∧ h.get? S = some (setO (.type "set") none (ledW w) ep rs)) F' N' l' ⟨⟨0, ?_, (N' _ (.head _)).1⟩, (N' _ (.tail _ hS)).1⟩ (fun i h q => ?_) fun A' hA => Walks.set hA _ S hne _ none ep rs hsm
  · exact fun _ => (bel hsm).1
  · obtain ⟨⟨slot, _, e⟩, _⟩ := q
    exact ⟨_, e⟩
end
end
-- S38
section
set_option maxHeartbeats 0
section
open Builtin
local macro_rules | `(tactic| wp_step) => `(tactic| first | with_reducible (first | refine wpAny_pure ?_ | refine wpAny_bind ?_ | refine wpAny_holding ?_ | refine wpAny_standAt ?_ | refine wpAny_point ?_ | refine wpAny_rule ?_ | refine wpAny_attempt ?_ | refine wpAny_of_eq (by assumption) ?_ | refine wpAny_typeOf (by assumption) ?_ | refine wpAny_specialOf_val (by assumption) (by assumption) ?_ | refine wpAny_specialOf (by assumption) (by assumption) ?_ | refine wpAny_isInstance_val (by assumption) (by assumption) ?_ | refine wpAny_isInstance (by assumption) (by assumption) ?_ | refine wpAny_call ?_ | refine wpAny_runValue ?_ | refine wpAny_run ?_) | wp_delta)
theorem no_mul (a : Int) (t : Tok) (x C d : Addr) : Meets (Builtin.«int.__mul__» ⟨[.int a t, .ref x], []⟩) (fun _ R s => s.heap.get? x = some (instObj C d) ∧ R (.ok (.ret Value.notImplemented)) s) :=
  .of_wp fun prog w A R s h => by obtain ⟨hp, g, d, tk, os⟩ := s; obtain ⟨hl, h⟩ := h; wp_walk; exact ⟨_, rfl, h⟩
theorem no_add (a : Int) (t : Tok) (x C d : Addr) : Meets (Builtin.«int.__add__» ⟨[.int a t, .ref x], []⟩) (fun _ R s => s.heap.get? x = some (instObj C d) ∧ R (.ok (.ret Value.notImplemented)) s) :=
  .of_wp fun prog w A R s h => by obtain ⟨hp, g, d, tk, os⟩ := s; obtain ⟨hl, h⟩ := h; wp_walk; exact ⟨_, rfl, h⟩
theorem no_gt (a : Int) (t : Tok) (x C d : Addr) : Meets (Builtin.«int.__gt__» ⟨[.int a t, .ref x], []⟩) (fun _ R s => s.heap.get? x = some (instObj C d) ∧ R (.ok (.ret Value.notImplemented)) s) :=
  .of_wp fun prog w A R s h => by obtain ⟨hp, g, d, tk, os⟩ := s; obtain ⟨hl, h⟩ := h; wp_walk; exact ⟨_, rfl, h⟩
theorem no_eq (a : Int) (t : Tok) (x C d : Addr) : Meets (Builtin.«int.__eq__» ⟨[.int a t, .ref x], []⟩) (fun _ R s => s.heap.get? x = some (instObj C d) ∧ R (.ok (.ret Value.notImplemented)) s) :=
  .of_wp fun prog w A R s h => by obtain ⟨hp, g, d, tk, os⟩ := s; obtain ⟨hl, h⟩ := h; wp_walk; exact ⟨_, rfl, h⟩
end
section
variable {w : World} {A : Around} {E : Value → Shared → Prop} {s : Shared} {h₀ : Heap} {L x C d : Addr} {od : Obj} {m : Str → Option Value} {news : List (Addr × Obj)} {k : Int} {t : Tok}
theorem try_no {nm : Str} {id : String} {B : Builtin} {Q : Option Value → Shared → Prop} (slot : Slot "int" nm id) (entry : entryFor table id = some B) (args : argsOk id ⟨[.int k t, .ref x], []⟩) (hx : s.heap.get? x = some (instObj C d))
    (g : Meets (B ⟨[.int k t, .ref x], []⟩) (fun _ R s => s.heap.get? x = some (instObj C d) ∧ R (.ok (.ret Value.notImplemented)) s)) (h : Q none s) : wpAny (model prog w) A (tryMethod (.int k t) nm (.ref x)) Q E s := by
  unfold tryMethod
  refine wpAny_bind (wpAny_callSpecial?_slot (typeIs_int s k t) slot (call_meets slot (typeIs_int s k t) entry args g ⟨hx, ?_⟩))
  exact wpAny_pure h
/-- `k op x` of an int and an object with a reflected method -/
theorem binop_refl {nm : String} {id : String} {B : Builtin} {Q : Option Value → Shared → Prop} (hx : s.heap.get? x = some (instObj C d))
    (hfT : fillsNumberSlot (.type "int") nm = pure true) (slot : Slot "int" (PySem.dunder nm) id) (entry : entryFor table id = some B) (args : argsOk id ⟨[.int k t, .ref x], []⟩)
    (g : Meets (B ⟨[.int k t, .ref x], []⟩) (fun _ R s => s.heap.get? x = some (instObj C d) ∧ R (.ok (.ret Value.notImplemented)) s))
    (hfC : Looks (model prog w) s.heap (fillsNumberSlot (.ref C) nm) true) (hsub : Looks (model prog w) s.heap (isSubtype (.ref C) (.type "int")) false)
    (hright : wpAny (model prog w) A (tryMethod (.ref x) (dunderR nm) (.int k t)) (fun r s' => ∃ v, r = some v ∧ Q (some v) s') E s) :
    wpAny (model prog w) A (binaryOp1 nm (.int k t) (.ref x)) Q E s := by
  have hT : Looks (model prog w) s.heap (typeOf (.ref x)) (.ref C) := (Looks.ld hx).andThen .now
  unfold binaryOp1
  refine wpAny_bind (wpAny_typeOf (typeIs_int s k t) (wpAny_bind (hT.here ?_)))
  refine wpAny_bind (wpAny_of_eq hfT ?_)
  rw [if_neg (by simp)]
  refine wpAny_bind (hfC.here ?_)
  simp only [Bool.and_self, if_true]
  refine wpAny_bind (hsub.here ?_)
  simp only [Bool.false_eq_true, if_false, Bool.not_false, Bool.and_true, if_true]
  refine wpAny_bind (wpAny_of_eq (show numberSlotInPython (.type "int") nm = pure false from rfl) ?_)
  rw [if_neg (by decide)]
  refine wpAny_bind (try_no slot entry args hx g ?_)
  dsimp only
  rw [if_neg (by decide)]
  refine wpAny_bind (wpAny_mono hright (fun r s' hr => ?_) fun _ _ e => e)
  obtain ⟨v, rfl, hq⟩ := hr
  exact wpAny_bind (wpAny_rule (wpAny_pure hq))
theorem right_K {f : Addr} {nm : Str} {a : Value} {Q : Value → Shared → Prop} (X : (kf.heap_1 w.params).In s.heap) (I : InstAt s.heap x (instObj C d) C (some od)) (hs : findIn (kf.heap_1 w.params) (.ref C) nm = some (some (.ref f))) (hf : isFn (kf.heap_1 w.params) (.ref f) = true)
    (h : wpAny (model prog w) A (call (.ref f) [.ref x, a]) (PySem.W.CmpBack Q) E s) : wpAny (model prog w) A (tryMethod (.ref x) nm a) (fun r s' => ∃ v, r = some v ∧ Q v s') E s := by
  unfold tryMethod
  refine wpAny_bind (special_fn X I hs (beq_iff_eq.mp hf) (wpAny_mono h (fun v s' hv => ?_) fun _ _ e => e))
  cases v <;> first | exact hv.elim | exact wpAny_pure ⟨_, rfl, hv⟩
theorem fills305 (X : (kf.heap_1 w.params).In s.heap) {nm : String} {f : Addr} (hs : findIn (kf.heap_1 w.params) (.ref 305) (PySem.dunder nm) = some (some (.ref f))) : Looks (model prog w) s.heap (fillsNumberSlot (.ref 305) nm) true := by
  have hc : selfFirst (kf.heap_1 w.params) 305 = true := by kernel_rfl
  obtain ⟨cd, hcd, hm⟩ := any_some hc
  obtain ⟨rest, hm⟩ : ∃ rest, cd.mro = .ref 305 :: rest := by
    cases q : cd.mro with
    | nil => rw [q] at hm; cases hm
    | cons a r => rw [q] at hm; exact ⟨r, by rw [List.head?_cons] at hm; cases (beq_iff_eq.mp hm); rfl⟩
  exact fills_K X hcd hm hs
theorem sub305 (X : (kf.heap_1 w.params).In s.heap) : Looks (model prog w) s.heap (isSubtype (.ref 305) (.type "int")) false := looks_mroIn X (by kernel_rfl)
/-- int * Fraction -/
theorem mul_refl {Q : Value → Shared → Prop} (F : Fr h₀ L s.heap m) (X : (kf.heap_1 w.params).In h₀) (I : InstAt s.heap x (instObj 305 d) 305 (some od)) (h : wpAny (model prog w) A (call (.ref 253) [.ref x, .int k t]) (PySem.W.CmpBack Q) E s) :
    wpAny (model prog w) A (binaryOp .Mult (.int k t) (.ref x)) Q E s := by
  have X' := X.keeps F.keep
  unfold binaryOp
  refine wpAny_holding (wpAny_bind ?_)
  refine binop_refl I.at_ PySem.F.fills_int_mul PySem.F.slot_int_mul PySem.F.entry_int_mul (PySem.F.args_int_mul_2 _ _) (no_mul _ _ _ _ _) (fills305 X' (f := 246) (by kernel_rfl)) (sub305 X') (wpAny_mono (right_K X' I (f := 253) (by kernel_rfl) (by kernel_rfl) h) (fun r s' hr => ?_) fun _ _ e => e)
  obtain ⟨v, rfl, hq⟩ := hr
  exact ⟨v, rfl, wpAny_pure hq⟩
/-- int += Fraction -/
theorem iadd_refl {Q : Value → Shared → Prop} (F : Fr h₀ L s.heap m) (X : (kf.heap_1 w.params).In h₀) (I : InstAt s.heap x (instObj 305 d) 305 (some od)) (h : wpAny (model prog w) A (call (.ref 225) [.ref x, .int k t]) (PySem.W.CmpBack Q) E s) :
    wpAny (model prog w) A (inplaceOp .Add (.int k t) (.ref x)) Q E s := by
  have X' := X.keeps F.keep
  unfold inplaceOp
  refine wpAny_holding ?_
  have hfi : fillsInplaceSlot (.type "int") "add" (Operator.Add == .Add) = pure false := by
    unfold fillsInplaceSlot
    show (typeLookup (.type "int") (dunderI "add") >>= fun fi => pure (fi.isSome && !isSeqSlot fi)) = pure false
    rw [PySem.F.noI_int_add]; rfl
  refine wpAny_bind (wpAny_typeOf (typeIs_int s k t) (wpAny_bind (wpAny_of_eq hfi ?_)))
  rw [if_neg (by decide)]
  refine wpAny_bind (m := binaryOp1 "add" _ _) ?_
  refine binop_refl I.at_ PySem.F.fills_int_add PySem.F.slot_int_add PySem.F.entry_int_add (PySem.F.args_int_add_2 _ _) (no_add _ _ _ _ _) (fills305 X' (f := 218) (by kernel_rfl)) (sub305 X') (wpAny_mono (right_K X' I (f := 225) (by kernel_rfl) (by kernel_rfl) h) (fun r s' hr => ?_) fun _ _ e => e)
  obtain ⟨v, rfl, hq⟩ := hr
  exact ⟨v, rfl, wpAny_pure hq⟩
theorem try_noC {nm : Str} {id : String} {B : Builtin} {Q : Option Value → Shared → Prop} (slot : Slot "int" nm id) (entry : entryFor table id = some B) (args : argsOk id ⟨[.int k t, .ref x], []⟩) (hx : s.heap.get? x = some (instObj C d))
    (g : Meets (B ⟨[.int k t, .ref x], []⟩) (fun _ R s => s.heap.get? x = some (instObj C d) ∧ R (.ok (.ret Value.notImplemented)) s)) (h : Q none s) : wpAny (model prog w) A (tryCompare (.int k t) nm (.ref x)) Q E s := by
  unfold tryCompare
  refine wpAny_bind (wpAny_callSpecialIfBound?_slot (typeIs_int s k t) slot (call_meets slot (typeIs_int s k t) entry args g ⟨hx, ?_⟩))
  exact wpAny_pure h
/-- `k op x` of an int and a Fraction -/
theorem cmp_refl {op : CmpOp} {f : Addr} {id : String} {B : Builtin} {Q : Value → Shared → Prop} (hu : A.units < cLine) (F : Fr h₀ L s.heap m) (X₀ : (kf.heap_1 w.params).In h₀) (I : InstAt s.heap x (instObj 305 d) 305 (some od))
    (slot : Slot "int" (cmpInfo op).2.1 id) (entry : entryFor table id = some B) (args : argsOk id ⟨[.int k t, .ref x], []⟩) (g : Meets (B ⟨[.int k t, .ref x], []⟩) (fun _ R s => s.heap.get? x = some (instObj 305 d) ∧ R (.ok (.ret Value.notImplemented)) s))
    (hs : findIn (kf.heap_1 w.params) (.ref 305) (cmpInfo op).2.2 = some (some (.ref f))) (hf : isFn (kf.heap_1 w.params) (.ref f) = true) (hone : oneThing? op (.int k t) (.ref x) = none)
    (h : wpAny (model prog w) A (call (.ref f) [.ref x, .int k t]) (PySem.W.CmpBack Q) E s) : wpAny (model prog w) A (richCompare op (.int k t) (.ref x)) Q E s := by
  have X := X₀.keeps F.keep
  have hT : Looks (model prog w) s.heap (typeOf (.ref x)) (.ref 305) := (Looks.ld I.at_).andThen .now
  have one : wpAny (model prog w) A (tryCompare (.ref x) (cmpInfo op).2.2 (.int k t)) (fun r s' => ∃ v, r = some v ∧ Q v s') E s := by
    unfold tryCompare
    refine wpAny_bind (ifBound_K X I hs hf (wpAny_mono h (fun v s' hv => ?_) fun _ _ e => e))
    cases v <;> first | exact hv.elim | exact wpAny_pure ⟨_, rfl, hv⟩
  unfold richCompare
  rw [hone]
  refine wpAny_holding (wpAny_bind (wpAny_cRoomFor hu ?_))
  dsimp only
  refine wpAny_bind (wpAny_typeOf (typeIs_int s k t) (wpAny_bind (hT.here ?_)))
  rw [if_pos (by simp)]
  refine wpAny_bind ((sub305 X).here ?_)
  simp only [Bool.false_eq_true, if_false]
  refine wpAny_bind (try_noC slot entry args I.at_ g ?_)
  simp only [Bool.not_false, if_true]
  refine wpAny_bind (wpAny_mono one (fun r s' z => ?_) fun _ _ e => e)
  obtain ⟨v, rfl, hq⟩ := z
  exact wpAny_pure hq
theorem gt_refl {Q : Value → Shared → Prop} (hu : A.units < cLine) (F : Fr h₀ L s.heap m) (X₀ : (kf.heap_1 w.params).In h₀) (I : InstAt s.heap x (instObj 305 d) 305 (some od)) (h : wpAny (model prog w) A (call (.ref 281) [.ref x, .int k t]) (PySem.W.CmpBack Q) E s) :
    wpAny (model prog w) A (compareOp .Gt (.int k t) (.ref x)) Q E s :=
  cmp_ofGt (cmp_refl hu F X₀ I PySem.F.slot_int_gt PySem.F.entry_int_gt (PySem.F.args_int_gt_2 _ _) (no_gt _ _ _ _ _) (by kernel_rfl) (by kernel_rfl) rfl h)
theorem eq_refl' {Q : Value → Shared → Prop} (hu : A.units < cLine) (F : Fr h₀ L s.heap m) (X₀ : (kf.heap_1 w.params).In h₀) (I : InstAt s.heap x (instObj 305 d) 305 (some od)) (h : wpAny (model prog w) A (call (.ref 274) [.ref x, .int k t]) (PySem.W.CmpBack Q) E s) :
    wpAny (model prog w) A (compareOp .Eq (.int k t) (.ref x)) Q E s :=
  cmp_ofEq (cmp_refl hu F X₀ I PySem.F.slot_int_eq PySem.F.entry_int_eq (PySem.F.args_int_eq_2 _ _) (no_eq _ _ _ _ _) (by kernel_rfl) (by kernel_rfl) rfl h)
/-- Fraction += Fraction -/
theorem noI305 (X : (kf.heap_1 w.params).In s.heap) : Looks (model prog w) s.heap (fillsInplaceSlot (.ref 305) "add" (Operator.Add == .Add)) false := by
  have hmm : (clsIn (kf.heap_1 w.params) 305).map (·.mro) = some [.ref 305, .type "object"] := by kernel_rfl
  cases hc : clsIn (kf.heap_1 w.params) 305 with
  | none => rw [hc] at hmm; cases hmm
  | some cd =>
    rw [hc] at hmm
    have hm : cd.mro = [.ref 305, .type "object"] := Option.some.inj hmm
    intro A Q E s k q
    have Lm : Looks (model prog w) s.heap (mroOf (.ref 305)) cd.mro := (looks_clsIn (X.keeps k) hc).andThen (f := fun cd => pure cd.mro) .now
    have L1 : Looks (model prog w) s.heap (typeLookup (.ref 305) (dunderI "add")) none := looks_findIn (X.keeps k) (by kernel_rfl)
    have L2 : Looks (model prog w) s.heap (typeLookup (.type "object") (dunderI "add")) none := looks_findIn (X.keeps k) (by kernel_rfl)
    unfold fillsInplaceSlot
    refine wpAny_bind (Lm.here ?_)
    rw [hm, List.anyM_cons]
    refine wpAny_bind (wpAny_bind (L1.here (wpAny_pure ?_)))
    rw [if_neg (by decide), List.anyM_cons]
    refine wpAny_bind (wpAny_bind (L2.here (wpAny_pure ?_)))
    rw [if_neg (by decide), List.anyM_nil]
    exact wpAny_pure q
theorem iadd_own {y : Addr} {Q : Value → Shared → Prop} (F : Fr h₀ L s.heap m) (X₀ : (kf.heap_1 w.params).In h₀) (I : InstAt s.heap x (instObj 305 d) 305 (some od)) (hy : Looks (model prog w) s.heap (typeOf (.ref y)) (.ref 305))
    (h : wpAny (model prog w) A (call (.ref 218) [.ref x, .ref y]) (PySem.W.CmpBack Q) E s) : wpAny (model prog w) A (inplaceOp .Add (.ref x) (.ref y)) Q E s := by
  have X := X₀.keeps F.keep
  unfold inplaceOp
  refine wpAny_holding ?_
  refine wpAny_bind (I.type.here (wpAny_bind ((noI305 X).here ?_)))
  rw [if_neg (by decide)]
  refine wpAny_bind (m := binaryOp1 "add" _ _) ?_
  unfold binaryOp1
  refine wpAny_bind (I.type.here (wpAny_bind (hy.here (wpAny_bind ((fills305 X (nm := "add") (f := 218) (by kernel_rfl)).here ?_)))))
  simp only [beq_self_eq_true, if_true]
  refine wpAny_bind (wpAny_pure ?_)
  simp only [Bool.and_false, Bool.false_eq_true, if_false, Bool.false_and]
  refine wpAny_bind (wpAny_pure ?_)
  simp only [Bool.false_eq_true, if_false]
  refine wpAny_bind (wpAny_mono (right_K X I (f := 218) (nm := PySem.dunder "add") (by kernel_rfl) (by kernel_rfl) h) (fun r s' hr => ?_) fun _ _ e => e)
  obtain ⟨v, rfl, hq⟩ := hr
  exact wpAny_pure (wpAny_pure hq)
end
end
-- S36
section
set_option maxHeartbeats 0
local macro_rules | `(tactic| k_room) => `(tactic| ktr_room)
local macro_rules | `(tactic| k_units) => `(tactic| ktr_units)
local macro_rules | `(tactic| k_enter) => `(tactic| (refine' code_def ?k1 ?k2 ?k3 ?k4 ?k5 ?kA ?kF ?kK ?k6 ?k7 ?k8 ?k9 ?kB ?_ ?c2 ?c3 ?c4 ?c5; (case kA => exact rfl); (case kF => exact rfl); (case kK => first | exact rfl | assumption); (case k1 => k_asm); (case k2 => k_asm); (case k3 => k_asm); (case k4 => k_asm); (case k5 => k_asm); (case k6 => k_is); (case k7 => k_is); (case k8 => ktr_room); (case k9 => first | exact BindsTo.of_eq rfl | exact binds_K (by k_in) rfl (by k_is) rfl rfl rfl); (case c5 => decide); (case kB => exact locs rfl); (case c2 => exact rfl); (case c3 => exact rfl); (case c4 => exact rfl); k_whole; intro g' L' h' FG' F' N' B' X' T'; (try dsimp only); (try k_fold)))
local macro_rules | `(tactic| k_mem) => `(tactic| first | exact List.Mem.head _ | assumption | (refine' List.Mem.tail _ ?_; k_mem))
/-- a voter as the profile holds it -/
structure Vr where
  v : Addr
  dv : Addr
  x : Addr
  dx : Addr
  e : Edge
  wt : Nat
  ep : Nat
  t1 : Tok
  t2 : Tok
  tw : Tok
  ta : Tok
  tb : Tok
def Vr.vals (r : Vr) : List (Nat × Tok) := [(r.e.1, r.ta), (r.e.2, r.tb)]
def Vr.block (w : World) (r : Vr) : List (Addr × Obj) := [(r.x, csO w r.dx r.ep r.vals), (r.dx, emptyDict), (r.v, instObj 718 r.dv), (r.dv, voD w r.x r.wt r.t1 r.t2 r.tw)]
/-- a voter's numbers -/
structure Vr.Ok (r : Vr) : Prop where
  a : r.e.1 < 3
  b : 3 ≤ r.e.2
  b6 : r.e.2 < 6
  w1 : 1 ≤ r.wt
  w5 : r.wt ≤ 5
theorem Vr.Ok.sm {r : Vr} (h : r.Ok) : Sm r.vals := by
  refine ⟨by simp [Vr.vals], fun e he => ?_, ?_⟩
  · have h1 := h.a; have h2 := h.b6
    simp only [Vr.vals, List.mem_cons, List.not_mem_nil, or_false] at he
    rcases he with rfl | rfl
    · show r.e.1 < 8; omega
    · show r.e.2 < 8; omega
  · have h1 := h.a; have h2 := h.b
    simp only [Vr.vals, List.map_cons, List.map_nil, List.pairwise_cons, List.mem_cons, List.not_mem_nil, or_false, forall_eq, false_implies, implies_true, List.Pairwise.nil, and_true]
    omega
/-- a score: the int 0, or a Fraction -/
inductive Sc where
  | zero (t : Tok)
  | fr (x d : Addr) (n : Nat) (t1 t2 t3 t4 : Tok)
def Sc.val : Sc → Value
  | .zero t => .int 0 t
  | .fr x _ _ _ _ _ _ => .ref x
def Sc.led (w : World) : Sc → List (Addr × Obj)
  | .zero _ => []
  | .fr x d n t1 t2 t3 t4 => [(x, instObj 305 d), (d, frD w n t1 t2 t3 t4)]
def Sc.num : Sc → Nat
  | .zero _ => 0
  | .fr _ _ n _ _ _ _ => n
/-- the score's objects are younger than the ledger -/
def Sc.Above (news : List (Addr × Obj)) : Sc → Prop
  | .zero _ => True
  | .fr x d _ _ _ _ _ => (∀ q ∈ news, q.1 < d) ∧ d < x
local macro_rules | `(tactic| fail "hook call builtin:len") => `(tactic| (k_here; k_dflt (refine len_tupK (by k_asm) (by k_mem) (by (try simp only [List.length_map]); omega) ?_; intro t' tk')))
local macro_rules | `(tactic| fail "hook exec For Name Name cons nil") => `(tactic| (k_here; (refine Held.out ?_)))
local macro_rules | `(tactic| fail "hook exec For") => `(tactic| (k_here; (refine Held.out ?_)))
local macro_rules | `(tactic| fail "hook call type:set") => `(tactic| (k_here; (refine set_tupK rfl (by k_asm) (by k_asm) (by k_mem) (by assumption) ?_); intro S' h' tk' ep' F' N' l1))
local macro_rules | `(tactic| fail "hook binaryOp BitAnd ref ref") => `(tactic| (k_here; (refine Held.out ?_)))
local macro_rules | `(tactic| fail "hook pyIter ref") => `(tactic| (refine Held.out ?_))
abbrev litO (l : Addr) (i : Nat) : Obj := { cls := .type "list_iterator", data := .fields #[.ref l, .int i 0] }
theorem iter_listK {w : World} {A : Around} {E : Value → Shared → Prop} {s : Shared} {h₀ : Heap} {L l : Addr} {m : Str → Option Value} {news : List (Addr × Obj)} {its : Array Value} {n : Nat} {Q : Value → Shared → Prop}
    (F : Fr h₀ L s.heap m) (N : News h₀ L s.heap news) (hm : (l, listOf its n) ∈ news)
    (h : ∀ (I : Addr) h', Fr h₀ L h' m → News h₀ L h' ((I, litO l 0) :: news) → (∀ p ∈ news, p.1 < I) → Q (.ref I) { s with heap := h' }) :
    wpAny (model prog w) A (call (.builtin "iter") [.ref l]) Q E s := by
  refine call_function_entry (by decide +kernel) (by decide +kernel) kdk_entry_iter (kdk_args_iter _) ?_
  unfold Builtin.«iter»
  refine wpAny_bind (m := someArgs "iter" 1 2 _) (wpAny_of_eq (a := [Value.ref l]) (by first | rfl | kernel_rfl!) ?_)
  show wpAny _ _ (pyIter (.ref l) >>= _) _ _ _
  refine wpAny_bind (wpAny_pyIter_list (News.isList N hm) ?_)
  exact wpAny_pure ⟨_, rfl, h _ _ (F.push _) (News.push F N _ rfl) (fun q hq => Heap.lt_size (N q hq).1)⟩
local macro_rules | `(tactic| fail "hook call builtin:iter") => `(tactic| (k_here; (refine iter_listK (by k_asm) (by k_asm) (by k_mem) ?_); intro D' h' F' N' l1; (try k_lt l1)))
local macro_rules | `(tactic| fail "hook OwitIt") => `(tactic| (refine Held.out ?_))
/-- the names of thiele_score that its loops store -/
structure Tst where
  un : Option Value
  cand : Option Value
  ov : Option Value
  sc : Sc
abbrev Tst.map (m0 : Str → Option Value) (st : Tst) : Str → Option Value := fun y =>
  if y = Str.ofString "_" then st.un else if y = Str.ofString "cand_in_com" then st.cand else if y = Str.ofString "vote" then st.ov else if y = Str.ofString "score" then some st.sc.val else m0 y
theorem Tst.begin {h₀ h : Heap} {L : Addr} {m0 : Str → Option Value} {t : Tok} (F : Fr h₀ L h m0) (e : m0 (Str.ofString "score") = some (.int 0 t)) : ∃ st : Tst, Fr h₀ L h (st.map m0) ∧ st.sc = .zero t := by
  refine ⟨⟨m0 (Str.ofString "_"), m0 (Str.ofString "cand_in_com"), m0 (Str.ofString "vote"), .zero t⟩, ?_, rfl⟩
  have q : Tst.map m0 ⟨m0 (Str.ofString "_"), m0 (Str.ofString "cand_in_com"), m0 (Str.ofString "vote"), .zero t⟩ = m0 := by
    funext y
    simp only [Tst.map]
    split
    · rename_i h; rw [h]
    split
    · rename_i h; rw [h]
    split
    · rename_i h; rw [h]
    split
    · rename_i h; rw [h]; exact e.symm
    rfl
  rw [q]
  exact F
-- RULES
local macro_rules | `(tactic| fail "hook inplaceOp Add") => `(tactic| (k_here; (dsimp only [Sc.val])))
local macro_rules | `(tactic| fail "hook inplaceOp Add ref") => `(tactic| (k_here; (with_reducible show wpAny _ _ (inplaceOp .Add (Value.ref _) (Value.ref _)) _ _ _); (refine' iadd_own ?i1 ?i2 ?i3 ?i4 ?_; (case i1 => k_asm); (case i2 => k_asm); (case i3 => k_inst); (case i4 => exact InstAt.type (by k_inst)))))
local macro_rules | `(tactic| fail "hook inplaceOp Add ref ref") => `(tactic| (k_here; (with_reducible show wpAny _ _ (inplaceOp .Add (Value.ref _) (Value.ref _)) _ _ _); (refine' iadd_own ?i1 ?i2 ?i3 ?i4 ?_; (case i1 => k_asm); (case i2 => k_asm); (case i3 => k_inst); (case i4 => exact InstAt.type (by k_inst)))))
local macro_rules | `(tactic| fail "hook binaryOp Mult int ref") => `(tactic| (k_here; (refine' mul_refl ?i1 ?i2 ?i3 ?_; (case i1 => k_asm); (case i2 => k_asm); (case i3 => k_inst))))
local macro_rules | `(tactic| fail "hook inplaceOp Add int ref") => `(tactic| (k_here; (refine' iadd_refl ?i1 ?i2 ?i3 ?_; (case i1 => k_asm); (case i2 => k_asm); (case i3 => k_inst))))
local macro_rules | `(tactic| fail "hook call ref") => `(tactic| (k_here; (with_reducible show wpAny _ _ (call (Value.ref 388) [Value.int _ _]) _ _ _); k_dflt (refine' (cc_one _ _ _) _ _ _ _ _ _ _ _ _ _ _ _ _ _ _ _ _ _ _ _ _ ?cB ?cF ?cX ?cN ?cT ?cK ?cD ?cU ?cG ?_; (case cB => k_asm); (case cF => k_asm); (case cX => k_asm); (case cN => k_asm); (case cT => k_asm); (case cK => first | exact rfl | assumption); (case cD => ktr_room); (case cU => ktr_units); (case cG => assumption)); (intro r' nw' s' hA' F' N' hP'; obtain ⟨x', d', t1', t2', t3', t4', e1', e2', l1, l2⟩ := hP'; subst e1'; subst e2'; (try dsimp only [frD] at N'); (have hG' := Aft.gens hA' (by assumption)); (have l1c := l1); (try k_lt l1); (try k_lt2 l2); (try dsimp only [PySem.W.CmpBack]); (try dsimp only); (try k_fold))))
local macro_rules | `(tactic| fail "hook call ref") => `(tactic| (k_here; (with_reducible show wpAny _ _ (call (Value.ref 388) [Value.int _ _]) _ _ _); k_dflt (refine' (cc_two _ _ _) _ _ _ _ _ _ _ _ _ _ _ _ _ _ _ _ _ _ _ _ _ ?cB ?cF ?cX ?cN ?cT ?cK ?cD ?cU ?cG ?_; (case cB => k_asm); (case cF => k_asm); (case cX => k_asm); (case cN => k_asm); (case cT => k_asm); (case cK => first | exact rfl | assumption); (case cD => ktr_room); (case cU => ktr_units); (case cG => assumption)); (intro r' nw' s' hA' F' N' hP'; obtain ⟨x', d', t1', t2', t3', t4', e1', e2', l1, l2⟩ := hP'; subst e1'; subst e2'; (try dsimp only [frD] at N'); (have hG' := Aft.gens hA' (by assumption)); (have l1c := l1); (try k_lt l1); (try k_lt2 l2); (try dsimp only [PySem.W.CmpBack]); (try dsimp only); (try k_fold))))
local macro_rules | `(tactic| fail "hook call ref") => `(tactic| (k_here; (with_reducible show wpAny _ _ (call (Value.ref 253) [Value.ref _, Value.int _ _]) _ _ _); k_dflt (refine' (fr_rmul _ _ _ _ _ _ _ _ _ _ _ ?d1 ?d2 ?c0 ?c1 ?c2 ?c3) _ _ _ _ _ _ _ _ _ _ _ _ _ _ _ _ _ _ _ _ _ ?cB ?cF ?cX ?cN ?cT ?cK ?cD ?cU ?cG ?_; (case cB => k_asm); (case cF => k_asm); (case cX => k_asm); (case cN => k_asm); (case cT => k_asm); (case cK => first | exact rfl | assumption); (case cD => ktr_room); (case cU => ktr_units); (case cG => assumption); (case d1 => k_mem); (case d2 => k_mem); (case c0 => omega); (case c1 => omega); (case c2 => omega); (case c3 => omega)); (intro r' nw' s' hA' F' N' hP'; obtain ⟨x', d', t1', t2', t3', t4', e1', e2', l1, l2⟩ := hP'; subst e1'; subst e2'; (try dsimp only [frD] at N'); (have hG' := Aft.gens hA' (by assumption)); (have l1c := l1); (try k_lt l1); (try k_lt2 l2); (try dsimp only [PySem.W.CmpBack]); (try dsimp only); (try k_fold))))
local macro_rules | `(tactic| fail "hook call ref") => `(tactic| (k_here; (with_reducible show wpAny _ _ (call (Value.ref 225) [Value.ref _, Value.int _ _]) _ _ _); k_dflt (refine' (fr_radd _ _ _ _ _ _ _ _ _ _ ?d1 ?d2 ?c0 ?c1) _ _ _ _ _ _ _ _ _ _ _ _ _ _ _ _ _ _ _ _ _ ?cB ?cF ?cX ?cN ?cT ?cK ?cD ?cU ?cG ?_; (case cB => k_asm); (case cF => k_asm); (case cX => k_asm); (case cN => k_asm); (case cT => k_asm); (case cK => first | exact rfl | assumption); (case cD => ktr_room); (case cU => ktr_units); (case cG => assumption); (case d1 => k_mem); (case d2 => k_mem); (case c0 => omega); (case c1 => omega)); (intro r' nw' s' hA' F' N' hP'; obtain ⟨x', d', t1', t2', t3', t4', e1', e2', l1, l2⟩ := hP'; subst e1'; subst e2'; (try dsimp only [frD] at N'); (have hG' := Aft.gens hA' (by assumption)); (have l1c := l1); (try k_lt l1); (try k_lt2 l2); (try dsimp only [PySem.W.CmpBack]); (try dsimp only); (try k_fold))))
local macro_rules | `(tactic| fail "hook call ref") => `(tactic| (k_here; (with_reducible show wpAny _ _ (call (Value.ref 218) [Value.ref _, Value.ref _]) _ _ _); k_dflt (refine' (fr_add _ _ _ _ _ _ _ _ _ _ _ _ _ _ _ _ ?d1 ?d2 ?d3 ?d4 ?c0 ?c1 ?c2 ?c3) _ _ _ _ _ _ _ _ _ _ _ _ _ _ _ _ _ _ _ _ _ ?cB ?cF ?cX ?cN ?cT ?cK ?cD ?cU ?cG ?_; (case cB => k_asm); (case cF => k_asm); (case cX => k_asm); (case cN => k_asm); (case cT => k_asm); (case cK => first | exact rfl | assumption); (case cD => ktr_room); (case cU => ktr_units); (case cG => assumption); (case d1 => k_mem); (case d2 => k_mem); (case d3 => k_mem); (case d4 => k_mem); (case c0 => omega); (case c1 => omega); (case c2 => omega); (case c3 => omega)); (intro r' nw' s' hA' F' N' hP'; obtain ⟨x', d', t1', t2', t3', t4', e1', e2', l1, l2⟩ := hP'; subst e1'; subst e2'; (try dsimp only [frD] at N'); (have hG' := Aft.gens hA' (by assumption)); (have l1c := l1); (try k_lt l1); (try k_lt2 l2); (try dsimp only [PySem.W.CmpBack]); (try dsimp only); (try k_fold))))
/-- the names that the inner loop stores -/
structure Ist where
  un : Option Value
  k : Nat
  t : Tok
  sc : Sc
abbrev Ist.map (m0 : Str → Option Value) (st : Ist) : Str → Option Value := fun y =>
  if y = Str.ofString "_" then st.un else if y = Str.ofString "cand_in_com" then some (.int (st.k : Int) st.t) else if y = Str.ofString "score" then some st.sc.val else m0 y
theorem Ist.begin {h₀ h : Heap} {L : Addr} {m0 : Str → Option Value} {sc : Sc} {t : Tok} (F : Fr h₀ L h m0) (e : m0 (Str.ofString "score") = some sc.val) (e2 : m0 (Str.ofString "cand_in_com") = some (.int 0 t)) :
    ∃ st : Ist, Fr h₀ L h (st.map m0) ∧ st.sc = sc ∧ st.k = 0 := by
  refine ⟨⟨m0 (Str.ofString "_"), 0, t, sc⟩, ?_, rfl, rfl⟩
  have q : Ist.map m0 ⟨m0 (Str.ofString "_"), 0, t, sc⟩ = m0 := by
    funext y
    simp only [Ist.map]
    split
    · rename_i h; rw [h]
    split
    · rename_i h; rw [h]; exact e2.symm
    split
    · rename_i h; rw [h]; exact e.symm
    rfl
  rw [q]
  exact F
theorem Fr.to {h₀ h : Heap} {L : Addr} {m m' : Str → Option Value} (F : Fr h₀ L h m) (e : ∀ y, m' y = m y) : Fr h₀ L h m' := by
  rw [show m' = m from funext e]
  exact F
theorem Ist.after {h₀ h : Heap} {L : Addr} {m0 : Str → Option Value} {st : Ist} {x sv : Value} {kk : Int} {k' : Nat} {t : Tok} {sc' : Sc}
    (F : Fr h₀ L h (fun y => if y = Str.ofString "score" then some sv else if y = Str.ofString "cand_in_com" then some (.int kk t) else setM (st.map m0) (Str.ofString "_") (some x) y)) (hs : sv = sc'.val) (hk : kk = (k' : Int)) :
    Fr h₀ L h (Ist.map m0 ⟨some x, k', t, sc'⟩) := by
  subst hs
  subst hk
  refine Fr.to F fun y => ?_
  by_cases h1 : y = Str.ofString "_"
  · rw [h1]; rfl
  by_cases h2 : y = Str.ofString "cand_in_com"
  · rw [h2]; rfl
  by_cases h3 : y = Str.ofString "score"
  · rw [h3]; rfl
  simp only [Ist.map, setM, if_neg h1, if_neg h2, if_neg h3]
theorem Tst.after {h₀ h : Heap} {L : Addr} {m0 : Str → Option Value} {st : Tst} {st2 : Ist} {x c : Value}
    (F : Fr h₀ L h (st2.map (fun y => if y = Str.ofString "cand_in_com" then some c else setM (st.map m0) (Str.ofString "vote") (some x) y))) :
    Fr h₀ L h (Tst.map m0 ⟨st2.un, some (.int (st2.k : Int) st2.t), some x, st2.sc⟩) := by
  refine Fr.to F fun y => ?_
  by_cases h1 : y = Str.ofString "_"
  · rw [h1]; rfl
  by_cases h2 : y = Str.ofString "cand_in_com"
  · rw [h2]; rfl
  by_cases h3 : y = Str.ofString "score"
  · rw [h3]; rfl
  by_cases h4 : y = Str.ofString "vote"
  · rw [h4]; rfl
  simp only [Tst.map, Ist.map, setM, if_neg h1, if_neg h2, if_neg h3, if_neg h4]
theorem news_in3 {h₀ h : Heap} {L : Addr} {a1 a2 b1 b2 c1 c2 i s : Addr × Obj} {r : List (Addr × Obj)} (N : News h₀ L h (a1 :: a2 :: b1 :: b2 :: c1 :: c2 :: i :: s :: r)) : News h₀ L h (i :: ([a1, a2] ++ s :: r)) :=
  fun q hq => N q (by simp only [List.cons_append, List.nil_append, List.mem_cons] at hq ⊢; grind)
theorem news_in3f {h₀ h : Heap} {L : Addr} {a1 a2 b1 b2 c1 c2 i o1 o2 s : Addr × Obj} {r : List (Addr × Obj)} (N : News h₀ L h (a1 :: a2 :: b1 :: b2 :: c1 :: c2 :: i :: o1 :: o2 :: s :: r)) : News h₀ L h (i :: ([a1, a2] ++ s :: r)) :=
  fun q hq => N q (by simp only [List.cons_append, List.nil_append, List.mem_cons] at hq ⊢; grind)
theorem news_out {h₀ h : Heap} {L : Addr} {l : List (Addr × Obj)} {i s : Addr × Obj} {r : List (Addr × Obj)} (N : News h₀ L h (l ++ s :: i :: r)) : News h₀ L h (i :: (l ++ r)) :=
  fun q hq => N q (by simp only [List.mem_append, List.mem_cons] at hq ⊢; grind)
theorem inner_done {w : World} {h₀ : Heap} {L : Addr} {m0 : Str → Option Value} {news big : List (Addr × Obj)} {S2 I I3 : Addr} {oS oI oI3 : Obj} {base wt i2 NN : Nat} {nn : Int} {s2 s₃ : Shared} {st : Ist} {x2 : Value} {kk : Int} {t : Tok} {x d : Addr} {t1 t2 t3 t4 : Tok}
    (A : Aft s2 s₃) (F : Fr h₀ L s₃.heap (fun y => if y = Str.ofString "score" then some (.ref x) else if y = Str.ofString "cand_in_com" then some (.int kk t) else setM (st.map m0) (Str.ofString "_") (some x2) y)) (hk : kk = ((i2 + 1 : Nat) : Int))
    (N : News h₀ L s₃.heap ((x, instObj 305 d) :: (d, frD w nn t1 t2 t3 t4) :: big)) (hnn : nn = (NN : Int)) (hb : ∀ q ∈ (I3, oI3) :: (S2, oS) :: (I, oI) :: news, q ∈ big) (l1 : ∀ q ∈ big, q.1 < d) (l2 : d < x)
    (hn : NN = base + (if 0 < i2 + 1 then wt else 0)) (hI3 : ∀ q ∈ (S2, oS) :: (I, oI) :: news, q.1 ≠ I3) :
    ∃ st' : Ist, (st'.k = i2 + 1 ∧ st'.sc.num = base + (if 0 < i2 + 1 then wt else 0) ∧ st'.sc.Above news ∧ (∀ q ∈ st'.sc.led w, q.1 ≠ I) ∧ (0 < i2 + 1 → ∃ x d n t1 t2 t3 t4, st'.sc = .fr x d n t1 t2 t3 t4)) ∧ Aft s2 s₃ ∧ Fr h₀ L s₃.heap (st'.map m0) ∧
      News h₀ L s₃.heap ((I3, oI3) :: (st'.sc.led w ++ (S2, oS) :: (I, oI) :: news)) ∧ (∀ q ∈ st'.sc.led w ++ (S2, oS) :: (I, oI) :: news, q.1 ≠ I3) := by
  subst hnn
  have lI3 := l1 _ (hb _ (.head _))
  have lI := l1 _ (hb _ (.tail _ (.tail _ (.head _))))
  refine ⟨⟨some x2, i2 + 1, t, .fr x d NN t1 t2 t3 t4⟩, ⟨rfl, hn, ⟨fun q hq => l1 q (hb q (.tail _ (.tail _ (.tail _ hq)))), l2⟩, ?_, fun _ => ⟨_, _, _, _, _, _, _, rfl⟩⟩, A, Ist.after F rfl hk, ?_, ?_⟩
  · intro q hq
    rcases List.mem_cons.mp hq with rfl | hq
    · exact Nat.ne_of_gt (Nat.lt_trans lI l2)
    · rw [List.mem_singleton.mp hq]
      exact Nat.ne_of_gt lI
  · intro q hq
    rcases List.mem_cons.mp hq with rfl | hq
    · exact N _ (.tail _ (.tail _ (hb _ (.head _))))
    · rcases List.mem_append.mp hq with hq | hq
      · rcases List.mem_cons.mp hq with rfl | hq
        · exact N _ (.head _)
        · rw [List.mem_singleton.mp hq]
          exact N _ (.tail _ (.head _))
      · exact N _ (.tail _ (.tail _ (hb _ (.tail _ hq))))
  · intro q hq
    rcases List.mem_append.mp hq with hq | hq
    · rcases List.mem_cons.mp hq with rfl | hq
      · exact Nat.ne_of_gt (Nat.lt_trans lI3 l2)
      · rw [List.mem_singleton.mp hq]
        exact Nat.ne_of_gt lI3
    · exact hI3 q hq
theorem cnt_two {cv : List (Nat × Tok)} (hcv : Sm cv) (r : Vr) : cntIn cv r.vals ≤ 2 ∧ cntIn r.vals cv ≤ 2 := by
  constructor
  · have h1 : ((cv.filter fun e => has r.vals e.1).map (·.1)).length ≤ [r.e.1, r.e.2].length := by
      refine nodup_le _ _ ?_ ?_
      · have h2 : ((cv.filter fun e => has r.vals e.1).map (·.1)).Pairwise (· < ·) := (List.Pairwise.sublist ((List.filter_sublist).map _) hcv.up)
        exact h2.imp fun h => Nat.ne_of_lt h
      · intro x hx
        obtain ⟨e, he, rfl⟩ := List.mem_map.mp hx
        have h3 := (List.mem_filter.mp he).2
        simp only [has, Vr.vals, List.any_cons, List.any_nil, Bool.or_false, Bool.or_eq_true, beq_iff_eq] at h3
        simp only [List.mem_cons, List.not_mem_nil, or_false]
        rcases h3 with h | h
        · exact .inl h.symm
        · exact .inr h.symm
    rw [List.length_map] at h1
    exact h1
  · exact List.length_filter_le _ _
theorem cnt_hits {cv : List (Nat × Tok)} {r : Vr} {k : Nat} (h : k = cntIn cv r.vals ∨ k = cntIn r.vals cv) : 0 < k ↔ hits (cv.map (·.1)) r.e = true := by
  have e1 : hits (cv.map (·.1)) r.e = true ↔ (∃ e ∈ cv, e.1 = r.e.1 ∨ e.1 = r.e.2) := by
    unfold hits
    rw [Bool.or_eq_true, List.contains_iff_mem, List.contains_iff_mem, List.mem_map, List.mem_map]
    constructor
    · rintro (⟨e, he, q⟩ | ⟨e, he, q⟩)
      · exact ⟨e, he, .inl q⟩
      · exact ⟨e, he, .inr q⟩
    · rintro ⟨e, he, q | q⟩
      · exact .inl ⟨e, he, q⟩
      · exact .inr ⟨e, he, q⟩
  rw [e1]
  rcases h with rfl | rfl
  · show 0 < (cv.filter _).length ↔ _
    rw [List.length_pos_iff_exists_mem]
    constructor
    · rintro ⟨e, he⟩
      obtain ⟨h1, h2⟩ := List.mem_filter.mp he
      simp only [has, Vr.vals, List.any_cons, List.any_nil, Bool.or_false, Bool.or_eq_true, beq_iff_eq] at h2
      exact ⟨e, h1, h2.imp Eq.symm Eq.symm⟩
    · rintro ⟨e, he, q⟩
      refine ⟨e, List.mem_filter.mpr ⟨he, ?_⟩⟩
      simp only [has, Vr.vals, List.any_cons, List.any_nil, Bool.or_false, Bool.or_eq_true, beq_iff_eq]
      exact q.imp Eq.symm Eq.symm
  · show 0 < (r.vals.filter _).length ↔ _
    rw [List.length_pos_iff_exists_mem]
    constructor
    · rintro ⟨e, he⟩
      obtain ⟨h1, h2⟩ := List.mem_filter.mp he
      simp only [has, List.any_eq_true, beq_iff_eq] at h2
      obtain ⟨c, hc, hce⟩ := h2
      simp only [Vr.vals, List.mem_cons, List.not_mem_nil, or_false] at h1
      rcases h1 with rfl | rfl
      · exact ⟨c, hc, .inl hce⟩
      · exact ⟨c, hc, .inr hce⟩
    · rintro ⟨c, hc, q | q⟩
      · exact ⟨(r.e.1, r.ta), List.mem_filter.mpr ⟨.head _, by simp only [has, List.any_eq_true, beq_iff_eq]; exact ⟨c, hc, q⟩⟩⟩
      · exact ⟨(r.e.2, r.tb), List.mem_filter.mpr ⟨.tail _ (.head _), by simp only [has, List.any_eq_true, beq_iff_eq]; exact ⟨c, hc, q⟩⟩⟩
theorem sc_snoc {vs : List Vr} {c : List Nat} {i : Nat} {r : Vr} (h : vs[i]? = some r) : Mine.sc ((vs.take (i + 1)).map fun r => (r.e, r.wt)) c = Mine.sc ((vs.take i).map fun r => (r.e, r.wt)) c + (if hits c r.e then r.wt else 0) := by
  rw [List.take_add_one, h]
  simp only [Option.toList_some, List.map_append, List.map_cons, List.map_nil]
  have : ∀ (l : List (Edge × Nat)) (y : Edge × Nat), Mine.sc (l ++ [y]) c = Mine.sc l c + (if hits c y.1 then y.2 else 0) := by
    intro l y
    induction l with
    | nil => simp [Mine.sc]
    | cons z l ih => simp only [List.cons_append, Mine.sc, ih]; omega
  exact this _ _
theorem thiele (w : World) (p dp lc ln lv T : Addr) (t1 t2 t3 : Tok) (k n : Nat) (tk : Tok) (vs : List Vr) (hvs : ∀ r ∈ vs, r.Ok) (hv4 : vs.length ≤ 4) (cv : List (Nat × Tok)) (hcv : Sm cv) (news : List (Addr × Obj))
    (m1 : (p, instObj 681 dp) ∈ news) (m2 : (dp, prD w lc ln lv t1 t2 t3 k) ∈ news) (m3 : (lv, listOf (vs.map fun r => Value.ref r.v).toArray n) ∈ news) (m4 : ∀ r ∈ vs, ∀ q ∈ r.block w, q ∈ news) (m5 : (T, seqO "tuple" cv 0) ∈ news) :
    CallC w 346 [.str (Str.ofString "cc") tk, .ref p, .ref T] news 90 1500 (fun news' v => ∃ sc : Sc, v = sc.val ∧ sc.num = Mine.sc (vs.map fun r => (r.e, r.wt)) (cv.map (·.1)) ∧ news' = sc.led w ++ news ∧ sc.Above news) := by
  intro lo mean mg mb dpt un gd cn cs a ccd cl outer A₀ base h₀ L m s Q E B F X N Tp hk hdp hu hG hret
  dsimp only [prD] at m2
  have hcl := hcv.len
  k_steps
  refine Held.mk ?_
  rename Fr _ _ _ _ => F1
  rename News _ _ _ _ => N1
  rename Frag.In _ _ => X1
  refine for_inv2 (v := Str.ofString "vote") F1 rfl rfl rfl ?_
  iterate 1 walk1
  refine' owit_iter (C := 681) F1 X1 ?I (f := 636) ?hs ?hf ?_
  case I => k_inst
  case hs => k_is
  case hf => k_is
  k_steps
  refine Held.mk ?_
  rename Fr _ _ _ _ => F2
  rename News _ _ _ _ => N2
  rename ∀ (q : Addr × Obj), q ∈ news → q.1 < _ => lI
  unfold OwitIt
  refine wpAny_specialOf (name := Str.ofString "__next__") ⟨_, (N2 _ (.head _)).1, rfl⟩ slot_listiter_next.lookup ?_
  refine Held.out ?_
  obtain ⟨st, Fst, est⟩ := Tst.begin F2 rfl
  have NI := N2 _ (.head _)
  have hlI : lv ≠ _ := Nat.ne_of_lt (lI _ m3)
  refine ⟨Tst, fun st => Tst.map _ st, fun st => st.sc.led w ++ news, fun i st => st.sc.num = Mine.sc ((vs.take i).map fun r => (r.e, r.wt)) (cv.map (·.1)) ∧ st.sc.Above news ∧ st.sc.num ≤ 5 * i, (vs.map fun r => Value.ref r.v).toArray.size, (fun i x => (vs.map fun r => Value.ref r.v).toArray[i]? = some x), lv, (listOf (vs.map fun r => Value.ref r.v).toArray n), _, fun i h => h.IsListIter _ lv i ∧ h.IsList lv _, st, litO lv 0, rfl, fun i h q => ⟨_, q.1.choose_spec.1⟩, fun A' hA => Walks.list hA _ lv hlI _, ⟨⟨_, NI.1, rfl, rfl⟩, News.isList N2 (.tail _ m3)⟩, ⟨rfl, id, Nat.le_refl _⟩, Fst, ?_, ?_, ?_, ?_, ?hbody, ?hend⟩
  · dsimp only; rw [est]; exact N2
  · dsimp only; rw [est]; exact ⟨rfl, trivial, Nat.zero_le _⟩
  · dsimp only; rw [est]; exact fun q hq => Nat.ne_of_lt (lI q hq)
  · exact fun i st _ => List.mem_append_right _ m3
  case hbody =>
    clear F2 N2 NI lI hlI Fst est
    intro i x st I oI s' hi hx hR hA F' N' hI
    obtain ⟨hnum, hab, hle⟩ := hR
    have hiv : i < vs.length := by simpa using hi
    have hir : vs[i]? = some vs[i] := List.getElem?_eq_getElem hiv
    obtain ⟨r, hr⟩ : ∃ r, vs[i] = r := ⟨_, rfl⟩
    rw [hr] at hir
    have hxr : x = .ref r.v := by
      simp only [List.getElem?_toArray, List.getElem?_map, hir, Option.map_some] at hx
      exact (Option.some.inj hx).symm
    subst hxr
    have hrm : r ∈ vs := List.mem_of_getElem? hir
    have hok := hvs r hrm
    have hw1 := hok.w1
    have hw5 := hok.w5
    have hsm := hok.sm
    have b1 := m4 r hrm (r.x, csO w r.dx r.ep r.vals) (.head _)
    have b3 := m4 r hrm (r.v, instObj 718 r.dv) (.tail _ (.tail _ (.head _)))
    have b4 := m4 r hrm (r.dv, voD w r.x r.wt r.t1 r.t2 r.tw) (.tail _ (.tail _ (.tail _ (.head _))))
    dsimp only [voD] at b4
    have hG' := hA.gens hG
    have hstep : Mine.sc ((vs.take (i + 1)).map fun r => (r.e, r.wt)) (cv.map (·.1)) = Mine.sc ((vs.take i).map fun r => (r.e, r.wt)) (cv.map (·.1)) + (if hits (cv.map (·.1)) r.e then r.wt else 0) := sc_snoc hir
    obtain ⟨un0, cand, ov, sc⟩ := st
    cases sc with
    | zero t0 =>
      dsimp only [Sc.led, List.nil_append, Sc.num] at N' hI hnum hle
      k_steps
      refine Held.mk ?_
      rename Fr _ _ _ _ => F5
      refine for_inv2 (v := Str.ofString "_") F5 rfl rfl rfl ?_
      k_steps
      refine Held.mk ?_
      rename Fr _ _ _ _ => F6
      rename News _ _ _ _ => N6
      rename ∀ (q : Addr × Obj), q ∈ _ → q.1 < _ => lS
      refine and_setK F6 X1 N6 (.head _) (List.mem_cons_of_mem _ (List.mem_cons_of_mem _ b1)) hcv hsm (Nat.ne_of_gt (lS _ (List.mem_cons_of_mem _ b1))) (cnt_two hcv r).1 (cnt_two hcv r).2 ?_
      intro S2 h7 epr rs F7 N7 l7 hsr hlen
      have hrs2 : rs.length ≤ 2 := by
        have := cnt_two hcv r
        rcases hlen with e | e <;> omega
      k_steps
      refine Held.mk ?_
      refine iter_setK F7 N7 (.head _) hsr ?_
      intro I2 h8 oI2 St8 F8 N8 l8 hs0 hO hW
      refine Held.mk ?_
      obtain ⟨st, Fst, est, esk⟩ := Ist.begin (sc := .zero t0) F8 rfl rfl
      refine ⟨Ist, fun st => Ist.map _ st, fun st => st.sc.led w ++ (S2, exSet (ledW w) epr rs) :: (I, oI) :: news, fun i2 st2 => st2.k = i2 ∧ st2.sc.num = 0 + (if 0 < i2 then r.wt else 0) ∧ st2.sc.Above news ∧ (∀ q ∈ st2.sc.led w, q.1 ≠ I) ∧ (0 < i2 → ∃ x d n t1 t2 t3 t4, st2.sc = .fr x d n t1 t2 t3 t4), rs.length, _, S2, exSet (ledW w) epr rs, I2, St8, st, oI2, rfl, hO, hW, hs0, ⟨rfl, id, Nat.le_refl _⟩, Fst, ?_, ?_, ?_, ?_, ?hb2, ?he2⟩
      · dsimp only; rw [est]; exact fun q hq => N8 q (by simp only [Sc.led, List.nil_append, List.cons_append, List.mem_cons] at hq ⊢; grind)
      · dsimp only; rw [est, esk]; exact ⟨rfl, rfl, hab, fun q hq => hI q (List.mem_append_left _ hq), fun h => absurd h (by decide)⟩
      · dsimp only; rw [est]; exact fun q hq => Nat.ne_of_lt (l8 q (by simp only [Sc.led, List.nil_append, List.cons_append, List.mem_cons] at hq ⊢; grind))
      · exact fun i2 st2 _ => List.mem_append_right _ (.head _)
      case hb2 =>
        clear F8 N8 hs0 Fst est esk
        intro i2 x2 st2 I3 oI3 s2 hi2 hx2 hR2 hA2 F9 N9 hI3
        obtain ⟨hk2, hn2, hab2, hnI, hfr2⟩ := hR2
        obtain ⟨un2, k2, tt2, sc2⟩ := st2
        dsimp only at hk2 hn2 hab2 hnI hfr2 N9 F9 hI3
        subst hk2
        have hG2 := hA2.gens hG'
        obtain hz | hz : k2 = 0 ∨ k2 = 1 := by omega
        · subst hz
          cases sc2 with
          | zero t0 =>
            dsimp only [Sc.led, List.nil_append, List.cons_append, Sc.num] at N9 hI3 hn2
            k_steps
            refine Held.mk ?_
            rename Fr _ _ _ _ => F11
            rename News _ _ _ _ => N11
            refine ⟨rfl, inner_done (NN := r.wt) ⟨?os, fun _ => by assumption, ?sz⟩ F11 rfl N11 (by omega) ?hb ?l1 (by assumption) ?num ?I⟩
            case num => (simp at hn2; simp; try omega)
            case l1 => assumption
            case hb => (intro q hq; repeat (first | exact hq | refine List.Mem.tail _ ?_))
            case os => (try dsimp only); repeat (first | rfl | (refine' (Aft.os ?h).trans ?_; (case h => assumption); (try dsimp only)))
            case sz => (try dsimp only); repeat (first | exact Nat.le_refl _ | (refine' Nat.le_trans ?_ (Aft.size ?h); (case h => assumption); (try dsimp only)))
            case I => exact fun q hq => hI3 q (id hq)
          | fr gx gd gn g1 g2 g3 g4 =>
            dsimp only [Sc.led, List.nil_append, List.cons_append, Sc.num, frD] at N9 hI3 hn2
            have hgn : gn ≤ 20 := by simp at hn2; omega
            k_steps
            refine Held.mk ?_
            rename Fr _ _ _ _ => F11
            rename News _ _ _ _ => N11
            refine ⟨rfl, inner_done (NN := gn + r.wt) ⟨?os, fun _ => by assumption, ?sz⟩ F11 rfl N11 (by omega) ?hb ?l1 (by assumption) ?num ?I⟩
            case num => (simp at hn2; simp; try omega)
            case l1 => assumption
            case hb => (intro q hq; ((refine (List.mem_cons.mp hq).elim (fun e => ?_) (fun hq => ?_)); (focus (rw [e]; (repeat (first | exact List.Mem.head _ | refine List.Mem.tail _ ?_)))); (repeat (first | exact hq | refine List.Mem.tail _ ?_))))
            case os => (try dsimp only); repeat (first | rfl | (refine' (Aft.os ?h).trans ?_; (case h => assumption); (try dsimp only)))
            case sz => (try dsimp only); repeat (first | exact Nat.le_refl _ | (refine' Nat.le_trans ?_ (Aft.size ?h); (case h => assumption); (try dsimp only)))
            case I => exact fun q hq => hI3 q ((fun h => .tail _ (.tail _ h)) hq)
        · subst hz
          cases sc2 with
          | zero t0 =>
            obtain ⟨_, _, _, _, _, _, _, e⟩ := hfr2 (by decide)
            cases e
          | fr gx gd gn g1 g2 g3 g4 =>
            dsimp only [Sc.led, List.nil_append, List.cons_append, Sc.num, frD] at N9 hI3 hn2
            have hgn : gn ≤ 25 := by simp at hn2; omega
            k_steps
            refine Held.mk ?_
            rename Fr _ _ _ _ => F11
            rename News _ _ _ _ => N11
            refine ⟨rfl, inner_done (NN := gn) ⟨?os, fun _ => by assumption, ?sz⟩ F11 rfl N11 (by omega) ?hb ?l1 (by assumption) ?num ?I⟩
            case num => (simp at hn2; simp; try omega)
            case l1 => assumption
            case hb => (intro q hq; ((refine (List.mem_cons.mp hq).elim (fun e => ?_) (fun hq => ?_)); (focus (rw [e]; (repeat (first | exact List.Mem.head _ | refine List.Mem.tail _ ?_)))); (repeat (first | exact hq | refine List.Mem.tail _ ?_))))
            case os => (try dsimp only); repeat (first | rfl | (refine' (Aft.os ?h).trans ?_; (case h => assumption); (try dsimp only)))
            case sz => (try dsimp only); repeat (first | exact Nat.le_refl _ | (refine' Nat.le_trans ?_ (Aft.size ?h); (case h => assumption); (try dsimp only)))
            case I => exact fun q hq => hI3 q ((fun h => .tail _ (.tail _ h)) hq)
      case he2 =>
        intro st2 s2 hR2 hA2 F9 N9
        obtain ⟨hk2, hn2, hab2, hnI, hfr2⟩ := hR2
        have hG2 := hA2.gens hG'
        dsimp only
        k_steps
        refine Held.mk ?_
        rename Fr _ _ _ _ => F11
        rename News _ _ _ _ => N11
        have hh := cnt_hits hlen
        refine ⟨rfl, ⟨st2.un, some (.int (st2.k : Int) st2.t), some (.ref r.v), st2.sc⟩, ⟨?_, hab2, ?_⟩, ⟨hA2.os, hA2.gens, hA2.size⟩, Tst.after F11, news_out N11, ?_⟩
        · rw [hstep, ← hnum, hn2]
          by_cases q : 0 < rs.length
          · rw [if_pos q, if_pos (hh.mp q)]
          · rw [if_neg q, if_neg (fun z => q (hh.mpr z))]
        · rw [hn2]
          split <;> omega
        · intro q hq
          rcases List.mem_append.mp hq with hq | hq
          · exact hnI q hq
          · exact hI q (id hq)
    | fr fx fd fn f1 f2 f3 f4 =>
      dsimp only [Sc.led, List.nil_append, List.cons_append, Sc.num, frD] at N' hI hnum hle
      k_steps
      refine Held.mk ?_
      rename Fr _ _ _ _ => F5
      refine for_inv2 (v := Str.ofString "_") F5 rfl rfl rfl ?_
      k_steps
      refine Held.mk ?_
      rename Fr _ _ _ _ => F6
      rename News _ _ _ _ => N6
      rename ∀ (q : Addr × Obj), q ∈ _ → q.1 < _ => lS
      refine and_setK F6 X1 N6 (.head _) (List.mem_cons_of_mem _ (List.mem_cons_of_mem _ (List.mem_cons_of_mem _ (List.mem_cons_of_mem _ b1)))) hcv hsm (Nat.ne_of_gt (lS _ (List.mem_cons_of_mem _ (List.mem_cons_of_mem _ (List.mem_cons_of_mem _ b1))))) (cnt_two hcv r).1 (cnt_two hcv r).2 ?_
      intro S2 h7 epr rs F7 N7 l7 hsr hlen
      have hrs2 : rs.length ≤ 2 := by
        have := cnt_two hcv r
        rcases hlen with e | e <;> omega
      k_steps
      refine Held.mk ?_
      refine iter_setK F7 N7 (.head _) hsr ?_
      intro I2 h8 oI2 St8 F8 N8 l8 hs0 hO hW
      refine Held.mk ?_
      obtain ⟨st, Fst, est, esk⟩ := Ist.begin (sc := .fr fx fd fn f1 f2 f3 f4) F8 rfl rfl
      refine ⟨Ist, fun st => Ist.map _ st, fun st => st.sc.led w ++ (S2, exSet (ledW w) epr rs) :: (I, oI) :: news, fun i2 st2 => st2.k = i2 ∧ st2.sc.num = fn + (if 0 < i2 then r.wt else 0) ∧ st2.sc.Above news ∧ (∀ q ∈ st2.sc.led w, q.1 ≠ I) ∧ (0 < i2 → ∃ x d n t1 t2 t3 t4, st2.sc = .fr x d n t1 t2 t3 t4), rs.length, _, S2, exSet (ledW w) epr rs, I2, St8, st, oI2, rfl, hO, hW, hs0, ⟨rfl, id, Nat.le_refl _⟩, Fst, ?_, ?_, ?_, ?_, ?hb2, ?he2⟩
      · dsimp only; rw [est]; exact fun q hq => N8 q (by simp only [Sc.led, List.nil_append, List.cons_append, List.mem_cons] at hq ⊢; grind)
      · dsimp only; rw [est, esk]; exact ⟨rfl, rfl, hab, fun q hq => hI q (List.mem_append_left _ hq), fun h => absurd h (by decide)⟩
      · dsimp only; rw [est]; exact fun q hq => Nat.ne_of_lt (l8 q (by simp only [Sc.led, List.nil_append, List.cons_append, List.mem_cons] at hq ⊢; grind))
      · exact fun i2 st2 _ => List.mem_append_right _ (.head _)
      case hb2 =>
        clear F8 N8 hs0 Fst est esk
        intro i2 x2 st2 I3 oI3 s2 hi2 hx2 hR2 hA2 F9 N9 hI3
        obtain ⟨hk2, hn2, hab2, hnI, hfr2⟩ := hR2
        obtain ⟨un2, k2, tt2, sc2⟩ := st2
        dsimp only at hk2 hn2 hab2 hnI hfr2 N9 F9 hI3
        subst hk2
        have hG2 := hA2.gens hG'
        obtain hz | hz : k2 = 0 ∨ k2 = 1 := by omega
        · subst hz
          cases sc2 with
          | zero t0 =>
            dsimp only [Sc.led, List.nil_append, List.cons_append, Sc.num] at N9 hI3 hn2
            k_steps
            refine Held.mk ?_
            rename Fr _ _ _ _ => F11
            rename News _ _ _ _ => N11
            refine ⟨rfl, inner_done (NN := r.wt) ⟨?os, fun _ => by assumption, ?sz⟩ F11 rfl N11 (by omega) ?hb ?l1 (by assumption) ?num ?I⟩
            case num => (simp at hn2; simp; try omega)
            case l1 => assumption
            case hb => (intro q hq; repeat (first | exact hq | refine List.Mem.tail _ ?_))
            case os => (try dsimp only); repeat (first | rfl | (refine' (Aft.os ?h).trans ?_; (case h => assumption); (try dsimp only)))
            case sz => (try dsimp only); repeat (first | exact Nat.le_refl _ | (refine' Nat.le_trans ?_ (Aft.size ?h); (case h => assumption); (try dsimp only)))
            case I => exact fun q hq => hI3 q (id hq)
          | fr gx gd gn g1 g2 g3 g4 =>
            dsimp only [Sc.led, List.nil_append, List.cons_append, Sc.num, frD] at N9 hI3 hn2
            have hgn : gn ≤ 20 := by simp at hn2; omega
            k_steps
            refine Held.mk ?_
            rename Fr _ _ _ _ => F11
            rename News _ _ _ _ => N11
            refine ⟨rfl, inner_done (NN := gn + r.wt) ⟨?os, fun _ => by assumption, ?sz⟩ F11 rfl N11 (by omega) ?hb ?l1 (by assumption) ?num ?I⟩
            case num => (simp at hn2; simp; try omega)
            case l1 => assumption
            case hb => (intro q hq; ((refine (List.mem_cons.mp hq).elim (fun e => ?_) (fun hq => ?_)); (focus (rw [e]; (repeat (first | exact List.Mem.head _ | refine List.Mem.tail _ ?_)))); (repeat (first | exact hq | refine List.Mem.tail _ ?_))))
            case os => (try dsimp only); repeat (first | rfl | (refine' (Aft.os ?h).trans ?_; (case h => assumption); (try dsimp only)))
            case sz => (try dsimp only); repeat (first | exact Nat.le_refl _ | (refine' Nat.le_trans ?_ (Aft.size ?h); (case h => assumption); (try dsimp only)))
            case I => exact fun q hq => hI3 q ((fun h => .tail _ (.tail _ h)) hq)
        · subst hz
          cases sc2 with
          | zero t0 =>
            obtain ⟨_, _, _, _, _, _, _, e⟩ := hfr2 (by decide)
            cases e
          | fr gx gd gn g1 g2 g3 g4 =>
            dsimp only [Sc.led, List.nil_append, List.cons_append, Sc.num, frD] at N9 hI3 hn2
            have hgn : gn ≤ 25 := by simp at hn2; omega
            k_steps
            refine Held.mk ?_
            rename Fr _ _ _ _ => F11
            rename News _ _ _ _ => N11
            refine ⟨rfl, inner_done (NN := gn) ⟨?os, fun _ => by assumption, ?sz⟩ F11 rfl N11 (by omega) ?hb ?l1 (by assumption) ?num ?I⟩
            case num => (simp at hn2; simp; try omega)
            case l1 => assumption
            case hb => (intro q hq; ((refine (List.mem_cons.mp hq).elim (fun e => ?_) (fun hq => ?_)); (focus (rw [e]; (repeat (first | exact List.Mem.head _ | refine List.Mem.tail _ ?_)))); (repeat (first | exact hq | refine List.Mem.tail _ ?_))))
            case os => (try dsimp only); repeat (first | rfl | (refine' (Aft.os ?h).trans ?_; (case h => assumption); (try dsimp only)))
            case sz => (try dsimp only); repeat (first | exact Nat.le_refl _ | (refine' Nat.le_trans ?_ (Aft.size ?h); (case h => assumption); (try dsimp only)))
            case I => exact fun q hq => hI3 q ((fun h => .tail _ (.tail _ h)) hq)
      case he2 =>
        intro st2 s2 hR2 hA2 F9 N9
        obtain ⟨hk2, hn2, hab2, hnI, hfr2⟩ := hR2
        have hG2 := hA2.gens hG'
        dsimp only
        k_steps
        refine Held.mk ?_
        rename Fr _ _ _ _ => F11
        rename News _ _ _ _ => N11
        have hh := cnt_hits hlen
        refine ⟨rfl, ⟨st2.un, some (.int (st2.k : Int) st2.t), some (.ref r.v), st2.sc⟩, ⟨?_, hab2, ?_⟩, ⟨hA2.os, hA2.gens, hA2.size⟩, Tst.after F11, news_out N11, ?_⟩
        · rw [hstep, ← hnum, hn2]
          by_cases q : 0 < rs.length
          · rw [if_pos q, if_pos (hh.mp q)]
          · rw [if_neg q, if_neg (fun z => q (hh.mpr z))]
        · rw [hn2]
          split <;> omega
        · intro q hq
          rcases List.mem_append.mp hq with hq | hq
          · exact hnI q hq
          · exact hI q ((fun h => .tail _ (.tail _ h)) hq)
  case hend =>
    intro st s' hR hA F' N'
    obtain ⟨hnum, hab, hle⟩ := hR
    have hG' := hA.gens hG
    dsimp only
    k_steps
    rename Fr _ _ _ _ => F9
    rename News _ _ _ _ => N9
    refine hret _ _ _ ⟨hA.os, hA.gens, hA.size⟩ F9 N9 ⟨st.sc, rfl, ?_, rfl, hab⟩
    rw [hnum]
    simp
end
-- S39
section
set_option maxHeartbeats 0
local macro_rules | `(tactic| k_room) => `(tactic| ktr_room)
local macro_rules | `(tactic| k_units) => `(tactic| ktr_units)
local macro_rules | `(tactic| k_enter) => `(tactic| (refine' code_def ?k1 ?k2 ?k3 ?k4 ?k5 ?kA ?kF ?kK ?k6 ?k7 ?k8 ?k9 ?kB ?_ ?c2 ?c3 ?c4 ?c5; (case kA => exact rfl); (case kF => exact rfl); (case kK => first | exact rfl | assumption); (case k1 => k_asm); (case k2 => k_asm); (case k3 => k_asm); (case k4 => k_asm); (case k5 => k_asm); (case k6 => k_is); (case k7 => k_is); (case k8 => ktr_room); (case k9 => first | exact BindsTo.of_eq rfl | exact binds_K (by k_in) rfl (by k_is) rfl rfl rfl); (case c5 => decide); (case kB => exact locs rfl); (case c2 => exact rfl); (case c3 => exact rfl); (case c4 => exact rfl); k_whole; intro g' L' h' FG' F' N' B' X' T'; (try dsimp only); (try k_fold)))
local macro_rules | `(tactic| k_mem) => `(tactic| first | exact List.Mem.head _ | assumption | (refine' List.Mem.tail _ ?_; k_mem))

local macro_rules | `(tactic| fail "hook call builtin:len") => `(tactic| (k_here; k_dflt (first
  | (refine len_csK (by k_asm) (by k_asm) (by k_asm) (by k_mem) (Nat.le_succ_of_le (Sm.len (by assumption))) ?_; intro t' tk')
  | (refine len_srcK (by k_asm) (by k_asm) (by assumption) (by assumption) ?_; intro t' tk'))))
local macro_rules | `(tactic| fail "hook compareOp NotEq int int") => `(tactic| (refine ne_same ?_))
local macro_rules | `(tactic| fail "hook exec For Name Name cons nil") => `(tactic| (k_here; (refine Held.out ?_)))
local macro_rules | `(tactic| fail "hook Keeps") => `(tactic| exact ⟨_, _, rfl, fun _ _ e => e⟩)
abbrev ktrG (dp un : Nat) (gd : Option (List Code)) (env : Env) (outer : List Env) : Around := { handled := none, depth := dp, frames := some (env :: outer), guards := gd, units := un }
/-- the contract of CandidateSet(l), from any frame -/
theorem cs_makeG (w : World) (l : Addr) (vals : List (Nat × Tok)) (hsm : Sm vals) :
  ∀ (lo : List Str) (mean : ExcName → Option Value) (mg mb : Str → Option Value) (dp un : Nat) (gd : Option (List Code)) (env : Env) (outer : List Env) (A₀ : Around) (base h₀ : Heap) (L : Addr) (m : Str → Option Value) (s : Shared) (Q E : Value → Shared → Prop) (rest : List (Addr × Obj)) (gT : Obj → List (Addr × Obj)) (ps : Array Value),
    Below A₀ base outer h₀ → Fr h₀ L s.heap m → (kf.heap_1 w.params).In h₀ → News h₀ L s.heap rest → Top topProg lo mean mg mb h₀ → env.scope.kind = .function → env.frame = some L → dp + 20 < recursionLimit → un + 200 < cLine → AllBare s.gens →
    UpdF 52 (tabObj ps) rest gT → TriplesOk ps.toList → Src w s.heap l vals →
    (∀ x dx ep ps' s', Aft s s' → Fr h₀ L s'.heap m → News h₀ L s'.heap ((x, csO w dx ep vals) :: (dx, emptyDict) :: gT (tabObj ps')) → TriplesOk ps'.toList → (∀ p ∈ gT (tabObj ps'), p.1 < dx) → dx < x → Q (.ref x) s') →
    wpAny (model prog w) (ktrG dp un gd env outer) (call (.ref 75) [.ref l]) Q E s := by
  intro lo mean mg mb dp un gd env outer A₀ base h₀ L m s Q E rest gT ps B F X N T hk hfr hd hu hG U ht hsrc hret
  refine wpAny_call ?_
  refine make_setN F N (X.keeps F.keep) (C := 75) (fI := 57) (by kernel_rfl) (by k_is) (by k_is) fun x dx h1 F1 N1 l1 l2 k1 => ?_
  have hsrc1 : Src w h1 l vals := hsrc.keeps k1
  have hxl0 : x ≠ l := by
    rintro rfl
    have e1 := (N1 _ (.head _)).1
    obtain ⟨o, ho, hko⟩ := hsrc1
    rw [e1] at ho
    cases hko with
    | seq T nl hT => cases ho
    | set d ep hne =>
      have e2 := congrArg (fun o : Option Obj => o.map (·.data)) ho
      simp at e2
      exact hne e2.1
  refine enter_cell3 (K := kf.heap_1 w.params) (s := { s with heap := h1 }) (x := "self") (y := "candidates") (z := "num_cand") (vx := .ref x) (vy := .ref l) (vz := .none) (by k_asm) (by k_asm) (by k_asm) (by k_asm) (by k_asm) rfl hfr ?kK rfl ?cd ?room ?bind ?cells ?push ?hx ?hy ?hz ?h ?hco ?hgen ?hk
  case kK => first | exact rfl | assumption
  case cd => k_is
  case room => ktr_room
  case bind => exact binds_K (by k_in) rfl (by k_is) rfl rfl rfl
  case cells => intro n; rfl
  case push => intro h; rfl
  case hx => rfl
  case hy => rfl
  case hz => rfl
  case hco => rfl
  case hgen => rfl
  case hk => rfl
  intro g₁ L' h₁ tk o' FG F' N' hd' B' X' T' lt' hk₁
  obtain ⟨oc', od', odt', osl'⟩ := o'
  dsimp only at hd'
  subst hd'
  refine ks_wpAt_execs_cons ?_
  have hx52 : (52 : Nat) < dx := by
    obtain ⟨own, r, rfl, _⟩ := U.split
    exact l1 (52, tabObj ps) (List.mem_append_right _ (.head _))
  have lx : ∀ p ∈ rest, p.1 < x := fun p hp => Nat.lt_trans (l1 p hp) l2
  have hxL : x < L' := lt' _ (.head _)
  refine' super_stmt (x := x) (C := 75) (cc := 43) (dx := dx) (l := l) (vals := vals) (g := fun o => (L' + 1, ({ cls := oc', dict := od', data := .cell (some .none), slots := osl' } : Obj)) :: (x, o) :: (dx, emptyDict) :: rest) F' X' X' N' T' ?hh ?hf ?hp ?hv ?U ?hcode ?hvs ?hfile ?hclk ?hcell ?hD ?hsub ?hset ?hsuper ?hks ?hkc ?hka ?hk ?htop ?hboot ?hop ?hsl ?hshort ?hky ?hy ?hsrc hsm ?hxl ?hdb ?hint ?hsw ?hev ?hst ?hcont
  case hh => rfl
  case hf => exact rfl
  case hp => rfl
  case hv => rfl
  case U => exact .tail (Nat.ne_of_gt (Nat.lt_succ_of_lt hxL)) (.head fun p hp => by
    rcases List.mem_cons.mp hp with rfl | hp
    · exact Nat.ne_of_lt l2
    · exact Nat.ne_of_lt (lx p hp))
  case hcode => k_is
  case hvs => rfl
  case hfile => first | rfl | decide +kernel
  case hclk => rfl
  case hcell => k_is
  case hD => k_is
  case hsub => k_is
  case hset => k_is
  case hsuper => k_is
  case hks => rfl
  case hkc => rfl
  case hka => rfl
  case hk => rfl
  case htop => decide +kernel
  case hboot => first | boot_by_name | rfl | kernel_rfl
  case hop => k_is
  case hsl => kernel_rfl
  case hshort => kernel_rfl
  case hky => rfl
  case hy => rfl
  case hsrc => exact hsrc1.keeps hk₁
  case hxl => exact hxl0
  case hdb => decide
  case hint => rfl
  case hsw => rfl
  case hev => rfl
  case hst => rfl
  intro h₂ tk₂ ep₂ F₂ N₂ k₂
  dsimp only at N₂ ⊢
  refine wpAt_of_wpAny ?_
  have hxl : x ≠ l := hxl0
  have hsrc2 : Src w h₂ l vals := (hsrc1.keeps hk₁).at fun o e => k₂ _ o hxl.symm e
  k_steps
  refine Held.mk ?_
  refine for_src F₂ X' N₂ rfl rfl rfl rfl (by decide) rfl hsrc2 hsm ?body ?cont
  case body =>
    intro e he h' tk' F' N'
    k_steps
  intro ov h₃ tk₃ F₃ N₃ k₃
  have n3 : dx ≠ 52 := Nat.ne_of_gt hx52
  have n2 : x ≠ 52 := Nat.ne_of_gt (Nat.lt_trans hx52 l2)
  have n1 : L' + 1 ≠ 52 := Nat.ne_of_gt (Nat.lt_succ_of_lt (Nat.lt_trans (Nat.lt_trans hx52 l2) hxL))
  have hlL : l ≠ L' := by rintro rfl; exact hsrc2.notNs F₂.ns
  have hsrc3 : Src w h₃ l vals := hsrc2.at fun o e => k₃ _ o hlL e
  k_steps
  refine gen_src (fun v => v = .bool true) F₃ X' N₃ T' (codeHd56 X') (.tail n1 (.tail n2 (.tail n3 U))) ht hG rfl ?room rfl rfl (by decide) rfl rfl rfl rfl rfl (by decide) rfl hsrc3 hsm ?elt ?cont2 (fun _ => rfl)
  case room => ktr_room
  case elt =>
    intro C' code A' E' s₂ m₂ e he hn hm hkk
    exact elt_ge0 rfl rfl (by decide) hn hm
  intro u s₄ ps' hA4 F₄ N₄ ht' Kb hGen hLK hKN k4
  have hG4 : AllBare s₄.gens := hA4.gens hG
  k_steps
  refine all_true F₄ N₄ hG4 hGen hLK hKN fun s₅ hA5 F₅ N₅ k5 => ?_
  have hG5 : AllBare s₅.gens := hA5.gens hG4
  iterate 7 walk1
  refine nameX_C N₅ rfl (.head _) rfl ?_ rfl rfl (by decide)
  k_steps
  rename Fr _ _ _ _ => F6
  rename News _ _ _ _ => N6
  exact hret x dx _ ps' s₅ ⟨hA5.os.trans hA4.os, fun G => hA5.gens (hA4.gens G), Nat.le_trans hA4.size hA5.size⟩ F6 (fun q hq => N6 q (.tail _ hq)) ht' (upd_lt U l1) l2
end
-- S41
section
set_option maxHeartbeats 4000000
/-! a generator expression whose element runs the program, by an invariant over the whole state -/
section
variable {prog : Program} {w : World}
abbrev genEndJ (EndR : Shared → Shared → Prop) : GenEnd := fun n s₀ r s₁ => r = .ok .next ∧ n = 0 ∧ EndR s₀ s₁
abbrev genProtoJ (n : Nat) (Inv : Nat → Shared → Prop) (Since : Nat → Shared → Value → Shared → Prop) : Protocol := fun m s₀ v s kap => Since (n - 1 - m) s₀ v s ∧ ∀ s'', Inv (n - m) s'' → kap (.send .none) s''
/-- what one turn of the generator does -/
structure GenTurn (prog : Program) (w : World) (A : Around) (I : Addr) (cenv : Env) (x : Str) (elt : PySem.Expr) (n : Nat) (Inv : Nat → Shared → Prop) (Since : Nat → Shared → Value → Shared → Prop) (EndR : Shared → Shared → Prop) : Prop where
  self : ∀ s, Inv 0 s → wpAny (model prog w) A (pyIter (.ref I)) (fun it s' => it = .ref I ∧ s' = s) (fun _ _ => False) s
  fin : ∀ s, Inv n s → wpAny (model prog w) A (pyNext (.ref I)) (fun r s' => r = none ∧ EndR s s') (fun _ _ => False) s
  turn : ∀ i s, i < n → Inv i s → wpAny (model prog w) A (pyNext (.ref I)) (fun r s₁ => ∃ v, r = some v ∧ wpAny (model prog w) A (storeName cenv x v) (fun _ s₂ => wpAny (model prog w) A (eval elt cenv) (fun y s₃ => Since i s y s₃) (fun _ _ => False) s₂) (fun _ _ => False) s₁) (fun _ _ => False) s
variable {A : Around} {elt iter : PySem.Expr} {x : Str} {px : Pos} {scope : Scope} {pos : Pos} {I : Addr} {n : Nat} {cenv : Env} {Inv : Nat → Shared → Prop} {Since : Nat → Shared → Value → Shared → Prop} {EndR : Shared → Shared → Prop}
theorem seg_genLoopJ (hco : cenv.scope.isCoroutine = false)
    (G : GenTurn prog w (A.over (.compLoop (.GeneratorExp elt [⟨.Name x px, iter, [], 0⟩] scope pos) 0 (.ref I) .none cenv) []) I cenv x elt n Inv Since EndR) :
    ∀ (k i : Nat) (s : Shared), n - i = k → i ≤ n → Inv i s →
      Seg (model prog w) A (genEndJ EndR) (genProtoJ n Inv Since) (n - i) s
        (.compLoop (.GeneratorExp elt [⟨.Name x px, iter, [], 0⟩] scope pos) 0 (.ref I) .none cenv)
        ((model prog w).den (.compLoop (.GeneratorExp elt [⟨.Name x px, iter, [], 0⟩] scope pos) 0 (.ref I) .none cenv)) [] s := by
  intro k
  induction k with
  | zero =>
    intro i s hk hi hinv
    have hin : i = n := by omega
    subst hin
    show Seg _ A _ _ _ s _ ((compTurn (.GeneratorExp elt [⟨.Name x px, iter, [], 0⟩] scope pos) 0 (.ref I) .none cenv).onRaise (leaving cenv)) [] s
    rw [compTurn_gen, Sem.onRaise_eq_wrap]
    refine seg_bind_wrap (wpAny_standAt ?_)
    refine seg_bind_wrap (wpAny_mono (G.fin s hinv) (fun r s' hr => ?_) fun _ _ z => z.elim)
    obtain ⟨rfl, he⟩ := hr
    exact seg_end (.ok .next) ⟨rfl, Nat.sub_self _, he⟩
  | succ k ih =>
    intro i s hk hi hinv
    have hlt : i < n := by omega
    show Seg _ A _ _ _ s _ ((compTurn (.GeneratorExp elt [⟨.Name x px, iter, [], 0⟩] scope pos) 0 (.ref I) .none cenv).onRaise (leaving cenv)) [] s
    rw [compTurn_gen, Sem.onRaise_eq_wrap]
    refine seg_bind_wrap (wpAny_standAt ?_)
    refine seg_bind_wrap (wpAny_mono (G.turn i s hlt hinv) (fun r s₁ hr => ?_) fun _ _ z => z.elim)
    obtain ⟨v, rfl, hv⟩ := hr
    refine seg_bind_wrap (wpAny_of_eq (rfl : letOwnedTupleGo (.Name x px) (.ref I) v = pure ()) ?_)
    refine seg_bind_wrap (wpAny_assign_Name (wpAny_mono hv (fun _ s₂ h₂ => ?_) fun _ _ z => z.elim))
    simp only [List.forIn_nil]
    refine seg_bind_wrap (wpAny_pure ?_)
    simp only [if_true]
    have hy : ∀ v, yieldOut cenv v = yieldValue v := fun v => by simp only [yieldOut, hco, Bool.false_eq_true, if_false]
    simp only [hy]
    rw [Sem.bind_eq_wrap', Sem.bind_eq_wrap', Sem.wrap_wrap, Sem.wrap_wrap]
    have e1 : n - i = (n - (i + 1)) + 1 := by omega
    rw [e1]
    refine seg_wrap (wpAny_mono h₂ (fun y s₃ h₃ => ?_) fun _ _ z => z.elim)
    have e2 : n - 1 - (n - (i + 1) + 1 - 1) = i := by omega
    have e3 : n - (n - (i + 1) + 1 - 1) = i + 1 := by omega
    refine seg_at (seg_yield rfl rfl rfl ?_)
    have e4 : n - 1 - (n - (i + 1)) = i := by omega
    have e5 : n - (n - (i + 1)) = i + 1 := by omega
    refine ⟨?_, fun s'' hs'' => ?_⟩
    · first
        | (rw [e2]; exact h₃)
        | (rw [e4]; exact h₃)
    · refine seg_again rfl (ih (i + 1) s'' (by omega) hlt ?_)
      first
        | (rw [e3] at hs''; exact hs'')
        | (rw [e5] at hs''; exact hs'')
theorem seg_genStartJ (hco : cenv.scope.isCoroutine = false)
    (G : GenTurn prog w (A.over (.compLoop (.GeneratorExp elt [⟨.Name x px, iter, [], 0⟩] scope pos) 0 (.ref I) .none cenv) []) I cenv x elt n Inv Since EndR) (s : Shared) (hinv : Inv 0 s) :
    Seg (model prog w) A (genEndJ EndR) (genProtoJ n Inv Since) n s
      (.compStart (.GeneratorExp elt [⟨.Name x px, iter, [], 0⟩] scope pos) 0 (.ref I) .none cenv)
      ((model prog w).den (.compStart (.GeneratorExp elt [⟨.Name x px, iter, [], 0⟩] scope pos) 0 (.ref I) .none cenv)) [] s := by
  have loop := seg_genLoopJ (iter := iter) (px := px) (scope := scope) (pos := pos) hco G n 0 s (Nat.sub_zero _) (Nat.zero_le _) hinv
  rw [Nat.sub_zero] at loop
  show Seg _ A _ _ _ s _ ((compStart (.GeneratorExp elt [⟨.Name x px, iter, [], 0⟩] scope pos) 0 (.ref I) .none cenv).onRaise (leaving cenv)) [] s
  unfold compStart
  rw [Sem.onRaise_eq_wrap]
  show Seg _ A _ _ _ s _ ((ask >>= _).wrap _ _ _ _) [] s
  refine seg_bind_wrap (wpAny_askSetting ?_)
  have hself : wpAny (model prog w) (A.over (.compStart (.GeneratorExp elt [⟨.Name x px, iter, [], 0⟩] scope pos) 0 (.ref I) .none cenv) []) (pyIter (.ref I)) (fun it s' => it = .ref I ∧ s' = s) (fun _ _ => False) s := G.self s hinv
  split
  · exact seg_again rfl loop
  · refine seg_bind_wrap (wpAny_rule ?_)
    first
      | exact seg_bind_wrap (wpAny_standAt (seg_bind_wrap (wpAny_mono hself (fun it s' e => by obtain ⟨rfl, rfl⟩ := e; exact seg_again rfl loop) fun _ _ z => z.elim)))
      | (show Seg _ A _ _ _ s _ ((standAt iter.pos >>= _).wrap _ _ _ _) [] s; exact seg_bind_wrap (wpAny_standAt (seg_bind_wrap (wpAny_mono hself (fun it s' e => by obtain ⟨rfl, rfl⟩ := e; exact seg_again rfl loop) fun _ _ z => z.elim))))
/-- the next item of such a generator -/
theorem gen_nextJ {E : Value → Shared → Prop} {s : Shared} {u : Addr} {g i : Nat} {gs : GenState} {Q : Option Value → Shared → Prop} (hh : A.handled = none) (hl : s.heap.NoLimit) (hroom : A.depth < recursionLimit) (hg : s.heap.IsGen u g) (hgs : s.gens[g]? = some gs)
    (hi : i < n) (hgo : gs.Goes (model prog w) A.in1 (genEndJ EndR) (genProtoJ n Inv Since) (n - i) (.send .none) (s.setGen g .running))
    (hQ : ∀ v s₁ gs', gs'.bare = true → Since i (s.setGen g .running) v s₁ → (∀ s'', Inv (i + 1) s'' → gs'.Goes (model prog w) A.in1 (genEndJ EndR) (genProtoJ n Inv Since) (n - (i + 1)) (.send .none) s'') → Q (some v) (s₁.setGen g gs')) :
    wpAny (model prog w) A (pyNext (.ref u)) Q E s := by
  have e1 : n - i = (n - (i + 1)) + 1 := by omega
  rw [e1] at hgo
  refine wpAny_pyNext_genexpQ (P := fun n s₀ s₁ => n = 0 ∧ EndR s₀ s₁) hh hl hroom hg hgs hgo (fun v s₁ gs' hb hv => ?_) (fun s₁ hp h' hk => ?_)
  · obtain ⟨h1, h2⟩ := hv
    have e2 : n - 1 - (n - (i + 1) + 1 - 1) = i := by omega
    have e3 : n - (n - (i + 1) + 1 - 1) = i + 1 := by omega
    rw [e2] at h1
    rw [e3] at h2
    exact hQ v s₁ gs' hb h1 h2
  · exact absurd hp.1 (Nat.succ_ne_zero _)
theorem gen_doneJ {E : Value → Shared → Prop} {s : Shared} {u : Addr} {g : Nat} {gs : GenState} {Q : Option Value → Shared → Prop} (hh : A.handled = none) (hl : s.heap.NoLimit) (hroom : A.depth < recursionLimit) (hg : s.heap.IsGen u g) (hgs : s.gens[g]? = some gs)
    (hgo : gs.Goes (model prog w) A.in1 (genEndJ EndR) (genProtoJ n Inv Since) (n - n) (.send .none) (s.setGen g .running))
    (hQ : ∀ s₁ h', EndR (s.setGen g .running) s₁ → (∀ b o, s₁.heap.get? b = some o → h'.get? b = some o) → Q none { s₁.setGen g .finished with heap := h' }) (hinv : Inv n (s.setGen g .running)) :
    wpAny (model prog w) A (pyNext (.ref u)) Q E s := by
  rw [Nat.sub_self] at hgo
  refine wpAny_pyNext_genexpQ (P := fun n s₀ s₁ => n = 0 ∧ EndR s₀ s₁) hh hl hroom hg hgs hgo (fun v s₁ gs' hb hv => ?_) (fun s₁ hp h' hk => ?_)
  · obtain ⟨h1, h2⟩ := hv
    exact False.elim (h2 _ hinv)
  · exact hQ s₁ h' hp.2 hk
end
end
-- S40
section
set_option maxHeartbeats 4000000
theorem elt_cs (w : World) {A : Around} {scope : Scope} {cl : List (Str × Addr)} {C T : Addr} {code : Value} {bi : Addr} {env : Env} {p1 p2 p3 : Pos} (hk : scope.kind = .function) (hg : env.globals = mainGlobals)
    (hx : scope.names.lookup (Str.ofString "committee") = some .local) (hc : (genEnv scope cl C code bi env).kindOf (Str.ofString "CandidateSet") = some .globalImplicit)
    {lo : List Str} {mean : ExcName → Option Value} {mg mb : Str → Option Value} {h₀ : Heap} {m : Str → Option Value} {s : Shared} {Q E : Value → Shared → Prop}
    (F : Fr h₀ C s.heap m) (X : (kf.heap_1 w.params).In h₀) (Tp : Top topProg lo mean mg mb h₀) (hm : m (Str.ofString "committee") = some (.ref T))
    (h : wpAny (model prog w) A (call (.ref 75) [.ref T]) Q E s) :
    wpAny (model prog w) A (eval (.Call (.Name (Str.ofString "CandidateSet") p1) [.Name (Str.ofString "committee") p2] [] p3) (genEnv scope cl C code bi env)) Q E s := by
  show wpAny (model prog w) A (do callWith p3 (← eval (.Name (Str.ofString "CandidateSet") p1) (genEnv scope cl C code bi env)) [] (backTo p3 (starEach [.Name (Str.ofString "committee") p2] (genEnv scope cl C code bi env))) (backToKw p3 (keywordEach [] (genEnv scope cl C code bi env)))) Q E s
  refine wpAny_bind ?_
  refine Name_function_global hk hc (loadGlobal_global (env := genEnv scope cl C code bi env) (mg := mg) (v := .ref 75) ?_ (mg_of X Tp.g (by kernel_rfl)) ?_)
  · show s.heap.Ns env.globals mg
    rw [hg]
    exact Tp.g.keeps F.keep
  refine callWith_K X (by kernel_rfl) ?_
  refine Calls.spliced_cons (ldG (cenv := genEnv scope cl C code bi env) F.ns hm (Calls.spliced_nil ⟨X.keeps F.keep, h⟩) hk hx (by decide))
end
-- S42
section
set_option maxHeartbeats 4000000
/-! collecting a generator's items, by an invariant over the whole state -/
abbrev lstO (acc : Array Value) (c : Nat) : Obj := { cls := .type "list", dict := none, data := .seq acc c, slots := #[] }
/-- what collecting needs of an iterator I, with the list S -/
structure Collects (prog : Program) (w : World) (A : Around) (I S : Addr) (n : Nat) (J : Nat → List Value → Shared → Prop) (Done : List Value → Shared → Prop) : Prop where
  next : ∀ i vs s acc c, i < n → J i vs s → s.heap.get? S = some (lstO acc c) → wpAny (model prog w) A (pyNext (.ref I)) (fun r s' => ∃ v, r = some v ∧ s'.heap.get? S = some (lstO acc c) ∧
    ∀ h', (∀ b o, b ≠ S → s'.heap.get? b = some o → h'.get? b = some o) → J (i + 1) (vs ++ [v]) { s' with heap := h' }) (fun _ _ => False) s
  fin : ∀ vs s acc c, J n vs s → s.heap.get? S = some (lstO acc c) → wpAny (model prog w) A (pyNext (.ref I)) (fun r s' => r = none ∧ s'.heap.get? S = some (lstO acc c) ∧ Done vs s') (fun _ _ => False) s
section
variable {prog : Program} {w : World} {A : Around} {R : Result → Shared → Prop} {I S : Addr} {n : Nat} {J : Nat → List Value → Shared → Prop} {Done : List Value → Shared → Prop}
theorem extend_loopJ (C : Collects prog w A.in1 I S n J Done) (hn : n ≤ sizeLine) (res : Value)
    (hR : ∀ vs s' acc c, Done vs s' → s'.heap.get? S = some (lstO acc c) → acc.toList = vs → R (.ok (.ret res)) s') :
    ∀ (k i : Nat) (s : Shared) (acc : Array Value) (c : Nat), n - i = k → i ≤ n → J i acc.toList s → acc.size = i → s.heap.get? S = some (lstO acc c) →
    codeAny (model prog w) A (.builtin "list.extend.loop" ⟨[.ref S, .ref I, res], []⟩) R s := by
  intro k
  induction k with
  | zero =>
    intro i s acc c hk hi hJ hz hS
    have hin : i = n := by omega
    rw [hin] at hJ
    refine codeAny_builtin PySem.F.entry_extend_loop ?_
    rw [Around.under_plainId PySem.F.plain_extend_loop _]
    show wpAny _ A.in1 (pyNext (.ref I) >>= _) _ _ s
    refine wpAny_bind (wpAny_mono (C.fin _ s acc c hJ hS) (fun r s' hr => ?_) fun _ _ z => z.elim)
    obtain ⟨rfl, hS', hD⟩ := hr
    exact wpAny_pure (hR _ s' acc c hD hS' rfl)
  | succ k ih =>
    intro i s acc c hk hi hJ hz hS
    have hlt : i < n := by omega
    refine codeAny_builtin PySem.F.entry_extend_loop ?_
    rw [Around.under_plainId PySem.F.plain_extend_loop _]
    show wpAny _ A.in1 (pyNext (.ref I) >>= _) _ _ s
    refine wpAny_bind (wpAny_mono (C.next i _ s acc c hlt hJ hS) (fun r s' hr => ?_) fun _ _ z => z.elim)
    obtain ⟨v, rfl, hS', hJ'⟩ := hr
    show wpAny _ A.in1 (updateSeq S (·.push v) >>= _) _ _ _
    refine wpAny_bind ?_
    refine wpAny_updateSeq hS' rfl (wpAny_pure ⟨plainId_quiet PySem.F.plain_extend_loop _, ih (i + 1) _ (acc.push v) _ (by omega) hlt ?_ (by rw [Array.size_push, hz]) (Heap.get?_update_self _ hS' rfl)⟩)
      (by rw [hz]; omega) (by show (acc.push v).size ≤ sizeLine + 1; rw [Array.size_push, hz]; omega)
    rw [Array.toList_push]
    exact hJ' _ fun b o hb e => (Heap.get?_update_other _ _ (Ne.symm hb)).trans e
end
section
variable {prog : Program} {w : World} {A : Around} {E : Value → Shared → Prop} {s : Shared} {I : Addr} {n : Nat} {J : Nat → List Value → Shared → Prop} {Done : List Value → Shared → Prop}
theorem collectJ {Q : List Value → Shared → Prop} (hn : n ≤ sizeLine) (hself : ∀ s' : Shared, s'.heap.get? I = s.heap.get? I → wpAny (model prog w) A.in1 (pyIter (.ref I)) (fun it s'' => it = .ref I ∧ s'' = s') (fun _ _ => False) s') (hT : s.TypeIs (.ref I) "generator")
    (C : Collects prog w A.in1 I s.heap.objs.size n J Done)
    (hJ : ∀ h' : Heap, (∀ b o, s.heap.get? b = some o → h'.get? b = some o) → J 0 [] { s with heap := h' })
    (hQ : ∀ vs s' acc c, Done vs s' → s'.heap.get? s.heap.objs.size = some (lstO acc c) → acc.toList = vs → Q vs s') : wpAny (model prog w) A (collect (.ref I)) Q E s := by
  obtain ⟨oI, hoI, hcI⟩ := id hT
  have hIlt := Heap.lt_size hoI
  have hSI : s.heap.objs.size ≠ I := Nat.ne_of_gt hIlt
  unfold collect
  refine wpAny_bind (wpAny_runValue (codeAny_builtin PySem.F.entry_proto_collect ?_))
  rw [Around.under_plainId PySem.F.plain_proto_collect _]
  show wpAny _ A.in1 (newList [] >>= fun l => again (.builtin "list.__iadd__" ⟨[l, .ref I], []⟩)) _ _ s
  refine wpAny_bind (wpAny_newObj_type ?_)
  refine wpAny_pure ⟨plainId_quiet PySem.F.plain_list_iadd _, codeAny_builtin PySem.F.entry_list_iadd ?_⟩
  rw [Around.under_plainId PySem.F.plain_list_iadd _]
  have hT₁ : ({ s with heap := s.heap.push { cls := .type "list", data := .seq ([] : List Value).toArray } } : Shared).TypeIs (.ref I) "generator" := ⟨oI, Heap.get?_push_of_some _ hoI, hcI⟩
  show wpAny _ A.in1 (Builtin.List.listExtendWith (.ref s.heap.objs.size) (.ref I) (.ref s.heap.objs.size)) _ _ _
  unfold Builtin.List.listExtendWith
  refine wpAny_bind (wpAny_typeOf hT₁ ?_)
  have h1 : Builtin.List.listSameRef (.ref s.heap.objs.size) (.ref I) = false := by simp [Builtin.List.listSameRef, hSI]
  have h2 : (Value.type "generator" == Value.type "list") = false := by decide
  have h3 : (Value.type "generator" == Value.type "tuple") = false := by decide
  simp only [h1, h2, h3, Bool.or_false, Bool.false_eq_true, if_false]
  refine wpAny_bind (wpAny_mono (hself _ ((Heap.get?_push_of_some _ hoI).trans hoI.symm)) (fun it s'' e => ?_) fun _ _ z => z.elim)
  obtain ⟨rfl, rfl⟩ := e
  refine wpAny_bind (wpAny_holding ?_)
  unfold Builtin.List.listLengthHint
  refine wpAny_bind (wpAny_specialOf hT₁ PySem.F.gen_no_len ?_)
  show wpAny _ A.in1 (specialOf (Value.ref I) (Str.ofString "__length_hint__") >>= _) _ _ _
  refine wpAny_bind (wpAny_specialOf hT₁ PySem.F.gen_no_hint ?_)
  refine wpAny_pure ?_
  show wpAny _ A.in1 (rule "list.extend.makes-room" >>= fun _ => Builtin.List.listTouch (.ref s.heap.objs.size) >>= fun _ =>
    again (.builtin "list.extend.loop" ⟨[.ref s.heap.objs.size, .ref I, .ref s.heap.objs.size], []⟩)) _ _ _
  refine wpAny_bind (wpAny_rule ?_)
  have hS₁ : (s.heap.push { cls := .type "list", data := .seq ([] : List Value).toArray }).get? s.heap.objs.size = some { cls := .type "list", data := .seq ([] : List Value).toArray } := Heap.get?_push_size _ rfl
  refine wpAny_bind ?_
  show wpAny _ A.in1 (updateSeq s.heap.objs.size (·.push .none) >>= fun _ => updateSeq s.heap.objs.size (·.pop)) _ _ _
  refine wpAny_bind (wpAny_updateSeq hS₁ rfl ?_)
  have hS₂ := Heap.get?_update_self (Obj.mapSeq (·.push Value.none)) hS₁ rfl
  refine wpAny_updateSeq hS₂ rfl ?_
  have hS₃ := Heap.get?_update_self (Obj.mapSeq (·.pop)) hS₂ rfl
  have oth : ∀ b o, s.heap.get? b = some o →
      (((s.heap.push { cls := .type "list", data := .seq ([] : List Value).toArray }).update s.heap.objs.size (Obj.mapSeq (·.push Value.none))).update s.heap.objs.size (Obj.mapSeq (·.pop))).get? b = some o :=
    fun b o e => by
      have hb : s.heap.objs.size ≠ b := Nat.ne_of_gt (Heap.lt_size e)
      exact (Heap.get?_update_other _ _ hb).trans ((Heap.get?_update_other _ _ hb).trans (Heap.get?_push_of_some _ e))
  refine wpAny_pure ⟨plainId_quiet PySem.F.plain_extend_loop _, extend_loopJ C hn _ (fun vs s' acc c hD hS' ea => ?_) n 0 _ _ _ rfl (Nat.zero_le _) (hJ _ oth) rfl hS₃⟩
  show wpAny _ A (load s.heap.objs.size >>= _) _ _ s'
  refine wpAny_bind (wpAny_load hS' ?_)
  show wpAny _ A (pure acc.toList) _ _ s'
  rw [ea]
  exact wpAny_pure (hQ vs s' acc c hD hS' ea)
end
end
-- S43
section
set_option maxHeartbeats 4000000
/-! list.sort with a key that runs the program and tells strings: the outcome is the items in some order -/
section
variable {w : World} {A : Around} {E : Value → Shared → Prop} {s : Shared} {h₀ : Heap} {L a kS : Addr} {m : Str → Option Value} {led : Array Value → List (Addr × Obj)} {vs : List Value} {e e1 : Nat} {P : PySem.Fin → Shared → Prop}
/-- what a call of the key does: a string, and the ledger with another table -/
abbrev KeyTurn (w : World) (A : Around) (h₀ : Heap) (L : Addr) (m : Str → Option Value) (led : Array Value → List (Addr × Obj)) (f : Value) (own : List (Addr × Obj)) (v : Value) : Prop :=
  ∀ (s : Shared) (ps : Array Value), Fr h₀ L s.heap m → News h₀ L s.heap (own ++ led ps) → TriplesOk ps.toList → AllBare s.gens →
    wpAny (model prog w) A (call f [v]) (fun k s' => ∃ st t ps', k = .str st t ∧ Aft s s' ∧ Fr h₀ L s'.heap m ∧ News h₀ L s'.heap (own ++ led ps') ∧ TriplesOk ps'.toList) (fun _ _ => False) s
theorem key_tail {st : SortSt} {keys : Array Value} {ps : Array Value} (F : Fr h₀ L s.heap m) (N : News h₀ L s.heap ([(kS, seqObj "list" keys e), (a, seqObj "list" #[] e1)] ++ led ps)) (hka : kS ≠ a) (hnk : ∀ q ps, q ∈ led ps → q.1 ≠ kS) (hna : ∀ q ps, q ∈ led ps → q.1 ≠ a)
    (hsz : keys.size = vs.length) (h64 : vs.length < 64) (hp : (arrOf st).Perm (keys.zip vs.toArray)) (hfl : failedOf st = none)
    (h : ∀ h' tk out c, Fr h₀ L h' m → News h₀ L h' ((a, seqObj "list" out c) :: led ps) → out.toList.Perm vs → P (.done (.ret .none)) { s with heap := h', toks := tk }) :
    wpAny (model prog w) A (ksk_tail a false e1 (.ref kS) st) P E s := by
  have nk := N (kS, seqObj "list" keys e) (.head _)
  have na := N (a, seqObj "list" #[] e1) (.tail _ (.head _))
  have Nn : News h₀ L s.heap (led ps) := fun p hp => N p (.tail _ (.tail _ hp))
  have hsz2 : (arrOf st).size = vs.length := by rw [hp.size_eq, Array.size_zip, hsz, List.size_toArray, Nat.min_self]
  have hout : ((arrOf st).map (·.2)).size = vs.length := by simp only [Array.size_map]; exact hsz2
  have hperm : ((arrOf st).map (·.2)).toList.Perm vs := by
    have hl : (arrOf st).toList.Perm (keys.toList.zip vs) := by rw [← ksk_zip]; exact Array.perm_iff_toList_perm.mp hp
    rw [Array.toList_map]
    have := hl.map Prod.snd
    rw [List.map_snd_zip (by simp [hsz])] at this
    exact this
  have s1 := Heap.SameBut.update s.heap kS (Obj.mapSeq fun _ => (#[] : Array Value))
  have na1 : (s.heap.update kS (Obj.mapSeq fun _ => (#[] : Array Value))).get? a = some (seqObj "list" #[] e1) := (s1.2 a hka.symm).trans na.1
  have s2 := Heap.SameBut.update (s.heap.update kS (Obj.mapSeq fun _ => (#[] : Array Value))) a (Obj.mapSeq fun _ => (arrOf st).map (·.2))
  obtain ⟨c2, hc2⟩ : ∃ c2, ((s.heap.update kS (Obj.mapSeq fun _ => (#[] : Array Value))).update a (Obj.mapSeq fun _ => (arrOf st).map (·.2))).get? a = some (seqObj "list" ((arrOf st).map (·.2)) c2) :=
    by have q := get?_update_seq na1 fun _ => (arrOf st).map (·.2); exact ⟨_, q⟩
  have N2 := ksk_news (ksk_news Nn s1 (hnk · ps)) s2 (hna · ps)
  unfold ksk_tail
  try dsimp only
  refine wpAny_bind (listUpdate_at nk.1 rfl ?_ (by rw [hsz, sizeLine_eq]; omega) (Nat.zero_le _))
  refine wpAny_bind (wpAny_letGo ?_)
  refine wpAny_bind (seqEpoch_at na1 rfl ?_)
  refine wpAny_bind (listUpdate_at na1 rfl ?_ (Nat.zero_le _) (Nat.le_trans (Nat.le_of_eq hout) (by rw [sizeLine_eq]; omega)))
  rw [hfl]
  simp only [bne_self_eq_false, Bool.false_eq_true, if_false]
  refine wpAny_pure (h _ _ _ c2 (ksk_fr (ksk_fr F s1 nk.2.1 nk.2.2) s2 na.2.1 na.2.2) (fun p hp => ?_) hperm)
  rcases List.mem_cons.mp hp with rfl | hp
  · exact ⟨hc2, na.2⟩
  · exact N2 p hp
theorem key_end {keys : Array Value} {ss : List Str} {ps : Array Value} (F : Fr h₀ L s.heap m) (N : News h₀ L s.heap ([(kS, seqObj "list" keys e), (a, seqObj "list" #[] e1)] ++ led ps)) (hka : kS ≠ a) (hnk : ∀ q ps, q ∈ led ps → q.1 ≠ kS) (hna : ∀ q ps, q ∈ led ps → q.1 ≠ a)
    (hk : StrsAre keys.toList ss) (hsz : keys.size = vs.length) (h64 : vs.length < 64)
    (h : ∀ h' tk out c, Fr h₀ L h' m → News h₀ L h' ((a, seqObj "list" out c) :: led ps) → out.toList.Perm vs → P (.done (.ret .none)) { s with heap := h', toks := tk }) :
    wpAny (model prog w) A (ksk_end a false vs.toArray e1 (.ref kS) keys) P E s := by
  have hzs : (keys.zip vs.toArray).size = vs.length := by rw [Array.size_zip, hsz, List.size_toArray, Nat.min_self]
  unfold ksk_end
  try dsimp only
  simp only [Bool.false_eq_true, if_false]
  by_cases h2 : vs.toArray.size < 2
  · rw [if_pos h2, if_pos h2]
    refine wpAny_bind (wpAny_pure ?_)
    rw [StateT.run_pure]
    refine wpAny_bind (wpAny_pure ?_)
    try dsimp only
    exact key_tail (st := SortSt.mk' general' (keys.zip vs.toArray) #[] 7 none) F N hka hnk hna hsz h64 (Array.Perm.refl _) rfl h
  · rw [if_neg h2, if_neg h2]
    rw [List.size_toArray] at h2
    have hkk : keyKind' keys = pure oneType' := by
      obtain ⟨v₁, v₂, rest, e⟩ : ∃ v₁ v₂ rest, keys.toList = v₁ :: v₂ :: rest := by
        have hl : 2 ≤ keys.toList.length := by rw [Array.length_toList]; omega
        cases q : keys.toList with
        | nil => rw [q] at hl; simp at hl
        | cons v₁ r =>
          cases r with
          | nil => rw [q] at hl; simp at hl
          | cons v₂ rest => exact ⟨v₁, v₂, rest, rfl⟩
      have ek : keys = (v₁ :: v₂ :: rest).toArray := by rw [← e, Array.toArray_toList]
      rw [e] at hk
      rw [ek]
      exact keyKind_strs hk
    rw [hkk]
    refine wpAny_bind (wpAny_pure ?_)
    have hko : KeysOf strKind (keys.zip vs.toArray) := by
      intro p hp
      rw [ksk_zip] at hp
      obtain ⟨x, y⟩ := p
      obtain ⟨x', t, e⟩ := hk.all _ (List.of_mem_zip hp).1
      have e' : x = .str x' t := e
      exact ⟨x'.cps.toList, by rw [e']⟩
    refine wpAny_bind (wpAny_mono (wpS_sortRunsK strKind_oneLt (a₀ := keys.zip vs.toArray) (st := SortSt.mk' oneType' (keys.zip vs.toArray) #[] 7 none)
      (Q := fun _ st' => (arrOf st').Perm (keys.zip vs.toArray) ∧ failedOf st' = none)
      hko ⟨Array.Perm.refl _, rfl, rfl, rfl⟩ (by rw [hzs]; omega) (by rw [hzs]; exact h64) fun st' a1 a2 a3 => ⟨a1, a2⟩) ?_ fun _ _ e => e)
    rintro ⟨⟨⟩, st'⟩ s' ⟨rfl, hp, hf⟩
    try dsimp only
    exact key_tail F N hka hnk hna hsz h64 hp hf h
theorem strs_snoc {x : Str} {t : Tok} : ∀ {vs : List Value} {ns : List Str}, StrsAre vs ns → StrsAre (vs ++ [.str x t]) (ns ++ [x])
  | _, _, .nil => .cons x t .nil
  | _, _, .cons n' t' h => .cons n' t' (strs_snoc h)
theorem key_rest {f : Value} {ps : Array Value} (F : Fr h₀ L s.heap m) (N : News h₀ L s.heap ([(kS, seqObj "list" #[] 0), (a, seqObj "list" #[] e1)] ++ led ps)) (hka : kS ≠ a) (hnk : ∀ q ps, q ∈ led ps → q.1 ≠ kS) (hna : ∀ q ps, q ∈ led ps → q.1 ≠ a)
    (ht : TriplesOk ps.toList) (hG : AllBare s.gens) (h64 : vs.length < 64)
    (turn : ∀ v ∈ vs, ∀ kA e, KeyTurn w A h₀ L m led f [(kS, seqObj "list" kA e), (a, seqObj "list" #[] e1)] v)
    (h : ∀ s' out c ps', Aft s s' → Fr h₀ L s'.heap m → News h₀ L s'.heap ((a, seqObj "list" out c) :: led ps') → TriplesOk ps'.toList → out.toList.Perm vs → P (.done (.ret .none)) s') :
    wpAny (model prog w) A (ksk_rest a f false vs.toArray e1 (.ref kS)) P E s := by
  unfold ksk_rest
  refine wpAny_bind (wpAny_rule ?_)
  first
    | rw [List.forIn_toArray]
    | (rw [← Array.forIn_toList]; simp only [List.toList_toArray])
    | rw [← Array.forIn_toList]
  refine wpAny_bind (ksk_fold (fun i s' => ∃ kA e ps ss, Aft s s' ∧ Fr h₀ L s'.heap m ∧ News h₀ L s'.heap ([(kS, seqObj "list" kA e), (a, seqObj "list" #[] e1)] ++ led ps) ∧ TriplesOk ps.toList ∧ StrsAre kA.toList ss ∧ kA.size = i ∧ i ≤ vs.length) vs 0 s
    ⟨#[], 0, ps, [], ⟨rfl, id, Nat.le_refl _⟩, F, N, ht, .nil, rfl, Nat.zero_le _⟩ ?step ?done)
  case step =>
    rintro j x s' hx ⟨kA, e, ps, ss, hA', F', N', ht', hk, hz, _⟩
    simp only [Nat.zero_add] at hz ⊢
    have hj : j < vs.length := (List.getElem?_eq_some_iff.mp hx).1
    refine wpAny_bind (wpAny_attempt (wpAny_mono (turn x (List.mem_of_getElem? hx) kA e s' ps F' N' ht' (hA'.gens hG)) (fun v s'' he => ?_) fun _ _ hF => hF.elim))
    obtain ⟨st, t2, ps2, rfl, hA2, F2, N2, ht2⟩ := he
    try dsimp only
    have nk := N2 (kS, seqObj "list" kA e) (.head _)
    have na := N2 (a, seqObj "list" #[] e1) (.tail _ (.head _))
    have s1 := Heap.SameBut.update s''.heap kS (Obj.mapSeq (·.push (.str st t2)))
    obtain ⟨c2, hc2⟩ : ∃ c2, (s''.heap.update kS (Obj.mapSeq (·.push (.str st t2)))).get? kS = some (seqObj "list" (kA.push (.str st t2)) c2) := by have q := get?_update_seq nk.1 (·.push (.str st t2)); exact ⟨_, q⟩
    have ea : (kA.push (Value.str st t2)).toList = kA.toList ++ [Value.str st t2] := by simp
    refine wpAny_bind (listUpdate_at nk.1 rfl ?_ (by rw [sizeLine_eq]; omega) (Nat.le_trans (Nat.le_of_eq (Array.size_push ..)) (by rw [sizeLine_eq]; omega)))
    refine wpAny_pure ⟨rfl, kA.push (.str st t2), c2, ps2, ss ++ [st], ⟨(hA'.trans hA2).os, (hA'.trans hA2).gens, (hA'.trans hA2).size⟩, ksk_fr F2 s1 nk.2.1 nk.2.2, fun p hp => ?_, ht2, by rw [ea]; exact strs_snoc hk, by rw [Array.size_push, hz], hj⟩
    rcases List.mem_append.mp hp with hp | hp
    · rcases List.mem_cons.mp hp with rfl | hp
      · exact ⟨hc2, nk.2⟩
      · rw [List.mem_singleton.mp hp]
        exact ⟨(s1.2 a hka.symm).trans na.1, na.2⟩
    · exact ksk_news (fun q hq => N2 q (List.mem_append_right _ hq)) s1 (hnk · ps2) p hp
  case done =>
    rintro s' ⟨kA, e, ps2, ss, hA', F', N', ht', hk, hz, _⟩
    have nk := N' (kS, seqObj "list" kA e) (.head _)
    try dsimp only
    refine wpAny_bind (listItems_at nk.1 rfl ?_)
    refine key_end F' N' hka hnk hna hk (by omega) h64 fun h3 tk3 out c F3 N3 hp => h _ out c ps2 ⟨hA'.os, hA'.gens, hA'.size⟩ F3 N3 ht' hp
theorem key_sort {f : Value} {n : Nat} {ps : Array Value} (F : Fr h₀ L s.heap m) (N : News h₀ L s.heap (led ps)) (ho : s.heap.get? a = some (seqObj "list" vs.toArray n)) (haL : a ≠ L) (ha0 : h₀.get? a = none) (hna : ∀ q ps, q ∈ led ps → q.1 ≠ a)
    (hled : ∀ q ps ps', q ∈ led ps → ∃ o, (q.1, o) ∈ led ps') (ht : TriplesOk ps.toList) (hG : AllBare s.gens) (h64 : vs.length < 64)
    (turn : ∀ v ∈ vs, ∀ kS kA e e1, a < kS → KeyTurn w A h₀ L m led f [(kS, seqObj "list" kA e), (a, seqObj "list" #[] e1)] v)
    (h : ∀ s' out c ps', Aft s s' → Fr h₀ L s'.heap m → News h₀ L s'.heap ((a, seqObj "list" out c) :: led ps') → TriplesOk ps'.toList → out.toList.Perm vs → P (.done (.ret .none)) s') :
    wpAny (model prog w) A (ksk_tree a f false) P E s := by
  have ha : a < s.heap.objs.size := Heap.lt_size ho
  have s1 := Heap.SameBut.update s.heap a (Obj.mapSeq fun _ => (#[] : Array Value))
  obtain ⟨e1, ho1⟩ : ∃ e1, (s.heap.update a (Obj.mapSeq fun _ => (#[] : Array Value))).get? a = some (seqObj "list" #[] e1) := by have q := get?_update_seq ho fun _ => #[]; exact ⟨_, q⟩
  have F1 := ksk_fr F s1 haL ha0
  have N1 := ksk_news N s1 (hna · ps)
  have hkS : ((s.heap.update a (Obj.mapSeq fun _ => (#[] : Array Value))).push (seqObj "tuple" vs.toArray 0)).objs.size = s.heap.objs.size + 1 := by rw [size_push', Heap.size_update]
  have hLk : L < ((s.heap.update a (Obj.mapSeq fun _ => (#[] : Array Value))).push (seqObj "tuple" vs.toArray 0)).objs.size := (F1.push _).ns.lt
  unfold ksk_tree
  refine wpAny_bind (listItems_at ho rfl ?_)
  refine wpAny_bind (listUpdate_at ho rfl ?_ (by rw [List.size_toArray, sizeLine_eq]; omega) (Nat.zero_le _))
  refine wpAny_bind (seqEpoch_at ho1 rfl ?_)
  refine wpAny_bind (wpAny_newTuple ?_ (by show vs.length ≤ _; rw [sizeLine_eq]; omega))
  refine wpAny_bind (wpAny_newList ?_ (Nat.zero_le _))
  refine wpAny_holding ?_
  have lt1 : a < s.heap.objs.size + 1 := Nat.lt_succ_of_lt ha
  refine key_rest (led := led) (ps := ps) (s := { s with heap := ((s.heap.update a (Obj.mapSeq fun _ => (#[] : Array Value))).push (seqObj "tuple" vs.toArray 0)).push (seqObj "list" #[] 0) }) (kS := ((s.heap.update a (Obj.mapSeq fun _ => (#[] : Array Value))).push (seqObj "tuple" vs.toArray 0)).objs.size)
    ((F1.push _).push _) (fun p hp => ?_) (by rw [hkS]; exact Nat.ne_of_gt lt1) (fun q ps' hq => ?_) hna ht hG h64 (fun v hv kA e => turn v hv _ kA e e1 (by rw [hkS]; exact lt1)) fun s' out c ps' hA => h s' out c ps' ⟨hA.os, hA.gens, hA.size⟩
  · rcases List.mem_append.mp hp with hp | hp
    · rcases List.mem_cons.mp hp with rfl | hp
      · exact ⟨Heap.get?_push_size _ rfl, Nat.ne_of_gt hLk, Heap.get?_none_of_le (Nat.le_trans F.above (Nat.le_of_lt hLk))⟩
      · rw [List.mem_singleton.mp hp]
        exact ⟨Heap.get?_push_of_some _ (Heap.get?_push_of_some _ ho1), haL, ha0⟩
    · exact ⟨Heap.get?_push_of_some _ (Heap.get?_push_of_some _ (N1 p hp).1), (N1 p hp).2⟩
  · obtain ⟨o, hq2⟩ := hled q ps' ps hq
    rw [hkS]
    exact Nat.ne_of_lt (Nat.lt_succ_of_lt (Heap.lt_size (N _ hq2).1))
end
end
-- S44
section
set_option maxHeartbeats 4000000
section
variable {w : World} {A : Around} {E : Value → Shared → Prop} {s : Shared}
theorem sort_str_tree (a : Addr) : Builtin.«list.sort» ⟨[.ref a], [(Str.ofString "key", .type "str")]⟩ = ksk_tree a (.type "str") false := rfl
theorem sorted_key {u : Addr} {CC : List Value → Shared → Prop} {Q : Value → Shared → Prop} (hcol : wpAny (model prog w) A.in1 (collect (.ref u)) CC (fun _ _ => False) s)
    (hsort : ∀ vs s₁, CC vs s₁ → vs.length < 64 ∧ ∀ D h₁, D = s₁.heap.objs.size → (∀ b o, s₁.heap.get? b = some o → h₁.get? b = some o) → h₁.get? D = some (seqObj "list" vs.toArray 0) →
      wpAny (model prog w) A.in1.in1 (ksk_tree D (.type "str") false) (fun fin s₂ => fin = .done (.ret .none) ∧ Q (.ref D) s₂) (fun _ _ => False) { s₁ with heap := h₁ }) :
    wpAny (model prog w) A (call (.builtin "sorted") [.ref u] [(Str.ofString "key", .type "str")]) Q E s := by
  refine call_function_entry_kw kind_sorted plain_sorted entry_sorted (ksk_s1 _ _) ?_
  unfold Builtin.«sorted»
  refine wpAny_bind (m := checkCount "sorted" 1 1 _) (wpAny_pure ?_)
  refine wpAny_bind (wpAny_mono hcol (fun vs s₁ hc => ?_) fun _ _ z => z.elim)
  obtain ⟨h64, hs⟩ := hsort vs s₁ hc
  refine wpAny_bind (wpAny_newList ?_ (by rw [sizeLine_eq]; omega))
  have hoL : (s₁.heap.push (seqObj "list" vs.toArray 0)).get? s₁.heap.objs.size = some (seqObj "list" vs.toArray 0) := Heap.get?_push_size _ rfl
  show wpAny _ _ _ _ _ { s₁ with heap := s₁.heap.push (seqObj "list" vs.toArray 0) }
  refine wpAny_bind (wpAny_holding (wpAny_call_entry_kw slot_list_sort ⟨_, hoL, rfl⟩ entry_list_sort ?body (ksk_l1 _ _)))
  case body =>
    show wpAny (model prog w) A.in1.in1 (Builtin.«list.sort» ⟨[.ref s₁.heap.objs.size], [(Str.ofString "key", .type "str")]⟩) _ _ _
    rw [sort_str_tree]
    refine wpAny_mono (hs _ _ rfl (fun b o e => Heap.get?_push_of_some _ e) hoL) (fun fin s₂ hf => ?_) fun _ _ z => z.elim
    obtain ⟨rfl, hq⟩ := hf
    exact ⟨_, rfl, wpAny_pure ⟨_, rfl, hq⟩⟩
end
end
-- S45
section
set_option maxHeartbeats 4000000
/-! the generator expression of sorted_committees: one turn makes one CandidateSet -/
/-- a committee: a tuple and its members -/
structure Cm where
  T : Addr
  cv : List (Nat × Tok)
/-- what the generator needs of the state before its i-th item -/
structure CInv (w : World) (cms : List Cm) (g₀ : Heap) (C I l u : Addr) (i : Nat) (s : Shared) : Prop where
  fr : ∃ m, Fr g₀ C s.heap m
  tab : ∃ ps, s.heap.get? 52 = some (tabObj ps) ∧ TriplesOk ps.toList
  it : s.heap.IsListIter I l i
  ls : s.heap.IsList l (cms.map fun c => Value.ref c.T).toArray
  tup : ∀ c ∈ cms, s.heap.get? c.T = some (seqO "tuple" c.cv 0)
  gen : ∃ o, s.heap.get? u = some o
  bare : AllBare s.gens
structure CSince (w : World) (cms : List Cm) (C I l : Addr) (i : Nat) (s₀ : Shared) (y : Value) (s : Shared) : Prop where
  new : ∃ x dx ep c, cms[i]? = some c ∧ y = .ref x ∧ s.heap.get? x = some (csO w dx ep c.cv) ∧ s.heap.get? dx = some emptyDict ∧ (∀ b o, s₀.heap.get? b = some o → b < dx) ∧ dx < x
  tab : ∃ ps, s.heap.get? 52 = some (tabObj ps) ∧ TriplesOk ps.toList
  it : s.heap.IsListIter I l (i + 1)
  ns : ∃ m, s.heap.Ns C m
  keep : ∀ b o, b ≠ C → b ≠ I → b ≠ 52 → s₀.heap.get? b = some o → s.heap.get? b = some o
  aft : Aft s₀ s
structure CEnd (I : Addr) (s₀ s : Shared) : Prop where
  keep : ∀ b o, b ≠ I → s₀.heap.get? b = some o → s.heap.get? b = some o
  aft : Aft s₀ s
/-- every object of the heap that lies neither in g₀ nor at C nor at 52 -/
def others (g₀ h : Heap) (C : Addr) : List (Addr × Obj) := (List.range h.objs.size).filterMap fun b => if b = C ∨ b = 52 ∨ (g₀.get? b).isSome = true then none else (h.get? b).map fun o => (b, o)
theorem mem_others {g₀ h : Heap} {C : Addr} {p : Addr × Obj} : p ∈ others g₀ h C ↔ (h.get? p.1 = some p.2 ∧ p.1 ≠ C ∧ p.1 ≠ 52 ∧ g₀.get? p.1 = none) := by
  unfold others
  rw [List.mem_filterMap]
  constructor
  · rintro ⟨b, hb, e⟩
    split at e
    · cases e
    · rename_i q
      cases q2 : h.get? b with
      | none => rw [q2] at e; cases e
      | some o =>
        rw [q2] at e
        have e' : (b, o) = p := Option.some.inj e
        subst e'
        refine ⟨q2, fun z => q (.inl z), fun z => q (.inr (.inl z)), ?_⟩
        cases q3 : g₀.get? b with
        | none => rfl
        | some _ => exact absurd (.inr (.inr (by rw [q3]; rfl))) q
  · rintro ⟨h1, h2, h3, h4⟩
    refine ⟨p.1, List.mem_range.mpr (Heap.lt_size h1), ?_⟩
    rw [if_neg (by
      rw [h4]
      rintro (z | z | z)
      · exact h2 z
      · exact h3 z
      · cases z), h1]
    rfl
theorem cset_turn (w : World) (cms : List Cm) (hcm : ∀ c ∈ cms, Sm c.cv) {g₀ base : Heap} {C I l u : Addr} {A₀ : Around} {dp un : Nat} {gd : Option (List Code)} {outer : List Env}
    {scope : Scope} {cl : List (Str × Addr)} {code : Value} {bi : Addr} {env : Env} {p1 p2 p3 : Pos} (hk : scope.kind = .function) (hg : env.globals = mainGlobals)
    (hx : scope.names.lookup (Str.ofString "committee") = some .local) (hc : (genEnv scope cl C code bi env).kindOf (Str.ofString "CandidateSet") = some .globalImplicit)
    {lo : List Str} {mean : ExcName → Option Value} {mg mb : Str → Option Value} (B : Below A₀ base outer g₀) (X : (kf.heap_1 w.params).In g₀) (Tp : Top topProg lo mean mg mb g₀)
    (hdp : dp + 20 < recursionLimit) (hun : un + 200 < cLine) (h52 : g₀.get? 52 = none) (hC52 : C ≠ 52) (hCu : C < u) (hu0 : g₀.get? u = none) (hu52 : u ≠ 52) (hI0 : g₀.get? I = none) (hIlt : @LT.lt Nat _ I C) (hI52 : I ≠ 52) (hlI : l ≠ I) (hlC : l ≠ C) (hl52 : l ≠ 52) (hTI : ∀ c ∈ cms, c.T ≠ I ∧ c.T ≠ C ∧ c.T ≠ 52) (hgC : g₀.objs.size ≤ C) :
    GenTurn prog w (ktrG dp un gd (genEnv scope cl C code bi env) outer) I (genEnv scope cl C code bi env) (Str.ofString "committee") (.Call (.Name (Str.ofString "CandidateSet") p1) [.Name (Str.ofString "committee") p2] [] p3) cms.length
      (CInv w cms g₀ C I l u) (CSince w cms C I l) (CEnd I) where
  self := fun s hi => by
    refine wpAny_pyIter_listiter hi.it ⟨rfl, rfl⟩
  fin := fun s hi => by
    have W := Walks.list (prog := prog) (w := w) (A := ktrG dp un gd (genEnv scope cl C code bi env) outer) rfl I l hlI (cms.map fun c => Value.ref c.T).toArray
    have hz : (cms.map fun c => Value.ref c.T).toArray.size = cms.length := by simp
    rw [hz] at W
    refine W.done s _ _ ⟨hi.it, hi.ls⟩ fun h' tk k => ⟨rfl, ⟨fun b o hb e => k b o (fun q => hb (List.mem_singleton.mp q)) e, ⟨rfl, id, Nat.le_refl _⟩⟩⟩
  turn := fun i s hlt hi => by
    have hIC : I ≠ C := Nat.ne_of_lt hIlt
    have W := Walks.list (prog := prog) (w := w) (A := ktrG dp un gd (genEnv scope cl C code bi env) outer) rfl I l hlI (cms.map fun c => Value.ref c.T).toArray
    have hz : (cms.map fun c => Value.ref c.T).toArray.size = cms.length := by simp
    rw [hz] at W
    obtain ⟨m, F⟩ := hi.fr
    obtain ⟨ps, htab, htr⟩ := hi.tab
    refine W.item i s _ _ hlt ⟨hi.it, hi.ls⟩ fun v h₁ tk₁ hv st₁ k₁ => ⟨v, rfl, ?_⟩
    have hci : cms[i]? = some cms[i] := List.getElem?_eq_getElem hlt
    obtain ⟨c, hcc⟩ : ∃ c, cms[i] = c := ⟨_, rfl⟩
    rw [hcc] at hci
    have hcmem : c ∈ cms := List.mem_of_getElem? hci
    have hvc : v = .ref c.T := by
      simp only [List.getElem?_toArray, List.getElem?_map, hci, Option.map_some] at hv
      exact (Option.some.inj hv).symm
    subst hvc
    have kI : ∀ b o, b ≠ I → s.heap.get? b = some o → h₁.get? b = some o := fun b o hb e => k₁ b o (fun q => hb (List.mem_singleton.mp q)) e
    have F₁ : Fr g₀ C h₁ m := ⟨F.ns.at' fun o e => kI _ o hIC.symm e, fun b o e => kI b o (fun q => by rw [q, hI0] at e; cases e) (F.keep b o e), F.above⟩
    refine wpAny_storeName_local (env := genEnv scope cl C code bi env) hx F₁.ns (fun h₂ hn₂ hs₂ => ?_) (by show (scope.kind == .class || (scope.kind == .module && C != env.globals)) = false; rw [hk]; rfl)
    have F₂ := F₁.set hn₂ hs₂
    have k₂ : ∀ b o, b ≠ C → b ≠ I → s.heap.get? b = some o → h₂.get? b = some o := fun b o hbC hbI e => hs₂.extBut b o hbC (kI b o hbI e)
    have htab₂ := k₂ _ _ hC52.symm hI52.symm htab
    have hT₂ := k₂ _ _ (hTI c hcmem).2.1 (hTI c hcmem).1 (hi.tup c hcmem)
    obtain ⟨ou, hou⟩ := hi.gen
    have huI : u ≠ I := Nat.ne_of_gt (Nat.lt_trans hIlt hCu)
    have hu₂ := k₂ _ _ (Nat.ne_of_gt hCu) huI hou
    refine elt_cs w hk hg hx hc F₂ X Tp (by rw [if_pos rfl]) ?_
    refine cs_makeG w c.T c.cv (hcm c hcmem) lo mean mg mb dp un gd _ outer A₀ base g₀ C _ _ _ _ ((52, tabObj ps) :: others g₀ h₂ C) (fun o => (52, o) :: others g₀ h₂ C) ps B F₂ X ?_ Tp hk rfl hdp hun hi.bare (.head fun p hp => (mem_others.mp hp).2.2.1) htr ⟨_, hT₂, .seq "tuple" 0 (.inr rfl)⟩ ?_
    · intro p hp
      rcases List.mem_cons.mp hp with rfl | hp
      · exact ⟨htab₂, hC52.symm, h52⟩
      · obtain ⟨a1, a2, a3, a4⟩ := mem_others.mp hp
        exact ⟨a1, a2, a4⟩
    · intro x dx ep ps' s₃ hA₃ F₃ N₃ ht₃ lt₃ ltx
      have k₃ : ∀ b o, b ≠ C → b ≠ 52 → h₂.get? b = some o → s₃.heap.get? b = some o := fun b o hbC hb52 e => by
        cases q : g₀.get? b with
        | some o' =>
          have e2 := F₂.keep b o' q
          rw [e] at e2
          cases e2
          exact F₃.keep b _ q
        | none => exact (N₃ (b, o) (.tail _ (.tail _ (.tail _ (mem_others.mpr ⟨e, hbC, hb52, q⟩))))).1
      have ltu : u < dx := lt₃ (u, ou) (.tail _ (mem_others.mpr ⟨hu₂, Nat.ne_of_gt hCu, hu52, hu0⟩))
      have lt52 : 52 < dx := lt₃ (52, tabObj ps') (.head _)
      refine ⟨⟨x, dx, ep, c, hci, rfl, (N₃ _ (.head _)).1, (N₃ _ (.tail _ (.head _))).1, fun b o e => ?_, ltx⟩, ⟨ps', (N₃ _ (.tail _ (.tail _ (.head _)))).1, ht₃⟩, ?_, ⟨_, F₃.ns⟩, fun b o hbC hbI hb52 e => k₃ b o hbC hb52 (k₂ b o hbC hbI e), ⟨hA₃.os, hA₃.gens, hA₃.size⟩⟩
      · by_cases hbC : b = C
        · rw [hbC]; exact Nat.lt_trans hCu ltu
        by_cases hb52 : b = 52
        · rw [hb52]; exact lt52
        cases q : g₀.get? b with
        | some o' => exact Nat.lt_trans (Nat.lt_of_lt_of_le (Heap.lt_size q) hgC) (Nat.lt_trans hCu ltu)
        | none =>
          by_cases hbI : b = I
          · rw [hbI]; exact Nat.lt_trans hIlt (Nat.lt_trans hCu ltu)
          · exact lt₃ (b, o) (.tail _ (mem_others.mpr ⟨k₂ b o hbC hbI e, hbC, hb52, q⟩))
      · obtain ⟨oI, hoI, hcI, hdI⟩ := st₁.1
        exact ⟨oI, k₃ _ _ hIC hI52 (hs₂.extBut _ _ hIC hoI), hcI, hdI⟩
end
-- S46
section
set_option maxHeartbeats 4000000
/-! making the generator of sorted_committees -/
section
variable {w : World} {A A₀ : Around} {E : Value → Shared → Prop} {s : Shared} {base h₀ : Heap} {outer : List Env} {L a c P : Addr} {m mg mb : Str → Option Value} {cn : Str} {cs : Scope} {cl : List (Str × Addr)} {news : List (Addr × Obj)} {g : Obj → List (Addr × Obj)}
  {lo : List Str} {mean : ExcName → Option Value} {ps : Array Value} {l : Addr}
theorem gen_cset {elt : PySem.Expr} {x y : Str} {px py pos : Pos} {scope : Scope} {cl' : List (Str × Addr)} {its : Array Value} {nl : Nat} {Q : Value → Shared → Prop}
    (B : Below A₀ base outer h₀) (F : Fr h₀ L s.heap m) (XK : (kf.heap_1 w.params).In h₀) (N : News h₀ L s.heap news) (T : Top topProg lo mean mg mb h₀) (C : CodeHd h₀ c P) (U : UpdF P (tabObj ps) news g) (ht : TriplesOk ps.toList) (hG : AllBare s.gens) (hh : A.handled = none) (hA : A.frames = some (envX cn cs L a (.ref c) cl :: outer)) (hroom : A.depth < recursionLimit)
    (hco : scope.isCoroutine = false) (hclos : closureFor scope (envX cn cs L a (.ref c) cl) = pure cl') (hcell : ∀ y ∈ scope.names, y.2 ≠ .cell) (h0 : scope.names.lookup (".0" : Str) = some NameKind.local) (hkind : scope.kind = .function)
    (hck : cs.kind = .function) (hky : cs.names.lookup y = some .local) (hdb : (y == ("__debug__" : Str)) = false) (hy : m y = some (.ref l)) (hl : (l, listOf its nl) ∈ news)
    (h : ∀ (g₀ : Heap) (C I u gi : Nat) (code : Value) (bi : Addr) (s' : Shared) (ps' : Array Value) (mC : Str → Option Value) (oI ou : Obj),
      Fr h₀ L g₀ m → Below A base (envX cn cs L a (.ref c) cl :: outer) g₀ → (kf.heap_1 w.params).In g₀ → Top topProg lo mean mg mb g₀ → Fr g₀ C s'.heap mC → News g₀ C s'.heap ((u, ou) :: (I, oI) :: g (tabObj ps')) → TriplesOk ps'.toList →
      s'.heap.IsListIter I l 0 → s'.heap.IsGen u gi → s'.gens[gi]? = some (.fresh (.compStart (.GeneratorExp elt [⟨.Name x px, .Name y py, [], 0⟩] scope pos) 0 (.ref I) .none (genEnv scope cl' C code bi (envX cn cs L a (.ref c) cl)))) →
      I < C → C < u → (∀ q ∈ g (tabObj ps'), q.1 < I) → g₀.objs.size ≤ C → Aft s s' → AllBare s'.gens → Q (.ref u) s')
    (hs : ∀ v, genFold (.Name y py) (envX cn cs L a (.ref c) cl) v = pure v) :
    wpAny (model prog w) A (eval (.GeneratorExp elt [⟨.Name x px, .Name y py, [], 0⟩] scope pos) (envX cn cs L a (.ref c) cl)) Q E s := by
  obtain ⟨own, rest, rfl, hgr, h1, h2⟩ := U.split
  have hm := N (P, tabObj ps) (List.mem_append_right _ (.head _))
  have hLs : L < s.heap.objs.size := F.ns.lt
  have hli := News.isList N hl
  refine wpAny_GeneratorExp_make hco hclos hcell h0 hkind hroom (nameX_L F hy (wpAny_pyIter_list hli ?_) hck hky hdb) hs
  have hPI : P ≠ s.heap.objs.size := Nat.ne_of_lt (Heap.lt_size hm.1)
  have k₁ : ∀ b o, s.heap.get? b = some o → (s.heap.push { cls := .type "list_iterator", data := .fields #[.ref l, .int 0 0] }).get? b = some o := fun b o e => Heap.get?_push_of_some _ e
  have F₁ : Fr h₀ L (s.heap.push { cls := .type "list_iterator", data := .fields #[.ref l, .int 0 0] }) m := F.push _
  have hl₁ : (s.heap.push { cls := .type "list_iterator", data := .fields #[.ref l, .int 0 0] }).NoLimit := T.nolimit.keeps F₁.keep
  refine ⟨hl₁, genCode rfl (C.keeps F₁.keep) (k₁ _ _ hm.1) ht fun code h₃ tk₃ ps' hx₃ hsz₃ hP₃ ht₃ => ?_⟩
  have hgs := T.g.keeps F₁.keep
  obtain ⟨bm, ob, b1, b2, b3, b4, b5, b6⟩ := T.bmain
  have hgP : mainGlobals ≠ P := fun q => by
    obtain ⟨o, es, ep, e, hd, _⟩ := hgs
    rw [q, k₁ _ _ hm.1] at e; cases e; cases hd
  have hbP : bm ≠ P := fun q => by
    have e := F.keep _ _ b3
    rw [q, hm.1] at e; cases e; cases b4
  have k₃ : ∀ b o, b ≠ P → s.heap.get? b = some o → h₃.get? b = some o := fun b o hb e => hx₃ b o hb (k₁ b o e)
  have F₃ : Fr h₀ L h₃ m := ⟨F₁.ns.extBut hx₃ hm.2.1.symm, fun b o e => hx₃ b o (fun q => by rw [q, hm.2.2] at e; cases e) (F₁.keep b o e), F₁.above⟩
  have hz1 : (s.heap.push { cls := .type "list_iterator", data := .fields #[.ref l, .int 0 0] }).objs.size = s.heap.objs.size + 1 := Heap.size_push ..
  have hsz₃' : s.heap.objs.size + 1 ≤ h₃.objs.size := hz1 ▸ hsz₃
  refine wpAny_builtinsFor (hgs.extBut hx₃ hgP) b1 b2 (hx₃ _ _ hbP (k₁ _ _ (F.keep _ _ b3))) b4 b5 b6 ?_
  intro h' hn' hs'
  have hI₃ : h₃.get? s.heap.objs.size = some { cls := .type "list_iterator", data := .fields #[.ref l, .int 0 0] } := hx₃ _ _ hPI.symm (Heap.get?_push_size _ rfl)
  have hI0 : h₀.get? s.heap.objs.size = none := Heap.get?_none_of_le (Nat.le_trans F.above (Nat.le_of_lt hLs))
  have N₃ : News h₀ L h₃ ((s.heap.objs.size, { cls := .type "list_iterator", data := .fields #[.ref l, .int 0 0] }) :: g (tabObj ps')) := by
    intro q hq
    rcases List.mem_cons.mp hq with rfl | hq
    · exact ⟨hI₃, Nat.ne_of_gt hLs, hI0⟩
    rw [hgr] at hq
    rcases List.mem_append.mp hq with hq | hq
    · have := N q (List.mem_append_left _ hq)
      exact ⟨k₃ _ _ (h1 q hq) this.1, this.2⟩
    · rcases List.mem_cons.mp hq with rfl | hq
      · exact ⟨hP₃, hm.2⟩
      · have := N q (List.mem_append_right _ (.tail _ hq))
        exact ⟨k₃ _ _ (h2 q hq) this.1, this.2⟩
  obtain ⟨FG, BG, st, _⟩ := groundX (R := fun _ _ => True) (A := A) (s := { s with heap := h₃ }) B F₃ N₃ hA rfl hck
  have hsz' : h'.objs.size = h₃.objs.size + 1 := by rw [hs'.1, Heap.size_push]
  have keep' : ∀ b o, h₃.get? b = some o → h'.get? b = some o := fun b o e => hs'.extBut b o (Nat.ne_of_lt (Heap.lt_size e)) (Heap.get?_push_of_some _ e)
  have keep₅ : ∀ (o5 : Obj) b o, h₃.get? b = some o → (h'.push o5).get? b = some o := fun o5 b o e => Heap.get?_push_of_some _ (keep' b o e)
  have hgz : (hideAll h₃ (((s.heap.objs.size, ({ cls := .type "list_iterator", data := .fields #[.ref l, .int 0 0] } : Obj)) :: g (tabObj ps')).map (·.1))).objs.size = h₃.objs.size := hideAll_size _ _
  refine h _ h₃.objs.size s.heap.objs.size h'.objs.size s.gens.size code _ _ ps' _ { cls := .type "list_iterator", data := .fields #[.ref l, .int 0 0] } { cls := .type "generator", data := .fields #[.int s.gens.size 0, .str "<genexpr>" (tk₃ + 1), .str ((envX cn cs L a (.ref c) cl).qual ++ "<genexpr>") (tk₃ + 1 + 1)] } FG BG (XK.keeps st) (T.keeps st) ⟨hn'.push _, fun b o e => keep₅ _ b o (of_hideAll _ e), Nat.le_of_eq hgz⟩ ?_ ht₃
    ⟨_, keep₅ _ _ _ hI₃, rfl, rfl⟩ ⟨_, _, _, Heap.get?_push_size _ rfl, rfl, rfl, rfl⟩ (Array.getElem?_push_size ..) (by omega) (by omega) ?_ (Nat.le_of_eq hgz) ⟨rfl, fun G => G.push rfl, by show s.gens.size ≤ (s.gens.push _).size; simp⟩ (hG.push rfl)
  · intro q hq
    rcases List.mem_cons.mp hq with rfl | hq
    · exact ⟨Heap.get?_push_size _ rfl, by show h'.objs.size ≠ h₃.objs.size; omega, Heap.get?_none_of_le (by rw [hgz]; show h₃.objs.size ≤ h'.objs.size; omega)⟩
    · have := N₃ q hq
      exact ⟨keep₅ _ _ _ this.1, Nat.ne_of_lt (Heap.lt_size this.1), hideAll_none _ (List.mem_map_of_mem hq)⟩
  · intro q hq
    rw [hgr] at hq
    rcases List.mem_append.mp hq with hq | hq
    · exact Heap.lt_size (N q (List.mem_append_left _ hq)).1
    · rcases List.mem_cons.mp hq with rfl | hq
      · exact Heap.lt_size hm.1
      · exact Heap.lt_size (N q (List.mem_append_right _ (.tail _ hq))).1
end
end
-- S47
section
set_option maxHeartbeats 4000000
/-! collecting the generator of sorted_committees -/
/-- a CandidateSet that the generator made -/
structure Rc where
  x : Addr
  dx : Addr
  ep : Nat
  cv : List (Nat × Tok)
def Rc.block (w : World) (r : Rc) : List (Addr × Obj) := [(r.x, csO w r.dx r.ep r.cv), (r.dx, emptyDict)]
def rcLed (w : World) (recs : List Rc) : List (Addr × Obj) := recs.flatMap (Rc.block w)
theorem mem_rcLed {w : World} {recs : List Rc} {q : Addr × Obj} : q ∈ rcLed w recs ↔ ∃ r ∈ recs, q = (r.x, csO w r.dx r.ep r.cv) ∨ q = (r.dx, emptyDict) := by
  unfold rcLed
  rw [List.mem_flatMap]
  constructor
  · rintro ⟨r, hr, hq⟩
    simp only [Rc.block, List.mem_cons, List.not_mem_nil, or_false] at hq
    exact ⟨r, hr, hq⟩
  · rintro ⟨r, hr, hq⟩
    exact ⟨r, hr, by simp only [Rc.block, List.mem_cons, List.not_mem_nil, or_false]; exact hq⟩
/-- the state after i items -/
structure CJ (w : World) (cms : List Cm) (A : Around) (cenv : Env) (g₀ : Heap) (C I l u gi S : Addr) (ou : Obj) (rest : List (Addr × Obj)) (sB : Shared) (i : Nat) (vs : List Value) (s : Shared) : Prop where
  ex : ∃ (recs : List Rc) (ps : Array Value) (oI : Obj) (m : Str → Option Value), vs = recs.map (fun r => Value.ref r.x) ∧ recs.map (·.cv) = (cms.take i).map (·.cv) ∧ Fr g₀ C s.heap m ∧
    News g₀ C s.heap (rcLed w recs ++ (u, ou) :: (I, oI) :: (52, tabObj ps) :: rest) ∧ TriplesOk ps.toList ∧ (∀ q ∈ rcLed w recs ++ (u, ou) :: (I, oI) :: (52, tabObj ps) :: rest, q.1 ≠ S) ∧ (∀ r ∈ recs, u < r.dx ∧ r.dx < r.x)
  it : s.heap.IsListIter I l i
  bare : AllBare s.gens
  gen : ∃ gs, s.gens[gi]? = some gs ∧ ∀ s'', CInv w cms g₀ C I l u i s'' → gs.Goes (model prog w) A.in1 (genEndJ (CEnd I)) (genProtoJ cms.length (CInv w cms g₀ C I l u) (CSince w cms C I l)) (cms.length - i) (.send .none) s''
  aft : Aft sB s
/-- the state behind the collecting -/
structure CDone (w : World) (cms : List Cm) (g₀ : Heap) (C I u : Addr) (ou : Obj) (rest : List (Addr × Obj)) (sB : Shared) (vs : List Value) (s : Shared) : Prop where
  ex : ∃ (recs : List Rc) (ps : Array Value) (m : Str → Option Value), vs = recs.map (fun r => Value.ref r.x) ∧ recs.map (·.cv) = cms.map (·.cv) ∧ Fr g₀ C s.heap m ∧
    News g₀ C s.heap (rcLed w recs ++ (u, ou) :: (52, tabObj ps) :: rest) ∧ TriplesOk ps.toList ∧ (∀ r ∈ recs, u < r.dx ∧ r.dx < r.x)
  bare : AllBare s.gens
  aft : Aft sB s
section
variable {w : World} {cms : List Cm} {A : Around} {cenv : Env} {g₀ : Heap} {C I l u gi S : Addr} {ou : Obj} {rest : List (Addr × Obj)} {sB : Shared} {nl : Nat}
theorem CJ.inv {i : Nat} {vs : List Value} {s : Shared} (J : CJ w cms A cenv g₀ C I l u gi S ou rest sB i vs s) (hl : (l, listOf (cms.map fun c => Value.ref c.T).toArray nl) ∈ rest) (hT : ∀ c ∈ cms, (c.T, seqO "tuple" c.cv 0) ∈ rest) :
    CInv w cms g₀ C I l u i (s.setGen gi .running) := by
  obtain ⟨recs, ps, oI, m, _, _, F, N, ht, _, _⟩ := J.ex
  have hr : ∀ q ∈ rest, q ∈ rcLed w recs ++ (u, ou) :: (I, oI) :: (52, tabObj ps) :: rest := fun q hq => List.mem_append_right _ (.tail _ (.tail _ (.tail _ hq)))
  refine ⟨⟨m, F⟩, ⟨ps, (N _ (List.mem_append_right _ (.tail _ (.tail _ (.head _))))).1, ht⟩, J.it, News.isList N (hr _ hl), fun c hc => (N _ (hr _ (hT c hc))).1, ⟨ou, (N _ (List.mem_append_right _ (.head _))).1⟩, ?_⟩
  intro y hy
  obtain ⟨k, hk, rfl⟩ := Array.mem_iff_getElem.mp hy
  have e := (GenOnly.setGen s gi .running)
  by_cases q : k = gi
  · subst q
    obtain ⟨gs, hgs, _⟩ := J.gen
    have h1 := setGen_self (x := .running) hgs
    rw [Array.getElem?_eq_getElem hk] at h1
    rw [Option.some.inj h1]
    rfl
  · have h1 := e.2 k q
    rw [Array.getElem?_eq_getElem hk] at h1
    obtain ⟨hk', e'⟩ := Array.getElem?_eq_some_iff.mp h1.symm
    rw [← e']
    exact J.bare _ (Array.getElem_mem hk')
theorem bare_setGen {s : Shared} {g : Nat} {x : GenState} (h : AllBare s.gens) (hx : x.bare = true) : AllBare (s.setGen g x).gens := by
  intro y hy
  have hy' : y ∈ s.gens.setIfInBounds g x := hy
  rcases Array.mem_or_eq_of_mem_setIfInBounds hy' with h1 | h1
  · exact h y h1
  · rw [h1]; exact hx
theorem cset_collects (hl : (l, listOf (cms.map fun c => Value.ref c.T).toArray nl) ∈ rest) (hT : ∀ c ∈ cms, (c.T, seqO "tuple" c.cv 0) ∈ rest) (hh : A.handled = none) (hroom : A.depth < recursionLimit) (hlim : g₀.NoLimit)
    (hg : ∀ s : Shared, s.heap.get? u = some ou → s.heap.IsGen u gi) (hIC : @LT.lt Nat _ I C) (hCu : @LT.lt Nat _ C u) (huS : @LT.lt Nat _ u S) (hrI : ∀ q ∈ rest, q.1 < I) (h52 : @LT.lt Nat _ 52 I) (hr52 : ∀ q ∈ rest, q.1 ≠ 52) (hgC : g₀.objs.size ≤ C) :
    Collects prog w A u S cms.length (CJ w cms A cenv g₀ C I l u gi S ou rest sB) (CDone w cms g₀ C I u ou rest sB) where
  next := fun i vs s acc c hlt J hS => by
    have hinv := J.inv hl hT
    obtain ⟨gs, hgs, hgo⟩ := J.gen
    obtain ⟨recs, ps, oI, m, hvs, hcv, F, N, ht, hneS, hlt2⟩ := J.ex
    have hu := (N _ (List.mem_append_right _ (.head _))).1
    refine gen_nextJ hh (hlim.keeps F.keep) hroom (hg s hu) hgs hlt (hgo _ hinv) fun v s₁ gs' hb hs hgo' => ?_
    obtain ⟨x, dx, ep, c', hci, rfl, hx, hdx, hbl, hltx⟩ := hs.new
    obtain ⟨ps', h52', ht'⟩ := hs.tab
    obtain ⟨m', hns'⟩ := hs.ns
    have hCI : C ≠ I := Nat.ne_of_gt hIC
    have hC52 : C ≠ 52 := Nat.ne_of_gt (Nat.lt_trans h52 hIC)
    have hSC : S ≠ C := Nat.ne_of_gt (Nat.lt_trans hCu huS)
    have hSI : S ≠ I := Nat.ne_of_gt (Nat.lt_trans hIC (Nat.lt_trans hCu huS))
    have hS52 : S ≠ 52 := Nat.ne_of_gt (Nat.lt_trans h52 (Nat.lt_trans hIC (Nat.lt_trans hCu huS)))
    have hS₁ : s₁.heap.get? S = some (lstO acc c) := hs.keep S _ hSC hSI hS52 hS
    obtain ⟨oI', hoI', hcI', hdI'⟩ := hs.it
    refine ⟨_, rfl, hS₁, fun h' hk => ?_⟩
    have hSdx : S < dx := hbl S _ hS
    have hudx : u < dx := hbl u _ hu
    have hns0 : ∀ b o, g₀.get? b = some o → s.heap.get? b = some o := F.keep
    have gS : ∀ b o, g₀.get? b = some o → b < C := fun b o e => Nat.lt_of_lt_of_le (Heap.lt_size e) hgC
    have g52 : g₀.get? 52 = none := (N _ (List.mem_append_right _ (.tail _ (.tail _ (.head _))))).2.2
    have gI : g₀.get? I = none := (N _ (List.mem_append_right _ (.tail _ (.head _)))).2.2
    have kk : ∀ b o, b ≠ C → b ≠ I → b ≠ 52 → b ≠ S → s.heap.get? b = some o → h'.get? b = some o := fun b o a1 a2 a3 a4 e => hk b o a4 (hs.keep b o a1 a2 a3 e)
    refine ⟨⟨recs ++ [⟨x, dx, ep, c'.cv⟩], ps', oI', m', ?_, ?_, ?_, ?_, ht', ?_, ?_⟩, ⟨oI', hk I _ hSI.symm hoI', hcI', hdI'⟩, ?_, ⟨gs', ?_, hgo'⟩, ?_⟩
    · rw [hvs]; simp
    · rw [List.map_append, hcv, List.take_add_one, hci]; simp
    · refine ⟨hns'.at' fun o e => hk C o hSC.symm e, fun b o e => kk b o (Nat.ne_of_lt (gS b o e)) (fun q => by rw [q, gI] at e; cases e) (fun q => by rw [q, g52] at e; cases e) (Nat.ne_of_lt (Nat.lt_trans (gS b o e) (Nat.lt_trans hCu huS))) (F.keep b o e), F.above⟩
    · intro q hq
      rcases List.mem_append.mp hq with hq | hq
      · obtain ⟨r, hr, hq⟩ := mem_rcLed.mp hq
        rcases List.mem_append.mp hr with hr | hr
        · have hq2 : q ∈ rcLed w recs ++ (u, ou) :: (I, oI) :: (52, tabObj ps) :: rest := List.mem_append_left _ (mem_rcLed.mpr ⟨r, hr, hq⟩)
          obtain ⟨n1, n2, n3⟩ := N q hq2
          have hgt : u < q.1 := by
            rcases hq with rfl | rfl
            · exact Nat.lt_trans (hlt2 r hr).1 (hlt2 r hr).2
            · exact (hlt2 r hr).1
          exact ⟨kk _ _ n2 (Nat.ne_of_gt (Nat.lt_trans (Nat.lt_trans hIC hCu) hgt)) (Nat.ne_of_gt (Nat.lt_trans (Nat.lt_trans h52 (Nat.lt_trans hIC hCu)) hgt)) (hneS q hq2) n1, n2, n3⟩
        · rw [List.mem_singleton.mp hr] at hq
          have hq' : q = (x, csO w dx ep c'.cv) ∨ q = (dx, emptyDict) := hq
          rcases hq' with rfl | rfl
          · exact ⟨hk x _ (Nat.ne_of_gt (Nat.lt_trans hSdx hltx)) hx, Nat.ne_of_gt (Nat.lt_trans (Nat.lt_trans hCu hudx) hltx), Heap.get?_none_of_le (Nat.le_trans hgC (Nat.le_of_lt (Nat.lt_trans (Nat.lt_trans hCu hudx) hltx)))⟩
          · exact ⟨hk dx _ (Nat.ne_of_gt hSdx) hdx, Nat.ne_of_gt (Nat.lt_trans hCu hudx), Heap.get?_none_of_le (Nat.le_trans hgC (Nat.le_of_lt (Nat.lt_trans hCu hudx)))⟩
      · rcases List.mem_cons.mp hq with rfl | hq
        · have n := N (u, ou) (List.mem_append_right _ (.head _))
          exact ⟨kk _ _ n.2.1 (Nat.ne_of_gt (Nat.lt_trans hIC hCu)) (Nat.ne_of_gt (Nat.lt_trans h52 (Nat.lt_trans hIC hCu))) (Nat.ne_of_lt huS) n.1, n.2⟩
        rcases List.mem_cons.mp hq with rfl | hq
        · exact ⟨hk I _ hSI.symm hoI', hCI.symm, gI⟩
        rcases List.mem_cons.mp hq with rfl | hq
        · exact ⟨hk 52 _ hS52.symm h52', hC52.symm, g52⟩
        · have hq2 : q ∈ rcLed w recs ++ (u, ou) :: (I, oI) :: (52, tabObj ps) :: rest := List.mem_append_right _ (.tail _ (.tail _ (.tail _ hq)))
          obtain ⟨n1, n2, n3⟩ := N q hq2
          exact ⟨kk _ _ n2 (Nat.ne_of_lt (hrI q hq)) (hr52 q hq) (hneS q hq2) n1, n2, n3⟩
    · intro q hq
      rcases List.mem_append.mp hq with hq | hq
      · obtain ⟨r, hr, hq⟩ := mem_rcLed.mp hq
        rcases List.mem_append.mp hr with hr | hr
        · exact hneS q (List.mem_append_left _ (mem_rcLed.mpr ⟨r, hr, hq⟩))
        · rw [List.mem_singleton.mp hr] at hq
          have hq' : q = (x, csO w dx ep c'.cv) ∨ q = (dx, emptyDict) := hq
          rcases hq' with rfl | rfl
          · exact Nat.ne_of_gt (Nat.lt_trans hSdx hltx)
          · exact Nat.ne_of_gt hSdx
      · rcases List.mem_cons.mp hq with rfl | hq
        · exact Nat.ne_of_lt huS
        rcases List.mem_cons.mp hq with rfl | hq
        · exact hSI.symm
        rcases List.mem_cons.mp hq with rfl | hq
        · exact hS52.symm
        · exact hneS q (List.mem_append_right _ (.tail _ (.tail _ (.tail _ hq))))
    · intro r hr
      rcases List.mem_append.mp hr with hr | hr
      · exact hlt2 r hr
      · rw [List.mem_singleton.mp hr]; exact ⟨hudx, hltx⟩
    · exact bare_setGen (hs.aft.gens (bare_setGen J.bare rfl)) hb
    · have hz : gi < s₁.gens.size := by
        have h1 : gi < s.gens.size := by
          rcases Nat.lt_or_ge gi s.gens.size with h | h
          · exact h
          · rw [Array.getElem?_eq_none h] at hgs; cases hgs
        have h2 : (s.setGen gi .running).gens.size ≤ s₁.gens.size := hs.aft.size
        have h3 : (s.setGen gi .running).gens.size = s.gens.size := (GenOnly.setGen s gi .running).1
        exact Nat.lt_of_lt_of_le (by rw [h3]; exact h1) h2
      exact setGen_self (Array.getElem?_eq_getElem hz)
    · have h1 : (s₁.setGen gi gs').gens.size = s₁.gens.size := (GenOnly.setGen s₁ gi gs').1
      have h3 : (s.setGen gi .running).gens.size = s.gens.size := (GenOnly.setGen s gi .running).1
      have h2 : (s.setGen gi .running).gens.size ≤ s₁.gens.size := hs.aft.size
      have h4 := J.aft.size
      exact ⟨hs.aft.os.trans J.aft.os, fun G => bare_setGen (hs.aft.gens (bare_setGen (J.aft.gens G) rfl)) hb, by show sB.gens.size ≤ (s₁.setGen gi gs').gens.size; omega⟩
  fin := fun vs s acc c J hS => by
    have hinv := J.inv hl hT
    obtain ⟨gs, hgs, hgo⟩ := J.gen
    obtain ⟨recs, ps, oI, m, hvs, hcv, F, N, ht, hneS, hlt2⟩ := J.ex
    have hu := (N _ (List.mem_append_right _ (.head _))).1
    refine gen_doneJ hh (hlim.keeps F.keep) hroom (hg s hu) hgs (hgo _ hinv) (fun s₁ h' he hk => ?_) hinv
    have hSI : S ≠ I := Nat.ne_of_gt (Nat.lt_trans hIC (Nat.lt_trans hCu huS))
    have gI : g₀.get? I = none := (N _ (List.mem_append_right _ (.tail _ (.head _)))).2.2
    have kk : ∀ b o, b ≠ I → s.heap.get? b = some o → h'.get? b = some o := fun b o a1 e => hk b o (he.keep b o a1 e)
    refine ⟨rfl, kk S _ hSI hS, ⟨recs, ps, m, hvs, by rw [hcv, List.take_length], ⟨F.ns.at' fun o e => kk C o (Nat.ne_of_gt hIC) e, fun b o e => kk b o (fun q => by rw [q, gI] at e; cases e) (F.keep b o e), F.above⟩, ?_, ht, hlt2⟩, bare_setGen (he.aft.gens (bare_setGen J.bare rfl)) rfl, ?_⟩
    · intro q hq
      rcases List.mem_append.mp hq with hq | hq
      · obtain ⟨r, hr, hq'⟩ := mem_rcLed.mp hq
        obtain ⟨n1, n2, n3⟩ := N q (List.mem_append_left _ hq)
        have hgt : u < q.1 := by
          rcases hq' with rfl | rfl
          · exact Nat.lt_trans (hlt2 r hr).1 (hlt2 r hr).2
          · exact (hlt2 r hr).1
        exact ⟨kk _ _ (Nat.ne_of_gt (Nat.lt_trans (Nat.lt_trans hIC hCu) hgt)) n1, n2, n3⟩
      · rcases List.mem_cons.mp hq with rfl | hq
        · have n := N (u, ou) (List.mem_append_right _ (.head _))
          exact ⟨kk _ _ (Nat.ne_of_gt (Nat.lt_trans hIC hCu)) n.1, n.2⟩
        rcases List.mem_cons.mp hq with rfl | hq
        · have n := N (52, tabObj ps) (List.mem_append_right _ (.tail _ (.tail _ (.head _))))
          exact ⟨kk _ _ (Nat.ne_of_lt h52) n.1, n.2⟩
        · have n := N q (List.mem_append_right _ (.tail _ (.tail _ (.tail _ hq))))
          exact ⟨kk _ _ (Nat.ne_of_lt (hrI q hq)) n.1, n.2⟩
    · have h1 : (s₁.setGen gi .finished).gens.size = s₁.gens.size := (GenOnly.setGen s₁ gi .finished).1
      have h3 : (s.setGen gi .running).gens.size = s.gens.size := (GenOnly.setGen s gi .running).1
      have h2 : (s.setGen gi .running).gens.size ≤ s₁.gens.size := he.aft.size
      have h4 := J.aft.size
      exact ⟨he.aft.os.trans J.aft.os, fun G => bare_setGen (he.aft.gens (bare_setGen (J.aft.gens G) rfl)) rfl, by show sB.gens.size ≤ (s₁.setGen gi .finished).gens.size; omega⟩
end
end
-- S48
section
set_option maxHeartbeats 0
local macro_rules | `(tactic| k_room) => `(tactic| ktr_room)
local macro_rules | `(tactic| k_units) => `(tactic| ktr_units)
local macro_rules | `(tactic| k_enter) => `(tactic| (refine' code_def ?k1 ?k2 ?k3 ?k4 ?k5 ?kA ?kF ?kK ?k6 ?k7 ?k8 ?k9 ?kB ?_ ?c2 ?c3 ?c4 ?c5; (case kA => exact rfl); (case kF => exact rfl); (case kK => first | exact rfl | assumption); (case k1 => k_asm); (case k2 => k_asm); (case k3 => k_asm); (case k4 => k_asm); (case k5 => k_asm); (case k6 => k_is); (case k7 => k_is); (case k8 => ktr_room); (case k9 => first | exact BindsTo.of_eq rfl | exact binds_K (by k_in) rfl (by k_is) rfl rfl rfl); (case c5 => decide); (case kB => exact locs rfl); (case c2 => exact rfl); (case c3 => exact rfl); (case c4 => exact rfl); k_whole; intro g' L' h' FG' F' N' B' X' T'; (try dsimp only); (try k_fold)))
local macro_rules | `(tactic| k_mem) => `(tactic| first | exact List.Mem.head _ | assumption | (refine' List.Mem.tail _ ?_; k_mem))

section
variable {w : World} {A : Around} {E : Value → Shared → Prop} {s : Shared}
abbrev Digit (v : Value) : Prop := ∃ n : Nat, n < 8 ∧ ∃ t, v = .str (Str.ofString (toString (n : Int))) t
theorem elt_str {scope : Scope} {cl : List (Str × Addr)} {C : Addr} {code : Value} {env : Env} {x : Str} {p1 p2 p3 : Pos} {mg mb m : Str → Option Value} {n : Nat} {t : Tok} (hn8 : n < 8) (hk : scope.kind = .function) (hg : env.globals = mainGlobals)
    (hx : scope.names.lookup x = some .local) (hxd : (x == ("__debug__" : Str)) = false) (hc : (genEnv scope cl C code builtinsNs env).kindOf (Str.ofString "str") = some .globalImplicit)
    (hns : s.heap.Ns C m) (hv : m x = some (.int (n : Int) t)) (hG : s.heap.Ns mainGlobals mg) (hB : s.heap.Ns builtinsNs mb) (hgn : mg (Str.ofString "str") = none) (hbn : mb (Str.ofString "str") = some (.type "str")) :
    wpAny (model prog w) A (eval (.Call (.Name (Str.ofString "str") p1) [.Name x p2] [] p3) (genEnv scope cl C code builtinsNs env)) (fun v s₃ => Digit v ∧ Keeps s s₃) E s := by
  show wpAny (model prog w) A (do callWith p3 (← eval (.Name (Str.ofString "str") p1) (genEnv scope cl C code builtinsNs env)) [] (backTo p3 (starEach [.Name x p2] (genEnv scope cl C code builtinsNs env))) (backToKw p3 (keywordEach [] (genEnv scope cl C code builtinsNs env)))) _ E s
  refine wpAny_bind ?_
  refine Name_function_global hk hc (loadGlobal_builtin (env := genEnv scope cl C code builtinsNs env) (mg := mg) (mb := mb) (by show s.heap.Ns env.globals mg; rw [hg]; exact hG) hgn hB hbn ?_)
  refine callWith_type1 (ldG (cenv := genEnv scope cl C code builtinsNs env) hns hv ?_ hk hx hxd)
  refine P.str_of_int (Nat.lt_of_le_of_lt (Nat.log2_le_self _) (by simp; omega)) ⟨⟨n, hn8, _, rfl⟩, _, _, rfl, fun _ _ e => e⟩
theorem digits_strs : ∀ {vs : List Value}, (∀ v ∈ vs, Digit v) → ∃ ss, StrsAre vs ss ∧ ∀ x ∈ ss, x.length ≤ 9
  | [], _ => ⟨[], .nil, fun _ h => nomatch h⟩
  | v :: vs, h => by
    obtain ⟨ss, hs, hl⟩ := digits_strs fun x hx => h x (.tail _ hx)
    obtain ⟨n, hn, t, rfl⟩ := h v (.head _)
    refine ⟨_ :: ss, .cons _ t hs, fun x hx => ?_⟩
    rcases List.mem_cons.mp hx with rfl | hx
    · have := len_str_of_int (n : Int)
      simp only [Int.natAbs_natCast] at this
      omega
    · exact hl x hx
/-- `sorted(u)` of a generator of digits -/
theorem sorted_gen {h₀ : Heap} {L u Kb : Addr} {n : Nat} {m : Str → Option Value} {news : List (Addr × Obj)} {Q : Value → Shared → Prop} (F : Fr h₀ L s.heap m) (N : News h₀ L s.heap news) (G : AllBare s.gens) (X : Gen prog w A Kb u n (fun _ v => Digit v) s) (hn : n ≤ 3) (hLK : L ≤ Kb) (hK : ∀ q ∈ news, q.1 ≤ Kb)
    (h : ∀ D s' out e, Aft s s' → Fr h₀ L s'.heap m → News h₀ L s'.heap ((D, seqObj "list" out e) :: news) → (∀ q ∈ news, q.1 < D) → (∀ v ∈ out.toList, Digit v) → out.size ≤ 3 → Q (.ref D) s') :
    wpAny (model prog w) A (call (.builtin "sorted") [.ref u]) Q E s := by
  obtain ⟨fp, wr, g, St, W, hst, hT, hufp, hfp, hwr⟩ := X
  have W := W.in4_2
  refine Calls.call_function_entry kind_sorted plain_sorted entry_sorted (args_sorted1 _) ?_
  unfold Builtin.«sorted»
  refine wpAny_bind (m := checkCount "sorted" 1 1 _) (wpAny_pure ?_)
  refine wpAny_bind (wpAny_collect_gen W hT hst hfp hufp (fun s' acc hm hacc => ?_) (by rw [sizeLine_eq]; omega))
  have hk : ∀ b o, b ≤ Kb → s.heap.get? b = some o → s'.heap.get? b = some o := fun b o hb e => hm.heap b o (fun hmem => Nat.lt_irrefl _ (Nat.lt_of_lt_of_le (hwr b hmem) hb)) e
  have hz : s'.gens.size = s.gens.size := by
    rcases hm.gens with e | e
    · rw [e]
    · exact e.1.1
  have F' : Fr h₀ L s'.heap m := F.moved hm fun b hb => Nat.lt_of_le_of_lt hLK (hwr b hb)
  have N' := news_below N hK hk
  have hd : ∀ v ∈ acc.toList, Digit v := fun v hv => by
    obtain ⟨i, hi, rfl⟩ := List.mem_iff_getElem.mp hv
    exact hacc.2 i _ (by rw [← Array.getElem?_toList, List.getElem?_eq_getElem hi])
  have hal : acc.toList.length = n := by rw [Array.length_toList]; exact hacc.1
  obtain ⟨ss, hS, _⟩ := digits_strs hd
  refine wpAny_bind (wpAny_newList ?_ (by rw [sizeLine_eq]; omega))
  have hoL : (s'.heap.push (seqObj "list" acc.toList.toArray 0)).get? s'.heap.objs.size = some (seqObj "list" acc.toList.toArray 0) := Heap.get?_push_size _ rfl
  show wpAny _ _ _ _ _ { s' with heap := s'.heap.push (seqObj "list" acc.toList.toArray 0) }
  refine wpAny_bind (wpAny_holding (wpAny_call_entry slot_list_sort ⟨_, hoL, rfl⟩ entry_list_sort (list_sort_treeK strKind_oneLt hoL hS.keysOf (fun v₁ v₂ rest e => keyKind_strs (by rw [← e]; exact hS)) (by omega) fun st' a1 a2 => ⟨_, rfl, ?_⟩) (args_list_sort _)))
  refine wpAny_pure ⟨_, rfl, ?_⟩
  have ha : s'.heap.objs.size < (s'.heap.push (seqObj "list" acc.toList.toArray 0)).objs.size := by rw [size_push']; exact Nat.lt_succ_self _
  have hsz2 : (((s'.heap.push (seqObj "list" acc.toList.toArray 0)).update s'.heap.objs.size (Obj.mapSeq fun _ => #[])).push (seqObj "tuple" acc.toList.toArray 0)).objs.size = s'.heap.objs.size + 2 := by rw [size_push', Heap.size_update, size_push']
  have old : ∀ b o, s'.heap.get? b = some o → (sortedHeap (s'.heap.push (seqObj "list" acc.toList.toArray 0)) s'.heap.objs.size acc.toList ((arrOf st').map (·.2))).get? b = some o := fun b o e => by
    have hb : b < s'.heap.objs.size := Heap.lt_size e
    rw [sortedHeap_old (Nat.ne_of_lt hb) (by rw [size_push']; exact Nat.lt_succ_of_lt hb)]
    exact Heap.get?_push_of_some _ e
  obtain ⟨e, he⟩ := sortedHeap_at (out := (arrOf st').map (·.2)) hoL
  have hperm : ((arrOf st').map (·.2)).toList.Perm acc.toList := by
    have hl : (arrOf st').toList.Perm (acc.toList.zip acc.toList) := by rw [← pairsOf_toList]; exact Array.perm_iff_toList_perm.mp a1
    rw [Array.toList_map]
    have := hl.map Prod.snd
    rw [List.map_snd_zip (Nat.le_refl _)] at this
    exact this
  have hb9 : AllBare s'.gens := G.movedS hm
  obtain ⟨F9, N9, l9⟩ := news_new F' N' rfl old he
  refine h _ _ _ e ⟨hm.os, fun _ => hb9, Nat.le_of_eq hz.symm⟩ F9 N9 l9 (fun v hv => hd v (hperm.mem_iff.mp hv)) ?_
  have h1 := hperm.length_eq
  rw [Array.length_toList] at h1
  omega
end
end
-- S49
section
set_option maxHeartbeats 0
local macro_rules | `(tactic| k_room) => `(tactic| ktr_room)
local macro_rules | `(tactic| k_units) => `(tactic| ktr_units)
local macro_rules | `(tactic| k_enter) => `(tactic| (refine' code_def ?k1 ?k2 ?k3 ?k4 ?k5 ?kA ?kF ?kK ?k6 ?k7 ?k8 ?k9 ?kB ?_ ?c2 ?c3 ?c4 ?c5; (case kA => exact rfl); (case kF => exact rfl); (case kK => first | exact rfl | assumption); (case k1 => k_asm); (case k2 => k_asm); (case k3 => k_asm); (case k4 => k_asm); (case k5 => k_asm); (case k6 => k_is); (case k7 => k_is); (case k8 => ktr_room); (case k9 => first | exact BindsTo.of_eq rfl | exact binds_K (by k_in) rfl (by k_is) rfl rfl rfl); (case c5 => decide); (case kB => exact locs rfl); (case c2 => exact rfl); (case c3 => exact rfl); (case c4 => exact rfl); k_whole; intro g' L' h' FG' F' N' B' X' T'; (try dsimp only); (try k_fold)))
local macro_rules | `(tactic| k_mem) => `(tactic| first | exact List.Mem.head _ | assumption | (refine' List.Mem.tail _ ?_; k_mem))

local macro_rules | `(tactic| fail "hook eval GeneratorExp") => `(tactic| (k_here; (refine Held.out ?_)))
local macro_rules | `(tactic| fail "hook call builtin:sorted") => `(tactic| (k_here; (refine Held.out ?_)))
local macro_rules | `(tactic| fail "hook call builtin:str.join") => `(tactic| (k_here; (refine Held.out ?_)))
local macro_rules | `(tactic| fail "hook binaryOp Add str str") => `(tactic| (k_here; (refine Held.out ?_)))
theorem inst75 {w : World} {h₀ h : Heap} {L x dx : Addr} {ep : Nat} {vals : List (Nat × Tok)} {news : List (Addr × Obj)} (N : News h₀ L h news) (hx : (x, csO w dx ep vals) ∈ news) (hdx : (dx, emptyDict) ∈ news) : InstAt h x (csO w dx ep vals) 75 (some emptyDict) := ⟨(N _ hx).1, rfl, rfl, (N _ hdx).1⟩
theorem canon_set_ga : (Manifest.canonical "set.__getattribute__" != "object.__getattribute__") = false := by decide +kernel
/-- a CandidateSet's own method -/
theorem method75 {w : World} {A : Around} {E : Value → Shared → Prop} {s : Shared} {h₀ : Heap} {L x dx f : Addr} {ep : Nat} {vals : List (Nat × Tok)} {news : List (Addr × Obj)} {name : Str} {pl : Sem Bool} {Q : Value × List Value → Shared → Prop}
    (X : (kf.heap_1 w.params).In s.heap) (N : News h₀ L s.heap news) (hx : (x, csO w dx ep vals) ∈ news) (hdx : (dx, emptyDict) ∈ news) (hf : findIn (kf.heap_1 w.params) (.ref 75) name = some (some (.ref f))) (ht : typeIn (kf.heap_1 w.params) (.ref f) = some (.type "function"))
    (hs : lookIn name emptyDict = some none) (h : Q (.ref f, [.ref x]) s) : wpAny (model prog w) A (getMethod (.ref x) name pl) Q E s := by
  have I := inst75 N hx hdx
  have hga : findIn (kf.heap_1 w.params) (.ref 75) "__getattribute__" = some (some (.builtin "set.__getattribute__")) := by kernel_rfl
  have hk : findIn (kf.heap_1 w.params) (.ref 75) "__getattr__" = some none := by kernel_rfl
  unfold getMethod specialOf
  refine wpAny_bind (wpAny_bind (I.type.here ((looks_findIn X hga).here ?_)))
  dsimp only
  rw [canon_set_ga, if_neg (by decide)]
  refine wpAny_bind (wpAny_bind (I.type.here ((looks_findIn X hk).here ?_)))
  refine wpAny_bind (wpAny_bind (I.type.here ((looks_findIn X hf).here (wpAny_bind ((looks_typeIn X ht).here ?_)))))
  rw [if_neg (by decide +kernel)]
  refine wpAny_bind (wpAny_loadPart I.at_ ?_)
  refine wpAny_bind (wpAny_bind (wpAny_loadPart (N _ hdx).1 ?_))
  rw [nsLook_of hs]
  refine wpAny_pure ?_
  exact wpAny_bind (wpAny_rule (wpAny_pure h))
local macro_rules | `(tactic| fail "hook getMethod ref") => `(tactic| (k_here; (with_reducible show wpAny _ _ (getMethod (Value.ref _) (PySem.Str.ofString "str_with_names") _) _ _ _); (refine' method75 (f := 72) ?gX ?gN ?ghx ?ghd ?g3 ?g4 ?g5 ?_; (case gX => k_in); (case gN => k_asm); (case ghx => k_mem); (case ghd => k_mem); (case g3 => k_is); (case g4 => k_is); (case g5 => first | rfl | kernel_rfl))))
theorem strs_len : ∀ {vs : List Value} {ss : List Str}, StrsAre vs ss → ss.length = vs.length
  | _, _, .nil => rfl
  | _, _, .cons _ _ h => by simp only [List.length_cons, strs_len h]
theorem sum_len : ∀ (l : List Str), (∀ x ∈ l, x.length ≤ 9) → (l.map (·.length)).sum ≤ 9 * l.length
  | [], _ => Nat.le_refl _
  | x :: l, h => by
    have := sum_len l fun y hy => h y (.tail _ hy)
    have := h x (.head _)
    simp only [List.map_cons, List.sum_cons, List.length_cons]
    omega
theorem join_len (l : List Str) (hz : l.length ≤ 3) (h : ∀ x ∈ l, x.length ≤ 9) : (Txt.join (Str.ofString ", ") l).length ≤ 100 := by
  have h1 := StrLaws.join_length_le (Str.ofString ", ") l
  have h2 := sum_len l h
  have h3 : (Str.ofString ", ").length = 2 := by decide
  rw [h3] at h1
  show (Builtin.Str.glued _ _).length ≤ 100
  rw [StrLaws.glued_eq_join]
  omega
theorem str_cs (w : World) (x dx : Addr) (ep : Nat) (vals : List (Nat × Tok)) (hsm : Sm vals) (hne : vals ≠ []) :
  ∀ (lo : List Str) (mean : ExcName → Option Value) (mg mb : Str → Option Value) (dp un : Nat) (gd : Option (List Code)) (cn : Str) (cs : Scope) (a : Addr) (ccd : Value) (cl : List (Str × Addr)) (outer : List Env) (A₀ : Around) (base h₀ : Heap) (L : Addr) (m : Str → Option Value) (s : Shared) (Q E : Value → Shared → Prop) (rest : List (Addr × Obj)) (gT : Obj → List (Addr × Obj)) (ps : Array Value),
    Below A₀ base outer h₀ → Fr h₀ L s.heap m → (kf.heap_1 w.params).In h₀ → News h₀ L s.heap rest → Top topProg lo mean mg mb h₀ → cs.kind = .function → dp + 30 < recursionLimit → un + 600 < cLine → AllBare s.gens →
    UpdF 88 (tabObj ps) rest gT → TriplesOk ps.toList → (x, csO w dx ep vals) ∈ rest → (dx, emptyDict) ∈ rest →
    (∀ st t ps' s', Aft s s' → Fr h₀ L s'.heap m → News h₀ L s'.heap (gT (tabObj ps')) → TriplesOk ps'.toList → Q (.str st t) s') →
    wpAny (model prog w) (ktrTop dp un gd cn cs L a ccd cl outer) (call (.type "str") [.ref x]) Q E s := by
  intro lo mean mg mb dp un gd cn cs a ccd cl outer A₀ base h₀ L m s Q E rest gT ps B F X N T hk hd hu hG U ht hx hdx hret
  have X' := X.keeps F.keep
  have I : InstAt s.heap x (csO w dx ep vals) 75 (some emptyDict) := ⟨(N _ hx).1, rfl, rfl, (N _ hdx).1⟩
  refine' kso_call (C := 75) (f := 64) ?k1 X' I ?k4 ?k5 ?_
  case k1 => ktr_units
  case k4 => k_is
  case k5 => k_is
  k_steps
  refine Held.mk ?_
  rename Fr _ _ _ _ => F3
  rename News _ _ _ _ => N3
  rename Frag.In _ _ => X3
  rename Top _ _ _ _ _ _ => T3
  rename ∀ (q : Addr × Obj), q ∈ rest → q.1 < _ => lL
  have h88 := lL (88, tabObj ps) (by
    obtain ⟨own, r, e, _⟩ := U.split
    rw [e]; exact List.mem_append_right _ (.head _))
  refine gen_src Digit F3 X3 N3 T3 (codeHd92 X3) (.tail (Nat.ne_of_gt (Nat.lt_succ_of_lt h88)) U) ht hG rfl ?room rfl rfl (by decide) rfl rfl rfl rfl rfl (by decide) rfl ⟨_, (N3 _ (.tail _ hx)).1, .set (some dx) ep hne⟩ hsm ?elt ?cont (fun _ => rfl)
  case room => ktr_room
  case elt =>
    intro C' code A' E' s₂ m₂ e he hn hm hkk
    exact elt_str (hsm.lt e he) rfl rfl rfl (by decide) rfl hn hm ((T3.g.keeps F3.keep).at' fun o e => hkk _ o (by decide) e) ((T3.b.keeps F3.keep).at' fun o e => hkk _ o (by decide) e) (mg_none_of X3 T3.g (by kernel_rfl)) ((T3.builtins _ (by decide)).trans (by first | boot_by_name | rfl | kernel_rfl))
  intro u s₄ ps' hA4 F₄ N₄ ht' Kb hGen hLK hKN k4
  have hG4 : AllBare s₄.gens := hA4.gens hG
  k_steps
  refine Held.mk ?_
  refine sorted_gen F₄ N₄ hG4 hGen hsm.len hLK hKN fun D s₅ out e5 hA5 F₅ N₅ l5 hd5 hz5 => ?_
  have hG5 : AllBare s₅.gens := hA5.gens hG4
  k_steps
  refine Held.mk ?_
  rename News _ _ _ _ => N6
  obtain ⟨ss, hS, hlen⟩ := digits_strs hd5
  have hz6 : ss.length ≤ 3 := by
    rw [strs_len hS, Array.length_toList]; exact hz5
  refine join_list (News.isList N6 (.head _)) hS ?hok fun tj kj => ?_
  case hok =>
    have h1 := sum_len ss hlen
    have h3 : (Str.ofString ", ").length = 2 := by decide
    rw [h3]; omega
  have hjl := join_len ss hz6 hlen
  k_steps
  refine Held.mk ?_
  have hb1 : (Str.ofString "{").length = 1 := by decide
  have hb2 : (Str.ofString "}").length = 1 := by decide
  refine add_str (fun t7 k7 => ?_) (by rw [sizeLine_eq, hb1]; omega)
  k_steps
  refine Held.mk ?_
  refine add_str (fun t8 k8 => ?_) (by rw [PySem.Str.length_append, sizeLine_eq, hb1, hb2]; omega)
  k_steps
  rename Fr _ _ _ _ => F9
  rename News _ _ _ _ => N9
  exact hret _ _ _ _ ⟨hA5.os.trans hA4.os, fun G => hA5.gens (hA4.gens G), Nat.le_trans hA4.size hA5.size⟩ F9 (fun q hq => N9 q (.tail _ (.tail _ hq))) ht'
end
-- S50
section
set_option maxHeartbeats 0
local macro_rules | `(tactic| k_room) => `(tactic| ktr_room)
local macro_rules | `(tactic| k_units) => `(tactic| ktr_units)
local macro_rules | `(tactic| k_enter) => `(tactic| (refine' code_def ?k1 ?k2 ?k3 ?k4 ?k5 ?kA ?kF ?kK ?k6 ?k7 ?k8 ?k9 ?kB ?_ ?c2 ?c3 ?c4 ?c5; (case kA => exact rfl); (case kF => exact rfl); (case kK => first | exact rfl | assumption); (case k1 => k_asm); (case k2 => k_asm); (case k3 => k_asm); (case k4 => k_asm); (case k5 => k_asm); (case k6 => k_is); (case k7 => k_is); (case k8 => ktr_room); (case k9 => first | exact BindsTo.of_eq rfl | exact binds_K (by k_in) rfl (by k_is) rfl rfl rfl); (case c5 => decide); (case kB => exact locs rfl); (case c2 => exact rfl); (case c3 => exact rfl); (case c4 => exact rfl); k_whole; intro g' L' h' FG' F' N' B' X' T'; (try dsimp only); (try k_fold)))
local macro_rules | `(tactic| k_mem) => `(tactic| first | exact List.Mem.head _ | assumption | (refine' List.Mem.tail _ ?_; k_mem))

local macro_rules | `(tactic| fail "hook eval GeneratorExp") => `(tactic| (k_here; (refine Held.out ?_)))
local macro_rules | `(tactic| fail "hook evalAll") => `(tactic| (k_here; (refine Held.out ?_)))
local macro_rules | `(tactic| fail "hook call builtin:sorted") => `(tactic| (k_here; (refine Held.out ?_)))
theorem fr_back {h₀ g₀ h : Heap} {L C : Addr} {m mC : Str → Option Value} (FG : Fr h₀ L g₀ m) (F : Fr g₀ C h mC) : Fr h₀ L h m := ⟨FG.ns.keeps F.keep, fun b o e => F.keep b o (FG.keep b o e), FG.above⟩
theorem news_back {h₀ g₀ h : Heap} {L C : Addr} {m : Str → Option Value} {news : List (Addr × Obj)} (FG : Fr h₀ L g₀ m) (N : News g₀ C h news) : News h₀ L h news := fun q hq => by
  have n := N q hq
  refine ⟨n.1, fun e => ?_, ?_⟩
  · obtain ⟨o, es, ep, e2, hd, _⟩ := FG.ns
    rw [← e, n.2.2] at e2
    cases e2
  · cases q2 : h₀.get? q.1 with
    | none => rfl
    | some o =>
      have := FG.keep _ _ q2
      rw [n.2.2] at this
      cases this
theorem upd_app {d : Addr} {o : Obj} {rest : List (Addr × Obj)} {g : Obj → List (Addr × Obj)} (U : UpdF d o rest g) : ∀ (own : List (Addr × Obj)), (∀ p ∈ own, p.1 ≠ d) → UpdF d o (own ++ rest) (fun o' => own ++ g o')
  | [], _ => U
  | p :: own, h => .tail (h p (.head _)) (upd_app U own fun q hq => h q (.tail _ hq))
theorem sorted_comms (w : World) (cms : List Cm) (hcm : ∀ c ∈ cms, Sm c.cv) (hne : ∀ c ∈ cms, c.cv ≠ []) (h64 : cms.length < 64) (l nl : Nat) (rest : List (Addr × Obj)) (hl : (l, listOf (cms.map fun c => Value.ref c.T).toArray nl) ∈ rest) (hT : ∀ c ∈ cms, (c.T, seqO "tuple" c.cv 0) ∈ rest) (hr : ∀ q ∈ rest, 88 < q.1) :
  ∀ (lo : List Str) (mean : ExcName → Option Value) (mg mb : Str → Option Value) (dp un : Nat) (gd : Option (List Code)) (cn : Str) (cs : Scope) (a : Addr) (ccd : Value) (cl : List (Str × Addr)) (outer : List Env) (A₀ : Around) (base h₀ : Heap) (L : Addr) (m : Str → Option Value) (s : Shared) (Q E : Value → Shared → Prop) (p1 p2 p3 : Array Value),
    Below A₀ base outer h₀ → Fr h₀ L s.heap m → (kf.heap_1 w.params).In h₀ → News h₀ L s.heap ((52, tabObj p1) :: (80, tabObj p2) :: (88, tabObj p3) :: rest) → Top topProg lo mean mg mb h₀ → cs.kind = .function → dp + 60 < recursionLimit → un + 900 < cLine → AllBare s.gens →
    TriplesOk p1.toList → TriplesOk p2.toList → TriplesOk p3.toList →
    (∀ D out c recs p1' p2' p3' s', Aft s s' → Fr h₀ L s'.heap m → News h₀ L s'.heap ((D, listOf out c) :: (rcLed w recs ++ (52, tabObj p1') :: (80, tabObj p2') :: (88, tabObj p3') :: rest)) → TriplesOk p1'.toList → TriplesOk p2'.toList → TriplesOk p3'.toList →
      out.toList.Perm (recs.map fun r => Value.ref r.x) → recs.map (·.cv) = cms.map (·.cv) → Q (.ref D) s') →
    wpAny (model prog w) (ktrTop dp un gd cn cs L a ccd cl outer) (call (.ref 85) [.ref l]) Q E s := by
  intro lo mean mg mb dp un gd cn cs a ccd cl outer A₀ base h₀ L m s Q E p1 p2 p3 B F X N T hk hd hu hG ht1 ht2 ht3 hret
  k_steps
  refine Held.mk ?_
  rename Below _ _ _ _ => B3
  rename Fr _ _ _ _ => F3
  rename News _ _ _ _ => N3
  rename Frag.In _ _ => X3
  rename Top _ _ _ _ _ _ => T3
  refine gen_cset B3 F3 X3 N3 T3 (codeHd84 X3) (.tail (show (52 : Nat) ≠ 80 by decide) (.head fun q hq => ?k80)) ht2 hG rfl rfl ?room rfl rfl (by decide) rfl rfl rfl rfl (by decide) ?hy (.tail _ (.tail _ (.tail _ hl))) ?cont (fun _ => rfl)
  case k80 =>
    rcases List.mem_cons.mp hq with rfl | hq
    · exact Nat.ne_of_gt (by show 80 < 88; decide)
    · exact Nat.ne_of_gt (Nat.lt_trans (by decide) (hr q hq))
  case room => ktr_room
  case hy => rfl
  intro g₀ C I u gi code bi s₄ p2' mC oI ou FG BG XG TG F₄ N₄ ht2' hit hgen hgs hIC hCu hltI hgC hA4 hG4
  dsimp only
  have N₅ := news_back FG N₄
  have F₅ := fr_back FG F₄
  k_steps
  refine Held.mk ?_
  refine kws_cons ?_
  k_steps
  refine Held.mk ?_
  refine kws_nil ?_
  dsimp only [List.filterMap, List.zip, List.zipWith]
  k_steps
  refine Held.mk ?_
  have hu₄ := N₄ (u, ou) (.head _)
  have hrI : ∀ q ∈ (52, tabObj p1) :: (80, tabObj p2') :: (88, tabObj p3) :: rest, q.1 < I := hltI
  have h52I : @LT.lt Nat _ 52 I := hrI _ (.head _)
  have h88I : @LT.lt Nat _ 88 I := hrI _ (.tail _ (.tail _ (.head _)))
  have hl' : (l, listOf (cms.map fun c => Value.ref c.T).toArray nl) ∈ (80, tabObj p2') :: (88, tabObj p3) :: rest := .tail _ (.tail _ hl)
  have hT' : ∀ c ∈ cms, (c.T, seqO "tuple" c.cv 0) ∈ (80, tabObj p2') :: (88, tabObj p3) :: rest := fun c hc => .tail _ (.tail _ (hT c hc))
  have hr52 : ∀ q ∈ (80, tabObj p2') :: (88, tabObj p3) :: rest, q.1 ≠ 52 := fun q hq => by
    rcases List.mem_cons.mp hq with rfl | hq
    · exact Nat.ne_of_gt (show 52 < 80 by decide)
    rcases List.mem_cons.mp hq with rfl | hq
    · exact Nat.ne_of_gt (show 52 < 88 by decide)
    · exact Nat.ne_of_gt (Nat.lt_trans (show 52 < 88 by decide) (hr q hq))
  have hlI : l ≠ I := Nat.ne_of_lt (hrI _ (.tail _ (.tail _ (.tail _ hl))))
  have hlC : l ≠ C := Nat.ne_of_lt (Nat.lt_trans (hrI _ (.tail _ (.tail _ (.tail _ hl)))) hIC)
  have hl52 : l ≠ 52 := hr52 _ hl'
  have hTI : ∀ c ∈ cms, c.T ≠ I ∧ c.T ≠ C ∧ c.T ≠ 52 := fun c hc =>
    ⟨Nat.ne_of_lt (hrI _ (.tail _ (hT' c hc))), Nat.ne_of_lt (Nat.lt_trans (hrI _ (.tail _ (hT' c hc))) hIC), hr52 _ (hT' c hc)⟩
  have huS : @LT.lt Nat _ u s₄.heap.objs.size := Heap.lt_size hu₄.1
  have hgu : ∀ s : Shared, s.heap.get? u = some ou → s.heap.IsGen u gi := fun s e => by
    obtain ⟨o, nm, qn, ho, r⟩ := hgen
    rw [hu₄.1] at ho
    cases ho
    exact ⟨_, nm, qn, e, r⟩
  refine sorted_key (CC := CDone w cms g₀ C I u ou ((80, tabObj p2') :: (88, tabObj p3) :: rest) s₄) ?hcol ?hsort
  case hcol =>
    refine collectJ (n := cms.length) (J := CJ w cms _ (envX cn cs L a ccd cl) g₀ C I l u gi s₄.heap.objs.size ou ((80, tabObj p2') :: (88, tabObj p3) :: rest) s₄) (Done := CDone w cms g₀ C I u ou ((80, tabObj p2') :: (88, tabObj p3) :: rest) s₄) (by rw [sizeLine_eq]; omega) (fun s' e => wpAny_pyIter_gen (hgu s' (e.trans hu₄.1)) ⟨rfl, rfl⟩) ?hT
      (cset_collects hl' hT' rfl ?room TG.nolimit hgu hIC hCu huS (fun q hq => hrI q (.tail _ hq)) h52I hr52 hgC) ?hJ (fun vs s' acc c hd _ _ => hd)
    case room => ktr_room
    case hT =>
      obtain ⟨o, nm, qn, ho, r, _⟩ := hgen
      exact ⟨o, ho, r⟩
    case hJ =>
      intro h' hx
      refine ⟨⟨[], p1, oI, mC, rfl, by simp, F₄.keeps hx, (N₄.keeps hx : News g₀ C h' ((u, ou) :: (I, oI) :: (52, tabObj p1) :: (80, tabObj p2') :: (88, tabObj p3) :: rest)), ht1, fun q hq => Nat.ne_of_lt (Heap.lt_size (N₄ q hq).1), fun r hr => nomatch hr⟩, ?_, hG4, ⟨_, hgs, fun s'' hi => ⟨rfl, ?_⟩⟩, ⟨rfl, id, Nat.le_refl _⟩⟩
      · obtain ⟨o, ho, r⟩ := hit
        exact ⟨o, hx _ _ ho, r⟩
      · refine seg_genStartJ (Inv := CInv w cms g₀ C I l u) (Since := CSince w cms C I l) (EndR := CEnd I) rfl ?_ s'' hi
        refine' cset_turn w cms hcm (scope := _) rfl rfl rfl rfl BG XG TG ?rm ?um (N₄ (52, tabObj p1) (.tail _ (.tail _ (.head _)))).2.2 (Nat.ne_of_gt (Nat.lt_trans h52I hIC)) hCu hu₄.2.2 (Nat.ne_of_gt (Nat.lt_trans h52I (Nat.lt_trans hIC hCu))) (N₄ (I, oI) (.tail _ (.head _))).2.2 hIC (Nat.ne_of_gt h52I) hlI hlC hl52 hTI hgC
        case rm => first | (show dp + 21 < _; omega) | (show dp + 22 < _; omega) | (show dp + 23 < _; omega) | (show dp + 24 < _; omega) | (show dp + 25 < _; omega) | (show dp + 26 < _; omega) | (show dp + 27 < _; omega) | (show dp + 28 < _; omega) | (show dp + 29 < _; omega)
        case um => first | (show un + 200 < _; omega) | (show un + 201 < _; omega) | (show un + 202 < _; omega) | (show un + 203 < _; omega) | (show un + 204 < _; omega) | (show un + 205 < _; omega) | (show un + 206 < _; omega) | (show un + 207 < _; omega) | (show un + 208 < _; omega) | (show un + 209 < _; omega) | (show un + 210 < _; omega) | (show un + 211 < _; omega) | (show un + 212 < _; omega) | (show un + 213 < _; omega) | (show un + 214 < _; omega) | (show un + 215 < _; omega) | (show un + 216 < _; omega) | (show un + 217 < _; omega) | (show un + 218 < _; omega) | (show un + 219 < _; omega) | (show un + 220 < _; omega) | (show un + 221 < _; omega) | (show un + 222 < _; omega) | (show un + 223 < _; omega) | (show un + 224 < _; omega) | (show un + 225 < _; omega) | (show un + 226 < _; omega) | (show un + 227 < _; omega) | (show un + 228 < _; omega) | (show un + 229 < _; omega) | (show un + 230 < _; omega) | (show un + 231 < _; omega) | (show un + 232 < _; omega) | (show un + 233 < _; omega) | (show un + 234 < _; omega) | (show un + 235 < _; omega) | (show un + 236 < _; omega) | (show un + 237 < _; omega) | (show un + 238 < _; omega) | (show un + 239 < _; omega) | (show un + 240 < _; omega) | (show un + 241 < _; omega) | (show un + 242 < _; omega) | (show un + 243 < _; omega) | (show un + 244 < _; omega) | (show un + 245 < _; omega) | (show un + 246 < _; omega) | (show un + 247 < _; omega) | (show un + 248 < _; omega) | (show un + 249 < _; omega)
  intro vs s₅ hD
  obtain ⟨⟨recs, q1, m5, hvs, hcv, F5, N5, ht5, hlt5⟩, hb5, ha5⟩ := hD
  have hlen : vs.length = cms.length := by
    have := congrArg List.length hcv
    simp only [List.length_map] at this
    rw [hvs, List.length_map, this]
  refine ⟨by omega, fun D h₁ hDe hk hD1 => ?_⟩
  have F6 := fr_back FG (F5.keeps hk)
  have N6 := news_back FG (N5.keeps hk)
  have hsub : ∀ q ∈ rcLed w recs ++ (52, tabObj q1) :: (80, tabObj p2') :: (88, tabObj p3) :: rest, q ∈ rcLed w recs ++ (u, ou) :: (52, tabObj q1) :: (80, tabObj p2') :: (88, tabObj p3) :: rest := fun q hq => by
    rcases List.mem_append.mp hq with hq | hq
    · exact List.mem_append_left _ hq
    · exact List.mem_append_right _ (.tail _ hq)
  have N7 : News _ _ h₁ (rcLed w recs ++ (52, tabObj q1) :: (80, tabObj p2') :: (88, tabObj p3) :: rest) := fun q hq => N6 q (hsub q hq)
  have hold : ∀ q ∈ rcLed w recs ++ (52, tabObj q1) :: (80, tabObj p2') :: (88, tabObj p3) :: rest, q.1 < D := fun q hq => by
    rw [hDe]; exact Heap.lt_size (N5 q (hsub q hq)).1
  have hk1 : ∀ ps ps' q, q ∈ rcLed w recs ++ (52, tabObj q1) :: (80, tabObj p2') :: (88, tabObj ps) :: rest → ∃ o, (q.1, o) ∈ rcLed w recs ++ (52, tabObj q1) :: (80, tabObj p2') :: (88, tabObj ps') :: rest := fun ps ps' q hq => by
    rcases List.mem_append.mp hq with hq | hq
    · exact ⟨q.2, List.mem_append_left _ hq⟩
    · rcases List.mem_cons.mp hq with rfl | hq
      · exact ⟨_, List.mem_append_right _ (.head _)⟩
      rcases List.mem_cons.mp hq with rfl | hq
      · exact ⟨_, List.mem_append_right _ (.tail _ (.head _))⟩
      rcases List.mem_cons.mp hq with rfl | hq
      · exact ⟨_, List.mem_append_right _ (.tail _ (.tail _ (.head _)))⟩
      · exact ⟨q.2, List.mem_append_right _ (.tail _ (.tail _ (.tail _ hq)))⟩
  have hnaD : ∀ q ps, q ∈ rcLed w recs ++ (52, tabObj q1) :: (80, tabObj p2') :: (88, tabObj ps) :: rest → q.1 ≠ D := fun q ps hq => by
    obtain ⟨o, ho⟩ := hk1 ps p3 q hq
    exact Nat.ne_of_lt (hold (q.1, o) ho)
  have hrc88 : ∀ q ∈ rcLed w recs, q.1 ≠ 88 := fun q hq => by
    obtain ⟨r, hr, hq⟩ := mem_rcLed.mp hq
    have h1 : @LT.lt Nat _ 88 r.dx := Nat.lt_trans (Nat.lt_trans h88I (Nat.lt_trans hIC hCu)) (hlt5 r hr).1
    rcases hq with rfl | rfl
    · exact Nat.ne_of_gt (Nat.lt_trans h1 (hlt5 r hr).2)
    · exact Nat.ne_of_gt h1
  have hLlt := F3.ns.lt
  have hLD := Nat.lt_of_lt_of_le ((fr_back FG F5).ns.lt) (Nat.le_of_eq hDe.symm)
  refine key_sort (vs := vs) (led := fun ps => rcLed w recs ++ (52, tabObj q1) :: (80, tabObj p2') :: (88, tabObj ps) :: rest) (ps := p3) F6 N7 hD1 (Nat.ne_of_gt hLD) (Heap.get?_none_of_le (Nat.le_trans F6.above (Nat.le_of_lt hLD))) hnaD (fun q ps ps' hq => hk1 ps ps' q hq) ht3 hb5 (by omega) ?turn ?done
  case turn =>
    intro v hv kS kA e e1 hDk s7 ps F7 N7 ht7 hG7
    obtain ⟨r, hrm, rfl⟩ : ∃ r ∈ recs, Value.ref r.x = v := by rw [hvs] at hv; simpa using hv
    obtain ⟨c, hc, hce⟩ : ∃ c ∈ cms, c.cv = r.cv := by
      have : r.cv ∈ cms.map (·.cv) := hcv ▸ List.mem_map_of_mem hrm
      simpa using this
    have hD88 : @LT.lt Nat _ 88 D := hold (88, tabObj p3) (List.mem_append_right _ (.tail _ (.tail _ (.head _))))
    refine' str_cs w r.x r.dx r.ep r.cv (hce ▸ hcm c hc) (hce ▸ hne c hc) _ _ _ _ _ _ _ _ _ _ _ _ _ _ _ _ _ _ _ _ _ _ (gT := fun o => [(kS, seqObj "list" kA e), (D, seqObj "list" #[] e1)] ++ (rcLed w recs ++ (52, tabObj q1) :: (80, tabObj p2') :: (88, o) :: rest)) ps B3 F7 X3 N7 T3 rfl ?rm ?um hG7 (upd_app (upd_app (.tail (show (52 : Nat) ≠ 88 by decide) (.tail (show (80 : Nat) ≠ 88 by decide) (.head fun q hq => Nat.ne_of_gt (hr q hq)))) _ hrc88) _ ?own) ht7 (List.mem_append_right _ (List.mem_append_left _ (mem_rcLed.mpr ⟨r, hrm, .inl rfl⟩))) (List.mem_append_right _ (List.mem_append_left _ (mem_rcLed.mpr ⟨r, hrm, .inr rfl⟩))) (fun st t ps' s' hA F N ht => ⟨st, t, ps', rfl, hA, F, N, ht⟩)
    case rm => ktr_room
    case um => ktr_units
    case own =>
      intro q hq
      rcases List.mem_cons.mp hq with rfl | hq
      · exact Nat.ne_of_gt (Nat.lt_trans hD88 hDk)
      · rw [List.mem_singleton.mp hq]
        exact Nat.ne_of_gt hD88
  intro s8 out c8 p8 hA8 F8 N8 ht8 hperm
  refine ⟨rfl, ?_⟩
  have hG8 : AllBare s8.gens := hA8.gens hb5
  k_steps
  rename Fr _ _ _ _ => F9
  rename News _ _ _ _ => N9
  have hA5 : Aft s₄ s₅ := ha5
  exact hret D out c8 recs q1 p2' p8 _ ⟨(hA8.os.trans ha5.os).trans hA4.os, fun G => hA8.gens (ha5.gens (hA4.gens G)), Nat.le_trans hA4.size (Nat.le_trans ha5.size hA8.size)⟩ F9 N9 ht5 ht2' ht8 (by rw [← hvs]; exact hperm) hcv
end
-- S51
section
set_option maxHeartbeats 0
local macro_rules | `(tactic| k_room) => `(tactic| ktr_room)
local macro_rules | `(tactic| k_units) => `(tactic| ktr_units)
local macro_rules | `(tactic| k_enter) => `(tactic| (refine' code_def ?k1 ?k2 ?k3 ?k4 ?k5 ?kA ?kF ?kK ?k6 ?k7 ?k8 ?k9 ?kB ?_ ?c2 ?c3 ?c4 ?c5; (case kA => exact rfl); (case kF => exact rfl); (case kK => first | exact rfl | assumption); (case k1 => k_asm); (case k2 => k_asm); (case k3 => k_asm); (case k4 => k_asm); (case k5 => k_asm); (case k6 => k_is); (case k7 => k_is); (case k8 => ktr_room); (case k9 => first | exact BindsTo.of_eq rfl | exact binds_K (by k_in) rfl (by k_is) rfl rfl rfl); (case c5 => decide); (case kB => exact locs rfl); (case c2 => exact rfl); (case c3 => exact rfl); (case c4 => exact rfl); k_whole; intro g' L' h' FG' F' N' B' X' T'; (try dsimp only); (try k_fold)))
local macro_rules | `(tactic| k_mem) => `(tactic| first | exact List.Mem.head _ | assumption | (refine' List.Mem.tail _ ?_; k_mem))
local macro_rules | `(tactic| fail "hook call ref") => `(tactic| (k_here; (with_reducible show wpAny _ _ (call (Value.ref 281) [Value.ref _, Value.int _ _]) _ _ _); k_dflt (refine' (fr_lt_int _ _ _ _ _ _ _ _ _ _ _ ?d1 ?d2 ?c0 ?c1 ?c2 ?c3) _ _ _ _ _ _ _ _ _ _ _ _ _ _ _ _ _ _ _ _ _ ?cB ?cF ?cX ?cN ?cT ?cK ?cD ?cU ?cG ?_; (case cB => k_asm); (case cF => k_asm); (case cX => k_asm); (case cN => k_asm); (case cT => k_asm); (case cK => first | exact rfl | assumption); (case cD => ktr_room); (case cU => ktr_units); (case cG => assumption); (case d1 => k_mem); (case d2 => k_mem); (case c0 => omega); (case c1 => omega); (case c2 => omega); (case c3 => omega)); (intro r' nw' s' hA' F' N' hP'; obtain ⟨e1', e2'⟩ := hP'; subst e1'; rw [e2'] at N'; clear e2'; (have hG' := Aft.gens hA' (by assumption)); (try dsimp only [PySem.W.CmpBack]); (try dsimp only); (try k_fold))))
local macro_rules | `(tactic| fail "hook call ref") => `(tactic| (k_here; (with_reducible show wpAny _ _ (call (Value.ref 274) [Value.ref _, Value.int _ _]) _ _ _); k_dflt (refine' (fr_eq_int _ _ _ _ _ _ _ _ _ _ _ ?d1 ?d2 ?c0 ?c1 ?c2 ?c3) _ _ _ _ _ _ _ _ _ _ _ _ _ _ _ _ _ _ _ _ _ ?cB ?cF ?cX ?cN ?cT ?cK ?cD ?cU ?cG ?_; (case cB => k_asm); (case cF => k_asm); (case cX => k_asm); (case cN => k_asm); (case cT => k_asm); (case cK => first | exact rfl | assumption); (case cD => ktr_room); (case cU => ktr_units); (case cG => assumption); (case d1 => k_mem); (case d2 => k_mem); (case c0 => omega); (case c1 => omega); (case c2 => omega); (case c3 => omega)); (intro r' nw' s' hA' F' N' hP'; obtain ⟨e1', e2'⟩ := hP'; subst e1'; rw [e2'] at N'; clear e2'; (have hG' := Aft.gens hA' (by assumption)); (try dsimp only [PySem.W.CmpBack]); (try dsimp only); (try k_fold))))
local macro_rules | `(tactic| fail "hook call ref") => `(tactic| (k_here; (with_reducible show wpAny _ _ (call (Value.ref 295) [Value.ref _, Value.int _ _]) _ _ _); k_dflt (refine' (fr_gt_int _ _ _ _ _ _ _ _ _ _ _ ?d1 ?d2 ?c0 ?c1 ?c2 ?c3) _ _ _ _ _ _ _ _ _ _ _ _ _ _ _ _ _ _ _ _ _ ?cB ?cF ?cX ?cN ?cT ?cK ?cD ?cU ?cG ?_; (case cB => k_asm); (case cF => k_asm); (case cX => k_asm); (case cN => k_asm); (case cT => k_asm); (case cK => first | exact rfl | assumption); (case cD => ktr_room); (case cU => ktr_units); (case cG => assumption); (case d1 => k_mem); (case d2 => k_mem); (case c0 => omega); (case c1 => omega); (case c2 => omega); (case c3 => omega)); (intro r' nw' s' hA' F' N' hP'; obtain ⟨e1', e2'⟩ := hP'; subst e1'; rw [e2'] at N'; clear e2'; (have hG' := Aft.gens hA' (by assumption)); (try dsimp only [PySem.W.CmpBack]); (try dsimp only); (try k_fold))))
local macro_rules | `(tactic| fail "hook call ref") => `(tactic| (k_here; (with_reducible show wpAny _ _ (call (Value.ref 274) [Value.ref _, Value.ref _]) _ _ _); k_dflt (refine' (fr_eq _ _ _ _ _ _ _ _ _ _ _ _ _ _ _ _ ?d1 ?d2 ?d3 ?d4 ?c0 ?c1 ?c2 ?c3) _ _ _ _ _ _ _ _ _ _ _ _ _ _ _ _ _ _ _ _ _ ?cB ?cF ?cX ?cN ?cT ?cK ?cD ?cU ?cG ?_; (case cB => k_asm); (case cF => k_asm); (case cX => k_asm); (case cN => k_asm); (case cT => k_asm); (case cK => first | exact rfl | assumption); (case cD => ktr_room); (case cU => ktr_units); (case cG => assumption); (case d1 => k_mem); (case d2 => k_mem); (case d3 => k_mem); (case d4 => k_mem); (case c0 => omega); (case c1 => omega); (case c2 => omega); (case c3 => omega)); (intro r' nw' s' hA' F' N' hP'; obtain ⟨e1', e2'⟩ := hP'; subst e1'; rw [e2'] at N'; clear e2'; (have hG' := Aft.gens hA' (by assumption)); (try dsimp only [PySem.W.CmpBack]); (try dsimp only); (try k_fold))))
local macro_rules | `(tactic| fail "hook call ref") => `(tactic| (k_here; (with_reducible show wpAny _ _ (call (Value.ref 295) [Value.ref _, Value.ref _]) _ _ _); k_dflt (refine' (fr_gt _ _ _ _ _ _ _ _ _ _ _ _ _ _ _ _ ?d1 ?d2 ?d3 ?d4 ?c0 ?c1 ?c2 ?c3) _ _ _ _ _ _ _ _ _ _ _ _ _ _ _ _ _ _ _ _ _ ?cB ?cF ?cX ?cN ?cT ?cK ?cD ?cU ?cG ?_; (case cB => k_asm); (case cF => k_asm); (case cX => k_asm); (case cN => k_asm); (case cT => k_asm); (case cK => first | exact rfl | assumption); (case cD => ktr_room); (case cU => ktr_units); (case cG => assumption); (case d1 => k_mem); (case d2 => k_mem); (case d3 => k_mem); (case d4 => k_mem); (case c0 => omega); (case c1 => omega); (case c2 => omega); (case c3 => omega)); (intro r' nw' s' hA' F' N' hP'; obtain ⟨e1', e2'⟩ := hP'; subst e1'; rw [e2'] at N'; clear e2'; (have hG' := Aft.gens hA' (by assumption)); (try dsimp only [PySem.W.CmpBack]); (try dsimp only); (try k_fold))))
local macro_rules | `(tactic| fail "hook compareOp Gt int ref") => `(tactic| (k_here; (refine' gt_refl ?i0 ?i1 ?i2 ?i3 ?_; (case i0 => ktr_units); (case i1 => k_asm); (case i2 => k_asm); (case i3 => k_inst))))
local macro_rules | `(tactic| fail "hook compareOp Eq int ref") => `(tactic| (k_here; (refine' eq_refl' ?i0 ?i1 ?i2 ?i3 ?_; (case i0 => ktr_units); (case i1 => k_asm); (case i2 => k_asm); (case i3 => k_inst))))

/-- the best score so far: an int (-1 or 0), or a Fraction -/
inductive Oz where
  | int (k : Int) (t : Tok)
  | fr (x d : Addr) (n : Nat) (t1 t2 t3 t4 : Tok)
def Oz.val : Oz → Value
  | .int k t => .int k t
  | .fr x _ _ _ _ _ _ => .ref x
def Oz.led (w : World) : Oz → List (Addr × Obj)
  | .int _ _ => []
  | .fr x d n t1 t2 t3 t4 => [(x, instObj 305 d), (d, frD w n t1 t2 t3 t4)]
def Oz.num : Oz → Int
  | .int k _ => k
  | .fr _ _ n _ _ _ _ => n
def Sc.oz : Sc → Oz
  | .zero t => .int 0 t
  | .fr x d n t1 t2 t3 t4 => .fr x d n t1 t2 t3 t4
theorem Sc.oz_val (s : Sc) : s.oz.val = s.val := by cases s <;> rfl
theorem Sc.oz_num (s : Sc) : s.oz.num = (s.num : Int) := by cases s <;> rfl
theorem Sc.oz_led (w : World) (s : Sc) : s.oz.led w = s.led w := by cases s <;> rfl
/-- a contract of a tree without caught exceptions -/
abbrev TreeC (w : World) (news : List (Addr × Obj)) (ddp dun : Nat) (Post : List (Addr × Obj) → Value → Prop) (tree : Sem Value) : Prop :=
  ∀ (lo : List Str) (mean : ExcName → Option Value) (mg mb : Str → Option Value) (dp un : Nat) (gd : Option (List Code)) (cn : Str) (cs : Scope) (a : Addr) (ccd : Value) (cl : List (Str × Addr)) (outer : List Env) (A₀ : Around) (base h₀ : Heap) (L : Addr) (m : Str → Option Value) (s : Shared) (Q E : Value → Shared → Prop),
    Below A₀ base outer h₀ → Fr h₀ L s.heap m → (kf.heap_1 w.params).In h₀ → News h₀ L s.heap news → Top topProg lo mean mg mb h₀ → cs.kind = .function → dp + ddp < recursionLimit → un + dun < cLine → AllBare s.gens →
    (∀ r news' s', Aft s s' → Fr h₀ L s'.heap m → News h₀ L s'.heap news' → Post news' r → Q r s') →
    wpAny (model prog w) (ktrTop dp un gd cn cs L a ccd cl outer) tree Q E s
theorem sc_gt (w : World) (sc : Sc) (o : Oz) (news : List (Addr × Obj)) (hs : ∀ q ∈ sc.led w, q ∈ news) (ho : ∀ q ∈ o.led w, q ∈ news) (h1 : sc.num ≤ 100) (h2 : -1 ≤ o.num) (h3 : o.num ≤ 100) :
    TreeC w news 60 600 (BoPost (decide (o.num < (sc.num : Int))) news) (compareOp .Gt sc.val o.val) := by
  intro lo mean mg mb dp un gd cn cs a ccd cl outer A₀ base h₀ L m s Q E B F X N T hk hdp hu hG hret
  cases sc <;> cases o <;> dsimp only [Sc.led, Oz.led, Sc.num, Oz.num, frD] at hs ho h1 h2 h3 <;> dsimp only [Sc.val, Oz.val, Sc.num, Oz.num] at hret ⊢
  case zero.int t k u =>
    k_steps
    all_goals exact hret _ _ _ ⟨rfl, id, Nat.le_refl _⟩ F N ⟨by first | rfl | (congr 1), rfl⟩
  case zero.fr t x d n u1 u2 u3 u4 =>
    have m1 := ho _ (.head _)
    have m2 := ho _ (.tail _ (.head _))
    k_steps
    all_goals ((rename Fr _ _ _ _ => F9); (rename News _ _ _ _ => N9); (rename Aft _ _ => q9); exact hret _ _ _ ⟨q9.os, q9.gens, q9.size⟩ F9 N9 ⟨congrArg Value.bool (Bool.eq_iff_iff.mpr (by simp only [decide_eq_true_eq, Bool.not_eq_true', decide_eq_false_iff_not, beq_iff_eq] <;> (first | omega | exact ⟨fun h => decide_eq_true (by omega), fun h => by have := of_decide_eq_true h; omega⟩))), rfl⟩)
  case fr.int x d n u1 u2 u3 u4 k t =>
    have m1 := hs _ (.head _)
    have m2 := hs _ (.tail _ (.head _))
    k_steps
    all_goals ((rename Fr _ _ _ _ => F9); (rename News _ _ _ _ => N9); (rename Aft _ _ => q9); exact hret _ _ _ ⟨q9.os, q9.gens, q9.size⟩ F9 N9 ⟨congrArg Value.bool (Bool.eq_iff_iff.mpr (by simp only [decide_eq_true_eq, Bool.not_eq_true', decide_eq_false_iff_not, beq_iff_eq] <;> (first | omega | exact ⟨fun h => decide_eq_true (by omega), fun h => by have := of_decide_eq_true h; omega⟩))), rfl⟩)
  case fr.fr x d n u1 u2 u3 u4 y e k v1 v2 v3 v4 =>
    have m1 := hs _ (.head _)
    have m2 := hs _ (.tail _ (.head _))
    have m3 := ho _ (.head _)
    have m4 := ho _ (.tail _ (.head _))
    k_steps
    all_goals ((rename Fr _ _ _ _ => F9); (rename News _ _ _ _ => N9); (rename Aft _ _ => q9); exact hret _ _ _ ⟨q9.os, q9.gens, q9.size⟩ F9 N9 ⟨congrArg Value.bool (Bool.eq_iff_iff.mpr (by simp only [decide_eq_true_eq, Bool.not_eq_true', decide_eq_false_iff_not, beq_iff_eq] <;> (first | omega | exact ⟨fun h => decide_eq_true (by omega), fun h => by have := of_decide_eq_true h; omega⟩))), rfl⟩)
theorem sc_eq (w : World) (sc : Sc) (o : Oz) (news : List (Addr × Obj)) (hs : ∀ q ∈ sc.led w, q ∈ news) (ho : ∀ q ∈ o.led w, q ∈ news) (h1 : sc.num ≤ 100) (h2 : -1 ≤ o.num) (h3 : o.num ≤ 100) :
    TreeC w news 60 600 (BoPost (((sc.num : Int) == o.num)) news) (compareOp .Eq sc.val o.val) := by
  intro lo mean mg mb dp un gd cn cs a ccd cl outer A₀ base h₀ L m s Q E B F X N T hk hdp hu hG hret
  cases sc <;> cases o <;> dsimp only [Sc.led, Oz.led, Sc.num, Oz.num, frD] at hs ho h1 h2 h3 <;> dsimp only [Sc.val, Oz.val, Sc.num, Oz.num] at hret ⊢
  case zero.int t k u =>
    k_steps
    all_goals exact hret _ _ _ ⟨rfl, id, Nat.le_refl _⟩ F N ⟨by first | rfl | (congr 1), rfl⟩
  case zero.fr t x d n u1 u2 u3 u4 =>
    have m1 := ho _ (.head _)
    have m2 := ho _ (.tail _ (.head _))
    k_steps
    all_goals ((rename Fr _ _ _ _ => F9); (rename News _ _ _ _ => N9); (rename Aft _ _ => q9); exact hret _ _ _ ⟨q9.os, q9.gens, q9.size⟩ F9 N9 ⟨congrArg Value.bool (Bool.eq_iff_iff.mpr (by simp only [decide_eq_true_eq, Bool.not_eq_true', decide_eq_false_iff_not, beq_iff_eq] <;> (first | omega | exact ⟨fun h => decide_eq_true (by omega), fun h => by have := of_decide_eq_true h; omega⟩))), rfl⟩)
  case fr.int x d n u1 u2 u3 u4 k t =>
    have m1 := hs _ (.head _)
    have m2 := hs _ (.tail _ (.head _))
    k_steps
    all_goals ((rename Fr _ _ _ _ => F9); (rename News _ _ _ _ => N9); (rename Aft _ _ => q9); exact hret _ _ _ ⟨q9.os, q9.gens, q9.size⟩ F9 N9 ⟨congrArg Value.bool (Bool.eq_iff_iff.mpr (by simp only [decide_eq_true_eq, Bool.not_eq_true', decide_eq_false_iff_not, beq_iff_eq] <;> (first | omega | exact ⟨fun h => decide_eq_true (by omega), fun h => by have := of_decide_eq_true h; omega⟩))), rfl⟩)
  case fr.fr x d n u1 u2 u3 u4 y e k v1 v2 v3 v4 =>
    have m1 := hs _ (.head _)
    have m2 := hs _ (.tail _ (.head _))
    have m3 := ho _ (.head _)
    have m4 := ho _ (.tail _ (.head _))
    k_steps
    all_goals ((rename Fr _ _ _ _ => F9); (rename News _ _ _ _ => N9); (rename Aft _ _ => q9); exact hret _ _ _ ⟨q9.os, q9.gens, q9.size⟩ F9 N9 ⟨congrArg Value.bool (Bool.eq_iff_iff.mpr (by simp only [decide_eq_true_eq, Bool.not_eq_true', decide_eq_false_iff_not, beq_iff_eq] <;> (first | omega | exact ⟨fun h => decide_eq_true (by omega), fun h => by have := of_decide_eq_true h; omega⟩))), rfl⟩)
end
-- S52
section
set_option maxHeartbeats 4000000
/-- the next committee, for every size -/
theorem comb_next (w : World) (x d P D : Addr) (its : Array Value) (hc : Cands its) (h5 : 5 ≤ its.size) (h6 : its.size ≤ 6) (r : Nat) (hr1 : 1 ≤ r) (hr3 : r ≤ 3) (first : Bool) (iv : List (Nat × Tok)) (hl : iv.length = r) (hup : (iv.map (·.1)).Pairwise (· < ·)) (hlt : ∀ k ∈ iv.map (·.1), k < its.size)
    (tr : Tok) (c : Nat) (hdx : @LT.lt Nat _ d x) (hxP : @LT.lt Nat _ x P) (hPD : @LT.lt Nat _ P D) (rest : List (Addr × Obj)) (hrx : ∀ p ∈ rest, p.1 ≠ x) (hrD : ∀ p ∈ rest, p.1 ≠ D) :
    ChainK w [] ((D, listOf (iv.map toV).toArray c) :: (P, tupO its.toList) :: (x, combO d D P first false r tr) :: (d, emptyDict) :: rest) 60 900 (NextPost x d P D its r tr rest (if first then some (iv.map (·.1)) else nextI its.size (iv.map (·.1)))) (pyNext (.ref x)) := by
  rcases iv with _ | ⟨⟨i0, u0⟩, _ | ⟨⟨i1, u1⟩, _ | ⟨⟨i2, u2⟩, _ | ⟨q, iv⟩⟩⟩⟩
  · simp at hl; omega
  · obtain rfl : r = 1 := by simp at hl; omega
    cases first
    · exact comb_step1 w x d P D its hc h5 h6 i0 u0 (hlt _ (.head _)) tr c hdx hxP hPD rest hrx hrD
    · exact comb_first1 w x d P D its hc h5 h6 i0 u0 (hlt _ (.head _)) tr c hdx hxP hPD rest hrx hrD
  · obtain rfl : r = 2 := by simp at hl; omega
    have h01 : i0 < i1 := by simpa using hup
    cases first
    · exact comb_step2 w x d P D its hc h5 h6 i0 i1 u0 u1 h01 (hlt _ (.tail _ (.head _))) tr c hdx hxP hPD rest hrx hrD
    · exact comb_first2 w x d P D its hc h5 h6 i0 i1 u0 u1 h01 (hlt _ (.tail _ (.head _))) tr c hdx hxP hPD rest hrx hrD
  · obtain rfl : r = 3 := by simp at hl; omega
    have h01 : i0 < i1 ∧ i1 < i2 := by simp at hup; omega
    cases first
    · exact comb_step3 w x d P D its hc h5 h6 i0 i1 i2 u0 u1 u2 h01.1 h01.2 (hlt _ (.tail _ (.tail _ (.head _)))) tr c hdx hxP hPD rest hrx hrD
    · exact comb_first3 w x d P D its hc h5 h6 i0 i1 i2 u0 u1 u2 h01.1 h01.2 (hlt _ (.tail _ (.tail _ (.head _)))) tr c hdx hxP hPD rest hrx hrD
  · simp at hl; omega
def chainB (n r : Nat) : Bool := decide ((combos n 0 r).length ≤ 20) && decide (0 < (combos n 0 r).length) && ((combos n 0 r)[0]? == some (List.range r)) &&
  ((List.range 20).all fun j => match (combos n 0 r)[j]? with | none => true | some ks => (nextI n ks == (combos n 0 r)[j + 1]?) && decide (ks.length = r) && decide (ks.Pairwise (· < ·)) && ks.all (fun k => decide (k < n)))
theorem chain_all : ∀ n ∈ [5, 6], ∀ r ∈ [1, 2, 3], chainB n r = true := by decide +kernel
structure Chain (n r : Nat) : Prop where
  len : (combos n 0 r).length ≤ 20
  pos : 0 < (combos n 0 r).length
  fst : (combos n 0 r)[0]? = some (List.range r)
  nxt : ∀ (j : Nat) ks, (combos n 0 r)[j]? = some ks → nextI n ks = (combos n 0 r)[j + 1]? ∧ ks.length = r ∧ ks.Pairwise (· < ·) ∧ ∀ k ∈ ks, k < n
theorem chain {n r : Nat} (h5 : 5 ≤ n) (h6 : n ≤ 6) (h1 : 1 ≤ r) (h3 : r ≤ 3) : Chain n r := by
  have hn : n ∈ [5, 6] := by simp; omega
  have hr : r ∈ [1, 2, 3] := by simp; omega
  have h := chain_all n hn r hr
  unfold chainB at h
  simp only [Bool.and_eq_true, decide_eq_true_eq, beq_iff_eq, List.all_eq_true] at h
  obtain ⟨⟨⟨h1, h2⟩, h3⟩, h4⟩ := h
  refine ⟨h1, h2, h3, fun j ks hj => ?_⟩
  have hjl : j < (combos n 0 r).length := (List.getElem?_eq_some_iff.mp hj).1
  have := h4 j (List.mem_range.mpr (by omega))
  rw [hj] at this
  simp only [Bool.and_eq_true, decide_eq_true_eq, beq_iff_eq, List.all_eq_true] at this
  exact ⟨this.1.1.1, this.1.1.2, this.1.2, this.2⟩
end
-- S53
section
set_option maxHeartbeats 0
set_option linter.unusedSimpArgs false

/-- the state of the loop over the committees -/
structure Bs where
  x : Addr
  d : Addr
  P : Addr
  D : Addr
  l : Addr
  nl : Nat
  c : Nat
  tc : Tok
  first : Bool
  iv : List (Nat × Tok)
  cs : List Cm
  oz : Oz
  com : Option Value
  sco : Option Value
abbrev Bs.map (p : Addr) (r : Nat) (tk tr : Tok) (st : Bs) : Str → Option Value := fun y =>
  if y = Str.ofString "committee" then st.com else if y = Str.ofString "score" then st.sco else if y = Str.ofString "opt_thiele_score" then some st.oz.val else if y = Str.ofString "opt_committees" then some (.ref st.l) else
  if y = Str.ofString "scorefct_id" then some (.str (Str.ofString "cc") tk) else if y = Str.ofString "profile" then some (.ref p) else if y = Str.ofString "committeesize" then some (.int (r : Int) tr) else if y = Str.ofString "resolute" then some (.bool false) else if y = Str.ofString "max_num_of_committees" then some .none else none
def tups (cs : List Cm) : List (Addr × Obj) := cs.map fun c => (c.T, seqO "tuple" c.cv 0)
abbrev Bs.old (w : World) (tb : List (Addr × Obj)) (st : Bs) : List (Addr × Obj) := st.oz.led w ++ (tups st.cs ++ tb)
abbrev Bs.rest (w : World) (tb : List (Addr × Obj)) (st : Bs) : List (Addr × Obj) := (st.l, listOf (st.cs.map fun c => Value.ref c.T).toArray st.nl) :: st.old w tb
abbrev Bs.led (w : World) (its : Array Value) (r : Nat) (tb : List (Addr × Obj)) (st : Bs) : List (Addr × Obj) :=
  (st.D, listOf (st.iv.map toV).toArray st.c) :: (st.P, tupO its.toList) :: (st.x, combO st.d st.D st.P st.first false r st.tc) :: (st.d, emptyDict) :: st.rest w tb
structure Bok (w : World) (n r : Nat) (ev : List (Edge × Nat)) (tb : List (Addr × Obj)) (st : Bs) (j : Nat) : Prop where
  hj : j ≤ (combos n 0 r).length
  len : st.iv.length = r
  up : (st.iv.map (·.1)).Pairwise (· < ·)
  lt : ∀ k ∈ st.iv.map (·.1), k < n
  nx : (if st.first then some (st.iv.map (·.1)) else nextI n (st.iv.map (·.1))) = (combos n 0 r)[j]?
  dx : @LT.lt Nat _ st.d st.x
  xP : @LT.lt Nat _ st.x st.P
  PD : @LT.lt Nat _ st.P st.D
  nex : ∀ q ∈ st.rest w tb, q.1 ≠ st.x
  neD : ∀ q ∈ st.rest w tb, q.1 ≠ st.D
  nel : ∀ q ∈ st.old w tb, q.1 ≠ st.l
  nlD : st.l ≠ st.D ∧ st.l ≠ st.P ∧ st.l ≠ st.x ∧ st.l ≠ st.d
  le : ∀ e ∈ (combos n 0 r).take j, (Mine.sc ev e : Int) ≤ st.oz.num
  eq : ∀ c ∈ st.cs, (Mine.sc ev (c.cv.map (·.1)) : Int) = st.oz.num ∧ Sm c.cv ∧ c.cv.length = r ∧ @LT.lt Nat _ 88 c.T
  l88 : @LT.lt Nat _ 88 st.l
  ne : 0 ≤ st.oz.num → st.cs ≠ []
  cl : st.cs.length ≤ j
  b1 : -1 ≤ st.oz.num
  b2 : st.oz.num ≤ 100
theorem tot_le : ∀ (vs : List Vr), (∀ r ∈ vs, r.Ok) → tot (vs.map fun r => (r.e, r.wt)) ≤ 5 * vs.length
  | [], _ => Nat.le_refl _
  | r :: vs, h => by
    have h1 := (h r (.head _)).w5
    have h2 := tot_le vs fun x hx => h x (.tail _ hx)
    simp only [List.map_cons, tot, List.length_cons]
    omega
theorem mem_tups {cs : List Cm} {q : Addr × Obj} : q ∈ tups cs ↔ ∃ c ∈ cs, q = (c.T, seqO "tuple" c.cv 0) := by
  unfold tups
  rw [List.mem_map]
  constructor
  · rintro ⟨c, hc, rfl⟩; exact ⟨c, hc, rfl⟩
  · rintro ⟨c, hc, rfl⟩; exact ⟨c, hc, rfl⟩
theorem brute_sub {h₀ h : Heap} {L : Addr} {a b c x y z : Addr × Obj} {u : Addr × Obj} {rl v w : List (Addr × Obj)} (N : News h₀ L h (a :: b :: c :: (rl ++ x :: y :: z :: u :: (v ++ w)))) : News h₀ L h (a :: c :: (rl ++ x :: y :: z :: w)) :=
  fun q hq => N q (by simp only [List.mem_cons, List.mem_append] at hq ⊢; grind)
theorem ints_iv : ∀ {l : List Nat} {zs : List Value}, IntsAre zs (l.map fun (i : Nat) => (0 : Int) + (i : Int)) → ∃ iv : List (Nat × Tok), zs = iv.map toV ∧ iv.map (·.1) = l
  | [], _, h => by
    cases h
    exact ⟨[], rfl, rfl⟩
  | k :: l, _, h => by
    rw [List.map_cons] at h
    cases h with
    | cons n t h =>
      obtain ⟨iv, e1, e2⟩ := ints_iv h
      exact ⟨(k, t) :: iv, by rw [e1, List.map_cons]; show _ = Value.int (k : Int) t :: _; rw [Int.zero_add], by rw [List.map_cons, e2]⟩
theorem Bs.begin {h₀ h : Heap} {L p l : Addr} {r : Nat} {tk tr t : Tok} {lst : List (Str × Value)} {st : Bs} (F : Fr h₀ L h (fun y => if y = Str.ofString "opt_thiele_score" then some (.int (-1) t) else if y = Str.ofString "opt_committees" then some (.ref l) else List.lookup y lst))
    (e : lst = [(Str.ofString "max_num_of_committees", Value.none), (Str.ofString "resolute", .bool false), (Str.ofString "committeesize", .int (r : Int) tr), (Str.ofString "profile", .ref p), (Str.ofString "scorefct_id", .str (Str.ofString "cc") tk)])
    (h1 : st.com = none) (h2 : st.sco = none) (h3 : st.oz = .int (-1) t) (h4 : st.l = l) : Fr h₀ L h (st.map p r tk tr) := by
  subst e
  refine Fr.to F fun y => ?_
  simp only [Bs.map, h1, h2, h3, h4, Oz.val]
  by_cases e1 : y = Str.ofString "committee"
  · rw [e1]; rfl
  by_cases e2 : y = Str.ofString "score"
  · rw [e2]; rfl
  by_cases e3 : y = Str.ofString "opt_thiele_score"
  · rw [e3]; rfl
  by_cases e4 : y = Str.ofString "opt_committees"
  · rw [e4]; rfl
  by_cases e5 : y = Str.ofString "scorefct_id"
  · rw [e5]; rfl
  by_cases e6 : y = Str.ofString "profile"
  · rw [e6]; rfl
  by_cases e7 : y = Str.ofString "committeesize"
  · rw [e7]; rfl
  by_cases e8 : y = Str.ofString "resolute"
  · rw [e8]; rfl
  by_cases e9 : y = Str.ofString "max_num_of_committees"
  · rw [e9]; rfl
  simp only [if_neg e1, if_neg e2, if_neg e3, if_neg e4, if_neg e5, if_neg e6, if_neg e7, if_neg e8, if_neg e9]
  simp only [List.lookup, beq_eq_false_iff_ne.mpr e5, beq_eq_false_iff_ne.mpr e6, beq_eq_false_iff_ne.mpr e7, beq_eq_false_iff_ne.mpr e8, beq_eq_false_iff_ne.mpr e9]

theorem Sc.led_gt {w : World} {news : List (Addr × Obj)} : ∀ {sc : Sc}, sc.Above news → ∀ q ∈ sc.led w, ∀ p ∈ news, @LT.lt Nat _ p.1 q.1
  | .zero _, _, q, hq, _, _ => nomatch hq
  | .fr x d n t1 t2 t3 t4, h, q, hq, p, hp => by
    have h1 := h.1 p hp
    rcases List.mem_cons.mp hq with rfl | hq
    · exact Nat.lt_trans h1 h.2
    · rw [List.mem_singleton.mp hq]; exact h1
section
variable {w : World} {n r : Nat} {ev : List (Edge × Nat)} {tb : List (Addr × Obj)} {st : Bs} {j : Nat} {ks : List Nat} {T : Addr} {vals iv' : List (Nat × Tok)} {c' : Nat} {its : Array Value} {sc : Sc}
abbrev Bs.big (w : World) (its : Array Value) (r : Nat) (tb : List (Addr × Obj)) (st : Bs) (T : Addr) (vals iv' : List (Nat × Tok)) (c' : Nat) : List (Addr × Obj) :=
  (T, seqO "tuple" vals 0) :: (st.D, listOf (iv'.map toV).toArray c') :: (st.P, tupO its.toList) :: (st.x, combO st.d st.D st.P false false r st.tc) :: (st.d, emptyDict) :: st.rest w tb
theorem take_le (hcj : (combos n 0 r)[j]? = some ks) {b b' : Int} (hb : b ≤ b') (h : ∀ e ∈ (combos n 0 r).take j, (Mine.sc ev e : Int) ≤ b) (hk : (Mine.sc ev ks : Int) ≤ b') : ∀ e ∈ (combos n 0 r).take (j + 1), (Mine.sc ev e : Int) ≤ b' := by
  intro e he
  rw [List.take_add_one, hcj] at he
  rcases List.mem_append.mp he with he | he
  · exact Int.le_trans (h e he) hb
  · have : e = ks := by simpa using he
    rw [this]; exact hk
theorem Bok.gt (ok : Bok w n r ev tb st j) (hch : Chain n r) (hcj : (combos n 0 r)[j]? = some ks) (hv : vals.map (·.1) = ks) (hiv : iv'.map (·.1) = ks) (hsm : Sm vals) (hvl : vals.length = r) (ltT : ∀ q ∈ st.rest w tb, q.1 < T) (ltDT : st.D < T) (h88 : ∃ q ∈ tb, q.1 = 88)
    (hsc : sc.num = Mine.sc ev ks) (hab : sc.Above (st.big w its r tb T vals iv' c')) (hgt : st.oz.num < (sc.num : Int)) (hb : sc.num ≤ 100) {l' : Addr} (nl' : Nat) (com sco : Option Value) (hl' : ∀ q ∈ sc.led w ++ st.big w its r tb T vals iv' c', q.1 < l') :
    Bok w n r ev tb ⟨st.x, st.d, st.P, st.D, l', nl', c', st.tc, false, iv', [⟨T, vals⟩], sc.oz, com, sco⟩ (j + 1) := by
  obtain ⟨hnx, hkl, hku, hkn⟩ := hch.nxt j ks hcj
  have hjl : j < (combos n 0 r).length := (List.getElem?_eq_some_iff.mp hcj).1
  have hled := Sc.led_gt (w := w) hab
  have bx : @LT.lt Nat _ st.x l' := hl' (st.x, _) (List.mem_append_right _ (.tail _ (.tail _ (.tail _ (.head _)))))
  have bD : @LT.lt Nat _ st.D l' := hl' (st.D, _) (List.mem_append_right _ (.tail _ (.head _)))
  have bP : @LT.lt Nat _ st.P l' := hl' (st.P, _) (List.mem_append_right _ (.tail _ (.tail _ (.head _))))
  have bd : @LT.lt Nat _ st.d l' := hl' (st.d, _) (List.mem_append_right _ (.tail _ (.tail _ (.tail _ (.tail _ (.head _))))))
  have bT : @LT.lt Nat _ T l' := hl' (T, _) (List.mem_append_right _ (.head _))
  have intb : ∀ q ∈ tb, q ∈ st.rest w tb := fun q hq => .tail _ (List.mem_append_right _ (List.mem_append_right _ hq))
  have hxT : @LT.lt Nat _ st.x T := Nat.lt_trans ok.xP (Nat.lt_trans ok.PD ltDT)
  obtain ⟨q8, hq8, e8⟩ := h88
  have T88 : @LT.lt Nat _ 88 T := by have := ltT q8 (intb q8 hq8); rw [e8] at this; exact this
  have split : ∀ q ∈ sc.oz.led w ++ (tups [⟨T, vals⟩] ++ tb), (q ∈ sc.led w) ∨ q.1 = T ∨ q ∈ tb := fun q hq => by
    rw [Sc.oz_led] at hq
    rcases List.mem_append.mp hq with hq | hq
    · exact .inl hq
    rcases List.mem_append.mp hq with hq | hq
    · obtain ⟨c, hc, rfl⟩ := mem_tups.mp hq
      rw [List.mem_singleton.mp hc]
      exact .inr (.inl rfl)
    · exact .inr (.inr hq)
  refine ⟨hjl, by show iv'.length = r; rw [← List.length_map (f := (·.1)), hiv, hkl], by show (iv'.map (·.1)).Pairwise (· < ·); rw [hiv]; exact hku, by show ∀ k ∈ iv'.map (·.1), k < n; rw [hiv]; exact hkn, by show nextI n (iv'.map (·.1)) = _; rw [hiv]; exact hnx, ok.dx, ok.xP, ok.PD, ?_, ?_, ?_, ⟨Nat.ne_of_gt bD, Nat.ne_of_gt bP, Nat.ne_of_gt bx, Nat.ne_of_gt bd⟩, ?_, ?_, Nat.lt_trans T88 bT, ?_, ?_, ?_, ?_⟩
  · intro q hq
    rcases List.mem_cons.mp hq with rfl | hq
    · exact Nat.ne_of_gt bx
    rcases split q hq with h | h | h
    · exact Nat.ne_of_gt (hled q h (st.x, _) (.tail _ (.tail _ (.tail _ (.head _)))))
    · rw [h]; exact Nat.ne_of_gt hxT
    · exact ok.nex q (intb q h)
  · intro q hq
    rcases List.mem_cons.mp hq with rfl | hq
    · exact Nat.ne_of_gt bD
    rcases split q hq with h | h | h
    · exact Nat.ne_of_gt (hled q h (st.D, _) (.tail _ (.head _)))
    · rw [h]; exact Nat.ne_of_gt ltDT
    · exact ok.neD q (intb q h)
  · intro q hq
    rcases split q hq with h | h | h
    · exact Nat.ne_of_lt (hl' q (List.mem_append_left _ h))
    · rw [h]; exact Nat.ne_of_lt bT
    · exact Nat.ne_of_lt (hl' q (List.mem_append_right _ (.tail _ (.tail _ (.tail _ (.tail _ (.tail _ (intb q h))))))))
  · show ∀ e ∈ _, _ ≤ sc.oz.num
    rw [Sc.oz_num]
    exact take_le hcj (Int.le_of_lt hgt) ok.le (by rw [hsc]; exact Int.le_refl _)
  · intro c hc
    rw [List.mem_singleton.mp hc]
    exact ⟨by show (Mine.sc ev (vals.map (·.1)) : Int) = sc.oz.num; rw [Sc.oz_num, hv, hsc], hsm, hvl, T88⟩
  · exact fun _ => by simp
  · show 1 ≤ j + 1; omega
  · show -1 ≤ sc.oz.num; rw [Sc.oz_num]; omega
  · show sc.oz.num ≤ 100; rw [Sc.oz_num]; omega
theorem Bok.keep (ok : Bok w n r ev tb st j) (hch : Chain n r) (hcj : (combos n 0 r)[j]? = some ks) (hiv : iv'.map (·.1) = ks) (hle : (Mine.sc ev ks : Int) ≤ st.oz.num) (com sco : Option Value) :
    Bok w n r ev tb ⟨st.x, st.d, st.P, st.D, st.l, st.nl, c', st.tc, false, iv', st.cs, st.oz, com, sco⟩ (j + 1) := by
  obtain ⟨hnx, hkl, hku, hkn⟩ := hch.nxt j ks hcj
  have hjl : j < (combos n 0 r).length := (List.getElem?_eq_some_iff.mp hcj).1
  exact ⟨hjl, by show iv'.length = r; rw [← List.length_map (f := (·.1)), hiv, hkl], by show (iv'.map (·.1)).Pairwise (· < ·); rw [hiv]; exact hku, by show ∀ k ∈ iv'.map (·.1), k < n; rw [hiv]; exact hkn, by show nextI n (iv'.map (·.1)) = _; rw [hiv]; exact hnx, ok.dx, ok.xP, ok.PD, ok.nex, ok.neD, ok.nel, ok.nlD, take_le hcj (Int.le_refl _) ok.le hle, ok.eq, ok.l88, ok.ne, Nat.le_succ_of_le ok.cl, ok.b1, ok.b2⟩
theorem Bok.snoc (ok : Bok w n r ev tb st j) (hch : Chain n r) (hcj : (combos n 0 r)[j]? = some ks) (hv : vals.map (·.1) = ks) (hiv : iv'.map (·.1) = ks) (hsm : Sm vals) (hvl : vals.length = r) (ltT : ∀ q ∈ st.rest w tb, q.1 < T) (ltDT : st.D < T) (h88 : ∃ q ∈ tb, q.1 = 88)
    (heq : (Mine.sc ev ks : Int) = st.oz.num) (nl' : Nat) (com sco : Option Value) :
    Bok w n r ev tb ⟨st.x, st.d, st.P, st.D, st.l, nl', c', st.tc, false, iv', st.cs ++ [⟨T, vals⟩], st.oz, com, sco⟩ (j + 1) := by
  obtain ⟨hnx, hkl, hku, hkn⟩ := hch.nxt j ks hcj
  have hjl : j < (combos n 0 r).length := (List.getElem?_eq_some_iff.mp hcj).1
  have intb : ∀ q ∈ tb, q ∈ st.rest w tb := fun q hq => .tail _ (List.mem_append_right _ (List.mem_append_right _ hq))
  have hxT : @LT.lt Nat _ st.x T := Nat.lt_trans ok.xP (Nat.lt_trans ok.PD ltDT)
  obtain ⟨q8, hq8, e8⟩ := h88
  have T88 : @LT.lt Nat _ 88 T := by have := ltT q8 (intb q8 hq8); rw [e8] at this; exact this
  have lT : @LT.lt Nat _ st.l T := ltT (st.l, _) (.head _)
  have split : ∀ q ∈ st.oz.led w ++ (tups (st.cs ++ [⟨T, vals⟩]) ++ tb), (q ∈ st.old w tb) ∨ q.1 = T := fun q hq => by
    rcases List.mem_append.mp hq with hq | hq
    · exact .inl (List.mem_append_left _ hq)
    rcases List.mem_append.mp hq with hq | hq
    · obtain ⟨c, hc, rfl⟩ := mem_tups.mp hq
      rcases List.mem_append.mp hc with hc | hc
      · exact .inl (List.mem_append_right _ (List.mem_append_left _ (mem_tups.mpr ⟨c, hc, rfl⟩)))
      · rw [List.mem_singleton.mp hc]
        exact .inr rfl
    · exact .inl (List.mem_append_right _ (List.mem_append_right _ hq))
  refine ⟨hjl, by show iv'.length = r; rw [← List.length_map (f := (·.1)), hiv, hkl], by show (iv'.map (·.1)).Pairwise (· < ·); rw [hiv]; exact hku, by show ∀ k ∈ iv'.map (·.1), k < n; rw [hiv]; exact hkn, by show nextI n (iv'.map (·.1)) = _; rw [hiv]; exact hnx, ok.dx, ok.xP, ok.PD, ?_, ?_, ?_, ok.nlD, take_le hcj (Int.le_refl _) ok.le (Int.le_of_eq heq), ?_, ok.l88, ?_, ?_, ok.b1, ok.b2⟩
  · intro q hq
    rcases List.mem_cons.mp hq with rfl | hq
    · exact ok.nlD.2.2.1
    rcases split q hq with h | h
    · exact ok.nex q (.tail _ h)
    · rw [h]; exact Nat.ne_of_gt hxT
  · intro q hq
    rcases List.mem_cons.mp hq with rfl | hq
    · exact ok.nlD.1
    rcases split q hq with h | h
    · exact ok.neD q (.tail _ h)
    · rw [h]; exact Nat.ne_of_gt ltDT
  · intro q hq
    rcases split q hq with h | h
    · exact ok.nel q h
    · rw [h]; exact Nat.ne_of_gt lT
  · intro c hc
    rcases List.mem_append.mp hc with hc | hc
    · exact ok.eq c hc
    · rw [List.mem_singleton.mp hc]
      show (Mine.sc ev (vals.map (·.1)) : Int) = st.oz.num ∧ Sm vals ∧ vals.length = r ∧ @LT.lt Nat _ 88 T
      exact (⟨by rw [hv, heq], hsm, hvl, T88⟩ : (Mine.sc ev (vals.map (·.1)) : Int) = st.oz.num ∧ Sm vals ∧ vals.length = r ∧ @LT.lt Nat _ 88 T)
  · exact fun _ => by simp
  · show (st.cs ++ [(⟨T, vals⟩ : Cm)]).length ≤ j + 1
    have := ok.cl
    simp only [List.length_append, List.length_cons, List.length_nil]
    omega
theorem gt_sub {q : Addr × Obj} {l' : Addr} {com sco : Option Value} (hq : q ∈ Bs.led w its r tb ⟨st.x, st.d, st.P, st.D, l', 0, c', st.tc, false, iv', [⟨T, vals⟩], sc.oz, com, sco⟩) : q ∈ (l', listOf #[Value.ref T] 0) :: (sc.led w ++ st.big w its r tb T vals iv' c') := by
  have hq' : q ∈ (st.D, listOf (iv'.map toV).toArray c') :: (st.P, tupO its.toList) :: (st.x, combO st.d st.D st.P false false r st.tc) :: (st.d, emptyDict) :: (l', listOf #[Value.ref T] 0) :: (sc.oz.led w ++ (tups [⟨T, vals⟩] ++ tb)) := hq
  rcases List.mem_cons.mp hq' with rfl | hq
  · exact .tail _ (List.mem_append_right _ (.tail _ (.head _)))
  rcases List.mem_cons.mp hq with rfl | hq
  · exact .tail _ (List.mem_append_right _ (.tail _ (.tail _ (.head _))))
  rcases List.mem_cons.mp hq with rfl | hq
  · exact .tail _ (List.mem_append_right _ (.tail _ (.tail _ (.tail _ (.head _)))))
  rcases List.mem_cons.mp hq with rfl | hq
  · exact .tail _ (List.mem_append_right _ (.tail _ (.tail _ (.tail _ (.tail _ (.head _))))))
  rcases List.mem_cons.mp hq with rfl | hq
  · exact .head _
  rw [Sc.oz_led] at hq
  rcases List.mem_append.mp hq with hq | hq
  · exact .tail _ (List.mem_append_left _ hq)
  rcases List.mem_append.mp hq with hq | hq
  · obtain ⟨c, hc, rfl⟩ := mem_tups.mp hq
    rw [List.mem_singleton.mp hc]
    exact .tail _ (List.mem_append_right _ (.head _))
  · exact .tail _ (List.mem_append_right _ (.tail _ (.tail _ (.tail _ (.tail _ (.tail _ (.tail _ (List.mem_append_right _ (List.mem_append_right _ hq)))))))))
theorem snoc_sub {q : Addr × Obj} {com sco : Option Value} (hq : q ∈ Bs.led w its r tb ⟨st.x, st.d, st.P, st.D, st.l, st.nl + 1, c', st.tc, false, iv', st.cs ++ [⟨T, vals⟩], st.oz, com, sco⟩) :
    q ∈ (st.l, listOf ((st.cs.map fun c => Value.ref c.T).toArray.push (.ref T)) (st.nl + 1)) :: (T, seqO "tuple" vals 0) :: (st.D, listOf (iv'.map toV).toArray c') :: (st.P, tupO its.toList) :: (st.x, combO st.d st.D st.P false false r st.tc) :: (st.d, emptyDict) :: st.old w tb := by
  have hq' : q ∈ (st.D, listOf (iv'.map toV).toArray c') :: (st.P, tupO its.toList) :: (st.x, combO st.d st.D st.P false false r st.tc) :: (st.d, emptyDict) :: (st.l, listOf ((st.cs ++ [(⟨T, vals⟩ : Cm)]).map fun c => Value.ref c.T).toArray (st.nl + 1)) :: (st.oz.led w ++ (tups (st.cs ++ [⟨T, vals⟩]) ++ tb)) := hq
  rcases List.mem_cons.mp hq' with rfl | hq
  · exact .tail _ (.tail _ (.head _))
  rcases List.mem_cons.mp hq with rfl | hq
  · exact .tail _ (.tail _ (.tail _ (.head _)))
  rcases List.mem_cons.mp hq with rfl | hq
  · exact .tail _ (.tail _ (.tail _ (.tail _ (.head _))))
  rcases List.mem_cons.mp hq with rfl | hq
  · exact .tail _ (.tail _ (.tail _ (.tail _ (.tail _ (.head _)))))
  rcases List.mem_cons.mp hq with rfl | hq
  · have e : ((st.cs ++ [(⟨T, vals⟩ : Cm)]).map fun c => Value.ref c.T).toArray = (st.cs.map fun c => Value.ref c.T).toArray.push (.ref T) := by simp
    rw [e]
    exact .head _
  rcases List.mem_append.mp hq with hq | hq
  · exact .tail _ (.tail _ (.tail _ (.tail _ (.tail _ (.tail _ (List.mem_append_left _ hq))))))
  rcases List.mem_append.mp hq with hq | hq
  · obtain ⟨c, hc, rfl⟩ := mem_tups.mp hq
    rcases List.mem_append.mp hc with hc | hc
    · exact .tail _ (.tail _ (.tail _ (.tail _ (.tail _ (.tail _ (List.mem_append_right _ (List.mem_append_left _ (mem_tups.mpr ⟨c, hc, rfl⟩))))))))
    · rw [List.mem_singleton.mp hc]
      exact .tail _ (.head _)
  · exact .tail _ (.tail _ (.tail _ (.tail _ (.tail _ (.tail _ (List.mem_append_right _ (List.mem_append_right _ hq)))))))
theorem Bs.after {h₀ h : Heap} {L p : Addr} {k : Nat} {tk tr : Tok} {st' : Bs} {m : Str → Option Value} (F : Fr h₀ L h m) (h1 : m (Str.ofString "committee") = st'.com) (h2 : m (Str.ofString "score") = st'.sco) (h3 : m (Str.ofString "opt_thiele_score") = some st'.oz.val) (h4 : m (Str.ofString "opt_committees") = some (.ref st'.l))
    (hy : ∀ y, y ≠ Str.ofString "committee" → y ≠ Str.ofString "score" → y ≠ Str.ofString "opt_thiele_score" → y ≠ Str.ofString "opt_committees" → m y = st.map p k tk tr y) : Fr h₀ L h (st'.map p k tk tr) := by
  refine Fr.to F fun y => ?_
  simp only [Bs.map]
  by_cases e1 : y = Str.ofString "committee"
  · rw [if_pos e1, e1, h1]
  by_cases e2 : y = Str.ofString "score"
  · rw [if_neg e1, if_pos e2, e2, h2]
  by_cases e3 : y = Str.ofString "opt_thiele_score"
  · rw [if_neg e1, if_neg e2, if_pos e3, e3, h3]
  by_cases e4 : y = Str.ofString "opt_committees"
  · rw [if_neg e1, if_neg e2, if_neg e3, if_pos e4, e4, h4]
  rw [hy y e1 e2 e3 e4]
  simp only [Bs.map, if_neg e1, if_neg e2, if_neg e3, if_neg e4]
end
end
-- S54
section
set_option maxHeartbeats 0
local macro_rules | `(tactic| k_room) => `(tactic| ktr_room)
local macro_rules | `(tactic| k_units) => `(tactic| ktr_units)
local macro_rules | `(tactic| k_enter) => `(tactic| (refine' code_def ?k1 ?k2 ?k3 ?k4 ?k5 ?kA ?kF ?kK ?k6 ?k7 ?k8 ?k9 ?kB ?_ ?c2 ?c3 ?c4 ?c5; (case kA => exact rfl); (case kF => exact rfl); (case kK => first | exact rfl | assumption); (case k1 => k_asm); (case k2 => k_asm); (case k3 => k_asm); (case k4 => k_asm); (case k5 => k_asm); (case k6 => k_is); (case k7 => k_is); (case k8 => ktr_room); (case k9 => first | exact BindsTo.of_eq rfl | exact binds_K (by k_in) rfl (by k_is) rfl rfl rfl); (case c5 => decide); (case kB => exact locs rfl); (case c2 => exact rfl); (case c3 => exact rfl); (case c4 => exact rfl); k_whole; intro g' L' h' FG' F' N' B' X' T'; (try dsimp only); (try k_fold)))
local macro_rules | `(tactic| k_mem) => `(tactic| first | exact List.Mem.head _ | assumption | (refine' List.Mem.tail _ ?_; k_mem))
local macro_rules | `(tactic| fail "hook call builtin:list.append") => `(tactic| (k_here; (dsimp only [List.cons_append, List.nil_append])))
local macro_rules | `(tactic| fail "hook exec For") => `(tactic| (k_here; (refine Held.out ?_)))
local macro_rules | `(tactic| fail "hook exec For Name Call cons nil") => `(tactic| (k_here; (refine Held.out ?_)))
local macro_rules | `(tactic| fail "hook call ref") => `(tactic| (k_here; (with_reducible show wpAny _ _ (call (.ref 147) _) _ _ _); (refine Held.out ?_)))
local macro_rules | `(tactic| fail "hook call ref") => `(tactic| (k_here; (with_reducible show wpAny _ _ (call (.ref 346) _) _ _ _); (refine Held.out ?_)))
local macro_rules | `(tactic| fail "hook call ref") => `(tactic| (k_here; (with_reducible show wpAny _ _ (call (.ref 85) _) _ _ _); (refine Held.out ?_)))
local macro_rules | `(tactic| fail "hook compareOp Gt") => `(tactic| (k_here; (refine Held.out ?_)))
local macro_rules | `(tactic| fail "hook compareOp Eq") => `(tactic| (k_here; (refine Held.out ?_)))
local macro_rules | `(tactic| fail "hook Exists") => `(tactic| (refine Held.out ?_))
local macro_rules | `(tactic| k_all) => `(tactic| assumption)
abbrev BrutePost (w : World) (its : Array Value) (r : Nat) (vs : List Vr) (base : List (Addr × Obj)) (news' : List (Addr × Obj)) (v : Value) : Prop :=
  ∃ (TT dd D : Addr) (out : Array Value) (c : Nat) (recs : List Rc) (p1 p2 p3 : Array Value), v = .ref TT ∧ news' = (TT, tupO [.ref D, .ref dd]) :: (D, listOf out c) :: (rcLed w recs ++ (52, tabObj p1) :: (80, tabObj p2) :: (88, tabObj p3) :: base) ∧
    TriplesOk p1.toList ∧ TriplesOk p2.toList ∧ TriplesOk p3.toList ∧ out.toList.Perm (recs.map fun r => Value.ref r.x) ∧ recs ≠ [] ∧ recs.length ≤ 1000 ∧
    ∀ rc ∈ recs, Sm rc.cv ∧ rc.cv.length = r ∧ ∀ d ∈ combos its.size 0 r, Mine.sc (vs.map fun r => (r.e, r.wt)) d ≤ Mine.sc (vs.map fun r => (r.e, r.wt)) (rc.cv.map (·.1))
theorem brute (w : World) (p dp lc ln lv : Addr) (t1 t2 t3 : Tok) (k n nl : Nat) (tkS tr : Tok) (its : Array Value) (hc : Cands its) (h5 : 5 ≤ its.size) (h6 : its.size ≤ 6) (r : Nat) (hr1 : 1 ≤ r) (hr3 : r ≤ 3) (vs : List Vr) (hvs : ∀ r ∈ vs, r.Ok) (hv4 : vs.length ≤ 4) (bas : List (Addr × Obj))
    (m0 : (lc, listOf its nl) ∈ bas) (m1 : (p, instObj 681 dp) ∈ bas) (m2 : (dp, prD w lc ln lv t1 t2 t3 k) ∈ bas) (m3 : (lv, listOf (vs.map fun r => Value.ref r.v).toArray n) ∈ bas) (m4 : ∀ r ∈ vs, ∀ q ∈ r.block w, q ∈ bas) (h88 : ∀ q ∈ bas, @LT.lt Nat _ 88 q.1) (p1 p2 p3 : Array Value) (ht1 : TriplesOk p1.toList) (ht2 : TriplesOk p2.toList) (ht3 : TriplesOk p3.toList) :
    ChainK w [] ((52, tabObj p1) :: (80, tabObj p2) :: (88, tabObj p3) :: bas) 200 3000 (BrutePost w its r vs bas)
      (call (.ref 524) [] [(Str.ofString "scorefct_id", .str (Str.ofString "cc") tkS), (Str.ofString "profile", .ref p), (Str.ofString "committeesize", .int (r : Int) tr), (Str.ofString "resolute", .bool false), (Str.ofString "max_num_of_committees", .none)]) := by
  intro lo mean mg mb dpt un gd cn cs a ccd outer A₀ base h₀ L m s Q E B F X N Tp XB TB D0 hk hdp hu hG hret
  dsimp only [prD] at m2
  refine wpAny_call ?_
  (refine' code_defS ?k1 ?k2 ?k3 ?k4 ?k5 ?XB ?TB ?D ?T0 ?kA ?k6 ?k7 ?k8 ?k9 ?kB ?_ ?cK ?c2 ?c3 ?c4 ?c5; (case kA => exact rfl); (case k2 => k_asm); (case k1 => k_asm); (case XB => assumption); (case TB => assumption); (case D => assumption); (case T0 => first | assumption | exact KtsTurn.refl); (case k3 => k_asm); (case k4 => k_asm); (case k5 => k_asm); (case k6 => k_is); (case k7 => k_is); (case k8 => k_room); (case k9 => exact binds_K (X.keeps F.keep) rfl (by k_is) rfl rfl rfl); (case kB => exact locs rfl); (case cK => exact hk); (case c2 => exact rfl); (case c3 => exact rfl); (case c4 => exact rfl); (case c5 => decide); k_whole; intro g' L' h' FG' F' N' B' X' T' D'; (try dsimp only); (try k_fold))
  k_steps
  refine Held.mk ?_
  rename Fr _ _ _ _ => F1
  rename News _ _ _ _ => N1
  have hch := chain h5 h6 hr1 hr3
  refine for_k (fun I kk s' => ∃ (st : Bs) (j : Nat) (h₁ : Heap), I = st.x ∧ kk = (combos its.size 0 r).length - j ∧ Bok w its.size r (vs.map fun r => (r.e, r.wt)) ((52, tabObj p1) :: (80, tabObj p2) :: (88, tabObj p3) :: bas) st j ∧ Aft s s' ∧ KtsTurn ((envOf cn cs L a ccd :: outer).filterMap (·.frame)) g' h₁ ∧
    Fr h₁ L' s'.heap (st.map p r tkS tr) ∧ News h₁ L' s'.heap (st.led w its r ((52, tabObj p1) :: (80, tabObj p2) :: (88, tabObj p3) :: bas)) ∧ Below (ktrTop dpt un gd cn cs L a ccd [] outer) base (envOf cn cs L a ccd :: outer) h₁ ∧ (kf.heap_1 w.params).In h₁ ∧ Top topProg lo mean mg mb h₁ ∧ KtsDicts ((envOf cn cs L a ccd :: outer).filterMap (·.frame)) h₁) ?start ?step
  case start =>
    k_steps
    refine Held.mk ?_
    rename Fr _ _ _ _ => F2
    rename News _ _ _ _ => N2
    refine' (comb_make w lc its nl h5 h6 r hr1 hr3 tr _ ?ml) _ _ _ _ _ _ _ _ _ _ _ _ _ _ _ _ _ _ _ _ _ B' F2 X' N2 T' rfl ?cD ?cU hG ?_
    case ml => exact .tail _ (.tail _ (.tail _ (.tail _ m0)))
    case cD => ktr_room
    case cU => ktr_units
    intro r1 nw1 s1 hA1 F3 N3 hP1
    obtain ⟨x, d, P, D, tc, c, zs, rfl, rfl, hz, lt1, l2, l3, l4⟩ := hP1
    have hG1 := hA1.gens hG
    refine Held.out ?_
    refine Held.mk ?_
    have l2' : @LT.lt Nat _ d x := l2
    refine' owit_iter (C := 147) F3 X' ?I (f := 136) ?hs ?hf ?_
    case I => k_inst
    case hs => k_is
    case hf => k_is
    k_steps
    refine Held.mk ?_
    rename Fr _ _ _ _ => F4
    rename News _ _ _ _ => N4
    rename _ < _ ∧ _ < _ ∧ _ < _ ∧ AllLt _ _ => oK
    have lK := all_of (l := (52, tabObj p1) :: (80, tabObj p2) :: (88, tabObj p3) :: bas) oK
    obtain ⟨iv, rfl, hiv⟩ := ints_iv hz
    have hlen : iv.length = r := by rw [← List.length_map (f := (·.1)), hiv, List.length_range]
    have hfs := hch.nxt 0 _ hch.fst
    have hl4 : ∀ q ∈ (_ : Addr × Obj) :: (52, tabObj p1) :: (80, tabObj p2) :: (88, tabObj p3) :: bas, q.1 < d := lt1
    have l3' : @LT.lt Nat _ x P := l3
    have l4' : @LT.lt Nat _ P D := l4

    refine ⟨x, _, rfl, ⟨x, d, P, D, _, 0, c, tc, true, iv, [], .int (-1) _, none, none⟩, 0, g', rfl, rfl, ⟨Nat.zero_le _, hlen, ?_, ?_, ?_, l2', l3', l4', ?_, ?_, ?_, ?_, ?_, ?_, ?_, ?_, ?_, ?_, ?_⟩, ⟨hA1.os, hA1.gens, hA1.size⟩, KtsTurn.refl, Bs.begin F4 rfl rfl rfl rfl rfl, N4, B', X', T', D'⟩
    · show (iv.map (·.1)).Pairwise (· < ·)
      rw [hiv]; exact hfs.2.2.1
    · show ∀ k ∈ iv.map (·.1), k < its.size
      rw [hiv]; exact hfs.2.2.2
    · show some (iv.map (·.1)) = _
      rw [hiv, hch.fst]
    · exact fun q hq => Nat.ne_of_lt (Nat.lt_trans (hl4 q hq) l2')
    · exact fun q hq => Nat.ne_of_lt (Nat.lt_trans (hl4 q hq) (Nat.lt_trans l2' (Nat.lt_trans l3' l4')))
    · exact fun q hq => Nat.ne_of_lt (lK q hq)
    · have h1 := hl4 _ (.head _)
      refine ⟨?_, ?_, ?_, ?_⟩
      · exact Nat.ne_of_lt (Nat.lt_trans h1 (Nat.lt_trans l2' (Nat.lt_trans l3' l4')))
      · exact Nat.ne_of_lt (Nat.lt_trans h1 (Nat.lt_trans l2' l3'))
      · exact Nat.ne_of_lt (Nat.lt_trans h1 l2')
      · exact Nat.ne_of_lt h1
    · exact fun e he => nomatch he
    · exact fun e he => nomatch he
    · exact oK.2.2.1
    · exact fun hh => absurd (show (0 : Int) ≤ -1 from hh) (by decide)
    · exact Nat.le_refl _
    · show (-1 : Int) ≤ -1; decide
    · show (-1 : Int) ≤ 100; decide
  case step =>
    rintro I kk s' ⟨st, j, h₁, rfl, rfl, ok, hA, hT, F, N, B, X, Tp, D⟩
    have hN := N
    have hGa := hA.gens hG
    refine' (comb_next w st.x st.d st.P st.D its hc h5 h6 r hr1 hr3 st.first st.iv ok.len ok.up ok.lt st.tc st.c ok.dx ok.xP ok.PD (st.rest w ((52, tabObj p1) :: (80, tabObj p2) :: (88, tabObj p3) :: bas)) ok.nex ok.neD) _ _ _ _ _ _ _ _ _ _ _ _ _ _ _ _ _ _ _ _ B F X N Tp XB TB D rfl ?cD ?cU hGa ?_
    case cD => ktr_room
    case cU => ktr_units
    intro res nw s₁ h₂ hA₁ hT₁ F₁ N₁ B₁ X₁ Tp₁ D₁ hP
    have hTt := hT.trans hT₁
    have hG1 := hA₁.gens hGa
    clear F N B X Tp D hN
    rw [ok.nx] at hP
    cases hcj : (combos its.size 0 r)[j]? with
    | none =>
      rw [hcj] at hP
      obtain ⟨rfl, iv', c', rfl⟩ := hP
      have hjl : (combos its.size 0 r).length ≤ j := List.getElem?_eq_none_iff.mp hcj
      have hle : ∀ e ∈ combos its.size 0 r, (Mine.sc (vs.map fun r => (r.e, r.wt)) e : Int) ≤ st.oz.num := fun e he => ok.le e (by rw [List.take_of_length_le hjl]; exact he)
      have h0 : 0 ≤ st.oz.num := by
        have hp := hch.pos
        have := hle _ (List.getElem_mem hp)
        omega
      have hne := ok.ne h0
      have hcl : st.cs.length < 64 := by
        have h1 := ok.cl
        have h2 := ok.hj
        have h3 := hch.len
        omega
      dsimp only
      k_steps
      refine Held.mk ?_
      have N2 : News h₂ L' s₁.heap ((52, tabObj p1) :: (80, tabObj p2) :: (88, tabObj p3) :: (st.l, listOf (st.cs.map fun c => Value.ref c.T).toArray st.nl) :: (tups st.cs ++ bas)) := fun q hq => N₁ q (by
        simp only [Bs.rest, Bs.old, List.mem_cons, List.mem_append] at hq ⊢
        grind)
      refine' sorted_comms w st.cs (fun c hc => (ok.eq c hc).2.1) (fun c hc z => ?nz) hcl st.l st.nl _ (.head _) (fun c hc => .tail _ (List.mem_append_left _ (mem_tups.mpr ⟨c, hc, rfl⟩))) (fun q hq => ?q88) _ _ _ _ _ _ _ _ _ _ _ _ _ _ _ _ _ _ _ _ _ _ _ _ B₁ F₁ X₁ N2 Tp₁ rfl ?cD ?cU hG1 ht1 ht2 ht3 ?_
      case nz =>
        have := (ok.eq c hc).2.2.1
        rw [z] at this
        simp at this
        omega
      case q88 =>
        rcases List.mem_cons.mp hq with rfl | hq
        · exact ok.l88
        rcases List.mem_append.mp hq with hq | hq
        · obtain ⟨c, hc, rfl⟩ := mem_tups.mp hq
          exact (ok.eq c hc).2.2.2
        · exact h88 q hq
      case cD => ktr_room
      case cU => ktr_units
      intro D9 out c9 recs q1 q2 q3 s₃ hA₃ F₃ N₃ hq1 hq2 hq3 hperm hcv
      have hG3 := hA₃.gens hG1
      clear N2 F₁ N₁
      k_steps
      rename KtsTurn _ _ _ => kT
      rename Fr _ _ _ _ => kF
      rename News _ _ _ _ => kN
      rename Below _ _ _ _ => kB
      rename Frag.In _ _ => kX
      rename Top _ _ _ _ _ _ => kP
      rename KtsDicts _ _ => kD
      refine hret _ _ _ _ ⟨(hA₃.os.trans hA₁.os).trans hA.os, fun G => hA₃.gens (hA₁.gens (hA.gens G)), Nat.le_trans hA.size (Nat.le_trans hA₁.size hA₃.size)⟩ kT kF (brute_sub kN) kB kX kP kD ⟨_, _, D9, out, c9, recs, q1, q2, q3, rfl, rfl, hq1, hq2, hq3, hperm, fun z => ?_, ?_, fun rc hrc => ?_⟩
      · rw [z] at hcv
        exact hne (List.map_eq_nil_iff.mp hcv.symm)
      · have h1 := congrArg List.length hcv
        rw [List.length_map, List.length_map] at h1
        omega
      · obtain ⟨c, hc, hce⟩ : ∃ c ∈ st.cs, c.cv = rc.cv := by
          have : rc.cv ∈ st.cs.map (·.cv) := hcv ▸ List.mem_map_of_mem hrc
          simpa using this
        obtain ⟨e1, e2, e3, _⟩ := ok.eq c hc
        rw [← hce]
        refine ⟨e2, e3, fun d hd => ?_⟩
        have := hle d hd
        omega
    | some ks =>
      rw [hcj] at hP
      obtain ⟨T, vals, iv', c', rfl, hv, hiv, rfl, ltT, ltDT⟩ := hP
      obtain ⟨hnx, hkl, hku, hkn⟩ := hch.nxt j ks hcj
      have hjl : j < (combos its.size 0 r).length := (List.getElem?_eq_some_iff.mp hcj).1
      have hvl : vals.length = r := by rw [← List.length_map (f := (·.1)), hv, hkl]
      have hsm : Sm vals := ⟨by omega, fun e he => by
        have := hkn e.1 (by rw [← hv]; exact List.mem_map_of_mem he)
        omega, by rw [hv]; exact hku⟩
      have inB : ∀ q ∈ bas, q ∈ (T, seqO "tuple" vals 0) :: (st.D, listOf (iv'.map toV).toArray c') :: (st.P, tupO its.toList) :: (st.x, combO st.d st.D st.P false false r st.tc) :: (st.d, emptyDict) :: st.rest w ((52, tabObj p1) :: (80, tabObj p2) :: (88, tabObj p3) :: bas) := fun q hq =>
        .tail _ (.tail _ (.tail _ (.tail _ (.tail _ (.tail _ (List.mem_append_right _ (List.mem_append_right _ (.tail _ (.tail _ (.tail _ hq))))))))))
      have inO : ∀ q ∈ st.oz.led w, q ∈ (T, seqO "tuple" vals 0) :: (st.D, listOf (iv'.map toV).toArray c') :: (st.P, tupO its.toList) :: (st.x, combO st.d st.D st.P false false r st.tc) :: (st.d, emptyDict) :: st.rest w ((52, tabObj p1) :: (80, tabObj p2) :: (88, tabObj p3) :: bas) := fun q hq =>
        .tail _ (.tail _ (.tail _ (.tail _ (.tail _ (.tail _ (List.mem_append_left _ hq))))))
      dsimp only
      k_steps
      refine Held.mk ?_
      rename Fr _ _ _ _ => F2
      rename News _ _ _ _ => N2
      refine' (thiele w p dp lc ln lv T t1 t2 t3 k n tkS vs hvs hv4 vals hsm _ (inB _ m1) (inB _ m2) (inB _ m3) (fun r hr q hq => inB q (m4 r hr q hq)) (.head _)) _ _ _ _ _ _ _ _ _ _ _ _ _ _ _ _ _ _ _ _ _ B₁ F2 X₁ N2 Tp₁ rfl ?cD ?cU hG1 ?_
      case cD => ktr_room
      case cU => ktr_units
      intro rv nw2 s₂ hA₂ F3 N3 hP2
      obtain ⟨sc, rfl, hsc, rfl, hab⟩ := hP2
      have hG2 := hA₂.gens hG1
      clear F2 N2
      have hb1 : sc.num ≤ 100 := by
        have h1 := sc_le (vs.map fun r => (r.e, r.wt)) (vals.map (·.1))
        have h2 := tot_le vs hvs
        rw [hsc]
        omega
      k_steps
      refine Held.mk ?_
      rename Fr _ _ _ _ => F4
      rename News _ _ _ _ => N4
      refine' sc_gt w sc st.oz _ (fun q hq => List.mem_append_left _ hq) (fun q hq => List.mem_append_right _ (inO q hq)) hb1 ok.b1 ok.b2 _ _ _ _ _ _ _ _ _ _ _ _ _ _ _ _ _ _ _ _ _ B₁ F4 X₁ N4 Tp₁ rfl ?cD ?cU hG2 ?_
      case cD => ktr_room
      case cU => ktr_units
      intro rv3 nw3 s₃ hA₃ F5 N5 hP3
      obtain ⟨rfl, rfl⟩ := hP3
      have hG3 := hA₃.gens hG2
      by_cases hgt : st.oz.num < (sc.num : Int)
      · rw [decide_eq_true hgt]
        clear F4 N4
        k_steps
        refine Held.mk ?_
        rename Fr _ _ _ _ => F6
        rename News _ _ _ _ => N6
        rename ∀ (q : Addr × Obj), q ∈ sc.led w ++ _ → _ => lNew
        refine ⟨_, ?_, ⟨st.x, st.d, st.P, st.D, _, 0, c', st.tc, false, iv', [⟨T, vals⟩], sc.oz, some (.ref T), some sc.val⟩, j + 1, h₂, rfl, rfl, ok.gt hch hcj hv hiv hsm hvl ltT ltDT ⟨(88, _), .tail _ (.tail _ (.head _)), rfl⟩ (by rw [hsc, hv]) hab hgt hb1 _ _ _ lNew, ⟨(hA₃.os.trans hA₂.os).trans (hA₁.os.trans hA.os), fun G => hA₃.gens (hA₂.gens (hA₁.gens (hA.gens G))), Nat.le_trans hA.size (Nat.le_trans hA₁.size (Nat.le_trans hA₂.size hA₃.size))⟩, hTt, Bs.after (st := st) F6 rfl rfl ?_ rfl ?_, ?_, B₁, X₁, Tp₁, D₁⟩
        · omega
        · show some sc.val = some sc.oz.val
          rw [Sc.oz_val]
        · intro y e1 e2 e3 e4
          simp only [if_neg e1, if_neg e2, if_neg e3, if_neg e4]
        · exact fun q hq => N6 q (gt_sub hq)
      · rw [decide_eq_false hgt]
        clear F4 N4
        k_steps
        refine Held.mk ?_
        rename Fr _ _ _ _ => F6
        rename News _ _ _ _ => N6
        refine' sc_eq w sc st.oz _ (fun q hq => List.mem_append_left _ hq) (fun q hq => List.mem_append_right _ (inO q hq)) hb1 ok.b1 ok.b2 _ _ _ _ _ _ _ _ _ _ _ _ _ _ _ _ _ _ _ _ _ B₁ F6 X₁ N6 Tp₁ rfl ?cD ?cU hG3 ?_
        case cD => ktr_room
        case cU => ktr_units
        intro rv4 nw4 s₄ hA₄ F7 N7 hP4
        obtain ⟨rfl, rfl⟩ := hP4
        have hG4 := hA₄.gens hG3
        by_cases heq : (sc.num : Int) = st.oz.num
        · rw [beq_iff_eq.mpr heq]
          clear F6 N6
          have hne : ∀ p ∈ (T, seqO "tuple" vals 0) :: (st.D, listOf (iv'.map toV).toArray c') :: (st.P, tupO its.toList) :: (st.x, combO st.d st.D st.P false false r st.tc) :: (st.d, emptyDict) :: st.old w ((52, tabObj p1) :: (80, tabObj p2) :: (88, tabObj p3) :: bas), p.1 ≠ st.l := by
            intro q hq
            rcases List.mem_cons.mp hq with rfl | hq
            · exact Nat.ne_of_gt (ltT (st.l, _) (.head _))
            rcases List.mem_cons.mp hq with rfl | hq
            · exact ok.nlD.1.symm
            rcases List.mem_cons.mp hq with rfl | hq
            · exact ok.nlD.2.1.symm
            rcases List.mem_cons.mp hq with rfl | hq
            · exact ok.nlD.2.2.1.symm
            rcases List.mem_cons.mp hq with rfl | hq
            · exact ok.nlD.2.2.2.symm
            · exact ok.nel q hq
          have N8 : News h₂ L' s₄.heap ((st.l, listOf (st.cs.map fun c => Value.ref c.T).toArray st.nl) :: (T, seqO "tuple" vals 0) :: (st.D, listOf (iv'.map toV).toArray c') :: (st.P, tupO its.toList) :: (st.x, combO st.d st.D st.P false false r st.tc) :: (st.d, emptyDict) :: st.old w ((52, tabObj p1) :: (80, tabObj p2) :: (88, tabObj p3) :: bas)) := fun q hq => N7 q (by
            simp only [Bs.rest, List.mem_cons, List.mem_append] at hq ⊢
            grind)
          clear N7
          have hcz : (st.cs.map fun c => Value.ref c.T).toArray.size ≤ 1000 := by
            have h1 := ok.cl
            have h2 := hch.len
            simp only [List.size_toArray, List.length_map]
            omega
          k_steps
          refine Held.mk ?_
          rename Fr _ _ _ _ => F9
          rename News _ _ _ _ => N9
          refine ⟨_, ?_, ⟨st.x, st.d, st.P, st.D, st.l, st.nl + 1, c', st.tc, false, iv', st.cs ++ [⟨T, vals⟩], st.oz, some (.ref T), some sc.val⟩, j + 1, h₂, rfl, rfl, ok.snoc hch hcj hv hiv hsm hvl ltT ltDT ⟨(88, _), .tail _ (.tail _ (.head _)), rfl⟩ (by rw [← heq, hsc, hv]) _ _ _, ⟨(hA₄.os.trans (hA₃.os.trans hA₂.os)).trans (hA₁.os.trans hA.os), fun G => hA₄.gens (hA₃.gens (hA₂.gens (hA₁.gens (hA.gens G)))), Nat.le_trans hA.size (Nat.le_trans hA₁.size (Nat.le_trans hA₂.size (Nat.le_trans hA₃.size hA₄.size)))⟩, hTt, Bs.after (st := st) F9 rfl rfl rfl rfl ?_, ?_, B₁, X₁, Tp₁, D₁⟩
          · omega
          · intro y e1 e2 e3 e4
            simp only [if_neg e1, if_neg e2, if_neg e3, if_neg e4]
          · exact fun q hq => N9 q (snoc_sub hq)
        · rw [beq_eq_false_iff_ne.mpr heq]
          clear F6 N6
          k_steps
          refine Held.mk ?_
          rename Fr _ _ _ _ => F8
          rename News _ _ _ _ => N8
          refine ⟨_, ?_, ⟨st.x, st.d, st.P, st.D, st.l, st.nl, c', st.tc, false, iv', st.cs, st.oz, some (.ref T), some sc.val⟩, j + 1, h₂, rfl, rfl, ok.keep hch hcj hiv (by rw [← hv, ← hsc]; omega) _ _, ⟨(hA₄.os.trans (hA₃.os.trans hA₂.os)).trans (hA₁.os.trans hA.os), fun G => hA₄.gens (hA₃.gens (hA₂.gens (hA₁.gens (hA.gens G)))), Nat.le_trans hA.size (Nat.le_trans hA₁.size (Nat.le_trans hA₂.size (Nat.le_trans hA₃.size hA₄.size)))⟩, hTt, Bs.after (st := st) F8 rfl rfl rfl rfl ?_, ?_, B₁, X₁, Tp₁, D₁⟩
          · omega
          · intro y e1 e2 e3 e4
            simp only [if_neg e1, if_neg e2, if_neg e3, if_neg e4]
          · exact fun q hq => N8 q (List.mem_append_right _ (.tail _ hq))
end
-- S55
section
set_option maxHeartbeats 0
local macro_rules | `(tactic| k_room) => `(tactic| ktr_room)
local macro_rules | `(tactic| k_units) => `(tactic| ktr_units)
local macro_rules | `(tactic| k_enter) => `(tactic| (refine' code_def ?k1 ?k2 ?k3 ?k4 ?k5 ?kA ?kF ?kK ?k6 ?k7 ?k8 ?k9 ?kB ?_ ?c2 ?c3 ?c4 ?c5; (case kA => exact rfl); (case kF => exact rfl); (case kK => first | exact rfl | assumption); (case k1 => k_asm); (case k2 => k_asm); (case k3 => k_asm); (case k4 => k_asm); (case k5 => k_asm); (case k6 => k_is); (case k7 => k_is); (case k8 => ktr_room); (case k9 => first | exact BindsTo.of_eq rfl | exact binds_K (by k_in) rfl (by k_is) rfl rfl rfl); (case c5 => decide); (case kB => exact locs rfl); (case c2 => exact rfl); (case c3 => exact rfl); (case c4 => exact rfl); k_whole; intro g' L' h' FG' F' N' B' X' T'; (try dsimp only); (try k_fold)))
local macro_rules | `(tactic| k_mem) => `(tactic| first | exact List.Mem.head _ | assumption | (refine' List.Mem.tail _ ?_; k_mem))
local macro_rules | `(tactic| fail "hook call builtin:list.append") => `(tactic| (k_here; (dsimp only [List.cons_append, List.nil_append])))
local macro_rules | `(tactic| fail "hook exec For Name Attribute cons nil") => `(tactic| (k_here; (refine Held.out ?_)))
local macro_rules | `(tactic| fail "hook pyIter ref") => `(tactic| (refine Held.out ?_))
local macro_rules | `(tactic| fail "hook Held") => `(tactic| fail "held")
local macro_rules | `(tactic| k_all) => `(tactic| first | assumption | exact ne_one (by assumption) | (refine' ne_two ?a ?b; (case a => assumption); (case b => omega)))

theorem in508 {w : World} {A : Around} {E : Value → Shared → Prop} {s : Shared} {h₀ : Heap} {L : Addr} {m : Str → Option Value} {k : Str} {t : Tok} {Q : Value → Shared → Prop} (b : Bool) (F : Fr h₀ L s.heap m) (X : (kf.heap_1 w.params).In h₀)
    (hb : [Str.ofString "branch-and-bound", Str.ofString "brute-force", Str.ofString "standard", Str.ofString "standard-fractions"].any (· == k) = b) (h : Q (.bool b) s) : wpAny (model prog w) A (compareOp .In (.str k t) (.ref 508)) Q E s := by
  have e : (kf.heap_1 w.params).lookup 508 = some { cls := .type "list", dict := none, data := .seq #[.str (Str.ofString "branch-and-bound") 921, .str (Str.ofString "brute-force") 922, .str (Str.ofString "standard") 923, .str (Str.ofString "standard-fractions") 924] 0, slots := #[] } := by kernel_rfl
  refine in_list_strs (vs := [.str (Str.ofString "branch-and-bound") 921, .str (Str.ofString "brute-force") 922, .str (Str.ofString "standard") 923, .str (Str.ofString "standard-fractions") 924]) (ys := [Str.ofString "branch-and-bound", Str.ofString "brute-force", Str.ofString "standard", Str.ofString "standard-fractions"]) ⟨_, F.keep _ _ (X _ _ e), rfl, 0, rfl⟩ (.cons _ _ (.cons _ _ (.cons _ _ (.cons _ _ .nil)))) ?_
  rw [hb]
  exact h
local macro_rules | `(tactic| fail "hook compareOp In str ref") => `(tactic| (k_here; (with_reducible show wpAny _ _ (compareOp CmpOp.In (Value.str _ _) (Value.ref 508)) _ _ _); (refine Held.out ?_)))
structure Av where
  av : Array Value
  n : Nat
  x : Option Value
abbrev Av.map (m0 : Str → Option Value) (st : Av) : Str → Option Value := fun y => if y = Str.ofString "algorithm" then st.x else m0 y
theorem Av.begin {h₀ h : Heap} {L : Addr} {m0 : Str → Option Value} (F : Fr h₀ L h m0) : ∃ st : Av, Fr h₀ L h (st.map m0) ∧ st.av = #[] ∧ st.n = 0 := by
  refine ⟨⟨#[], 0, m0 (Str.ofString "algorithm")⟩, Fr.to F fun y => ?_, rfl, rfl⟩
  simp only [Av.map]
  split
  · rename_i h; rw [h]
  · rfl
theorem Av.after {h₀ h : Heap} {L : Addr} {m0 : Str → Option Value} {st : Av} {av : Array Value} {n : Nat} {x : Value} (F : Fr h₀ L h (setM (st.map m0) (Str.ofString "algorithm") (some x))) : Fr h₀ L h (Av.map m0 ⟨av, n, some x⟩) := by
  refine Fr.to F fun y => ?_
  by_cases h1 : y = Str.ofString "algorithm"
  · rw [h1]; rfl
  · simp only [Av.map, setM, if_neg h1]
theorem strs_str : ∀ {vs : List Value} {ns : List Str}, StrsAre vs ns → ∀ v ∈ vs, ∃ k t, v = .str k t
  | _, _, .nil, _, h => nomatch h
  | _, _, .cons n t r, v, h => by
    rcases List.mem_cons.mp h with rfl | h
    · exact ⟨_, _, rfl⟩
    · exact strs_str r v h
abbrev ruD (w : World) (tk : Tok) (D l : Addr) (t1 t2 t3 t4 t5 t6 t7 t8 : Tok) : Obj := dictOf [{ hash := PyData.keyHash w.params (Str.ofString "rule_id"), key := .str (Str.ofString "rule_id") t1, val := .str (Str.ofString "cc") tk }, { hash := PyData.keyHash w.params (Str.ofString "shortname"), key := .str (Str.ofString "shortname") t2, val := .str (Str.ofString "CC") t3 },
  { hash := PyData.keyHash w.params (Str.ofString "longname"), key := .str (Str.ofString "longname") t4, val := .str (Str.ofString "Approval Chamberlin-Courant (CC)") t5 }, { hash := PyData.keyHash w.params (Str.ofString "algorithms"), key := .str (Str.ofString "algorithms") t6, val := .ref D },
  { hash := PyData.keyHash w.params (Str.ofString "resolute_values"), key := .str (Str.ofString "resolute_values") t7, val := .ref 411 }, { hash := PyData.keyHash w.params (Str.ofString "available_algorithms"), key := .str (Str.ofString "available_algorithms") t8, val := .ref l }] 6
abbrev alO (u1 u2 u3 u4 u5 u6 : Tok) : Obj := { cls := .type "tuple", data := .seq #[.str (Str.ofString "gurobi") u1, .str (Str.ofString "pulp-highs") u2, .str (Str.ofString "ortools-cp") u3, .str (Str.ofString "branch-and-bound") u4, .str (Str.ofString "brute-force") u5, .str (Str.ofString "pulp-cbc") u6] }
abbrev RulePost (w : World) (tk : Tok) (news news' : List (Addr × Obj)) (v : Value) : Prop :=
  ∃ (x d D l : Addr) (t1 t2 t3 t4 t5 t6 t7 t8 u1 u2 u3 u4 u5 u6 : Tok), v = .ref x ∧ news' = (D, alO u1 u2 u3 u4 u5 u6) :: (x, instObj 437 d) :: (d, ruD w tk D l t1 t2 t3 t4 t5 t6 t7 t8) :: news
theorem avail_open {P : Prop} {h₀ h : Heap} {L l D : Addr} {zs : Array Value} {rest : List (Addr × Obj)} (N : News h₀ L h ((l, listOf #[] 0) :: (D, { cls := .type "tuple", data := .seq zs }) :: rest))
    (k : ∀ (l' D' : Addr) (zs' : Array Value) (rest' : List (Addr × Obj)), l' = l → D' = D → zs' = zs → rest' = rest → News h₀ L h ((l', listOf #[] 0) :: (D', { cls := .type "tuple", data := .seq zs' }) :: rest') → P) : P := k l D zs rest rfl rfl rfl rfl N
theorem rule_cc (w : World) (tk : Tok) (news : List (Addr × Obj)) :
    CallC w 437 [.str (Str.ofString "cc") tk] news 60 900 (RulePost w tk news) := by
  intro lo mean mg mb dp un gd cn cs a ccd cl outer A₀ base h₀ L m s Q E B F X N T hk hdp hu hG hret
  k_steps
  refine Held.mk ?_
  rename Fr _ _ _ _ => F1
  refine for_inv2 (v := Str.ofString "algorithm") F1 rfl rfl rfl ?_
  k_steps
  refine Held.mk ?_
  rename Fr _ _ _ _ => F2
  rename News _ _ _ _ => N2
  rename Frag.In _ _ => X2
  rename _ < _ ∧ _ < _ ∧ _ < _ ∧ AllLt _ _ => oK
  refine avail_open N2 ?_
  rintro l1 D1 zs rest rfl rfl hzs hrest N3
  have hz6 : zs.size = 6 := by rw [hzs]; rfl
  have hstr : ∀ (i : Nat) (x : Value), zs[i]? = some x → ∃ k t, x = Value.str k t := fun i x hx => strs_str (vs := zs.toList) (ns := [Str.ofString "gurobi", Str.ofString "pulp-highs", Str.ofString "ortools-cp", Str.ofString "branch-and-bound", Str.ofString "brute-force", Str.ofString "pulp-cbc"]) (by rw [hzs]; exact .cons _ _ (.cons _ _ (.cons _ _ (.cons _ _ (.cons _ _ (.cons _ _ .nil)))))) x (List.mem_of_getElem? (by rw [Array.getElem?_toList]; exact hx))
  have hr : ∀ p ∈ rest, p.1 ≠ l1 := fun p hp => Nat.ne_of_lt (all_of (l := (D1, { cls := .type "tuple", data := .seq zs }) :: rest) (by rw [hrest]; exact oK) p (.tail _ hp))
  have hDl : @LT.lt Nat _ D1 l1 := oK.1
  obtain ⟨st, Fst, e1, e2⟩ := Av.begin F2
  have ND := N3 _ (.tail _ (.head _))
  have szD := Heap.lt_size ND.1
  clear N2
  refine wpAny_pyIter_tuple (News.isTup N3 (.tail _ (.head _))) ?_
  have hsz := fun q hq => Heap.lt_size (N3 q hq).1
  refine ⟨Av, fun st => Av.map _ st, fun st => (l1, listOf st.av st.n) :: (D1, { cls := .type "tuple", data := .seq zs }) :: rest, fun i st => st.av.size ≤ i, zs.size, (fun i x => zs[i]? = some x), D1, { cls := .type "tuple", data := .seq zs }, _, fun i h => h.IsTupleIter _ D1 i ∧ h.IsTuple D1 zs, st, { cls := .type "tuple_iterator", data := .fields #[.ref D1, .int 0 0] }, rfl, fun i h q => ⟨_, q.1.choose_spec.1⟩, fun A' hA => Walks.tuple hA _ _ (Nat.ne_of_lt szD) _, ⟨⟨_, Heap.get?_push_size _ rfl, rfl, rfl⟩, (News.isTup N3 (.tail _ (.head _))).keeps fun b o e => Heap.get?_push_of_some _ e⟩, ⟨rfl, id, Nat.le_refl _⟩, Fst.push _, ?hN, ?hR, ?hI, ?hl, ?hbody, ?hend⟩
  case hN =>
    dsimp only
    rw [e1, e2]
    exact News.push Fst N3 _ rfl
  case hR =>
    dsimp only
    rw [e1]
    exact Nat.le_refl _
  case hI =>
    dsimp only
    rw [e1, e2]
    exact fun q hq => Nat.ne_of_lt (hsz q hq)
  case hl => exact fun i st _ => .tail _ (.head _)
  case hbody =>
    clear ND szD N3 Fst e1 e2 hsz
    intro i x st I oI s' hi hx hR hA F' N' hI
    obtain ⟨k, t, rfl⟩ := hstr i x hx
    have hIl : I ≠ l1 := (hI _ (.head _)).symm
    have hr' : ∀ p ∈ (D1, ({ cls := .type "tuple", data := .seq zs } : Obj)) :: rest, p.1 ≠ l1 := fun p hp => by
      rcases List.mem_cons.mp hp with rfl | hp
      · exact Nat.ne_of_lt hDl
      · exact hr p hp
    dsimp only at F' N' hI hR
    have hav : st.av.size ≤ 100 := by omega
    subst hrest
    k_steps
    refine Held.mk ?_
    rename Fr _ _ _ _ => F4
    rename News _ _ _ _ => N4
    refine in508 _ F4 X2 rfl ?_
    cases [Str.ofString "branch-and-bound", Str.ofString "brute-force", Str.ofString "standard", Str.ofString "standard-fractions"].any (· == k) with
    | false =>
      k_steps
      refine Held.mk ?_
      rename Fr _ _ _ _ => F9
      rename News _ _ _ _ => N9
      exact ⟨rfl, ⟨st.av, st.n, some (.str k t)⟩, Nat.le_succ_of_le hR, ⟨rfl, id, Nat.le_refl _⟩, Av.after F9, N9, hI⟩
    | true =>
      k_steps
      refine Held.mk ?_
      rename Fr _ _ _ _ => F9
      rename News _ _ _ _ => N9
      refine ⟨rfl, ⟨st.av.push (.str k t), st.n + 1, some (.str k t)⟩, ?_, ⟨rfl, id, Nat.le_refl _⟩, Av.after F9, N9, fun q hq => ?_⟩
      · show (st.av.push _).size ≤ i + 1
        rw [Array.size_push]
        omega
      · rcases List.mem_cons.mp hq with rfl | hq
        · exact hIl.symm
        · exact hI q (.tail _ hq)
  case hend =>
    intro st s' hR hA F' N'
    subst hrest
    k_steps
    rename Fr _ _ _ _ => F9
    rename News _ _ _ _ => N9
    subst hzs
    refine hret _ _ _ ⟨hA.os, hA.gens, hA.size⟩ F9 (fun q hq => N9 q (.tail _ hq)) ⟨_, _, _, _, _, _, _, _, _, _, _, _, _, _, _, _, _, _, rfl, rfl⟩
end
-- S56
section
set_option maxHeartbeats 0
local macro_rules | `(tactic| k_room) => `(tactic| ktr_room)
local macro_rules | `(tactic| k_units) => `(tactic| ktr_units)
local macro_rules | `(tactic| k_enter) => `(tactic| (refine' code_def ?k1 ?k2 ?k3 ?k4 ?k5 ?kA ?kF ?kK ?k6 ?k7 ?k8 ?k9 ?kB ?_ ?c2 ?c3 ?c4 ?c5; (case kA => exact rfl); (case kF => exact rfl); (case kK => first | exact rfl | assumption); (case k1 => k_asm); (case k2 => k_asm); (case k3 => k_asm); (case k4 => k_asm); (case k5 => k_asm); (case k6 => k_is); (case k7 => k_is); (case k8 => ktr_room); (case k9 => first | exact BindsTo.of_eq rfl | exact binds_K (by k_in) rfl (by k_is) rfl rfl rfl); (case c5 => decide); (case kB => exact locs rfl); (case c2 => exact rfl); (case c3 => exact rfl); (case c4 => exact rfl); k_whole; intro g' L' h' FG' F' N' B' X' T'; (try dsimp only); (try k_fold)))
local macro_rules | `(tactic| k_mem) => `(tactic| first | exact List.Mem.head _ | assumption | (refine' List.Mem.tail _ ?_; k_mem))

theorem notIn411 {w : World} {A : Around} {E : Value → Shared → Prop} {s : Shared} {h₀ : Heap} {L : Addr} {m : Str → Option Value} {Q : Value → Shared → Prop} (hu : A.units + 10 < cLine) (F : Fr h₀ L s.heap m) (X : (kf.heap_1 w.params).In h₀)
    (h : Q (.bool false) s) : wpAny (model prog w) A (compareOp .NotIn (.bool false) (.ref 411)) Q E s := by
  have e : (kf.heap_1 w.params).lookup 411 = some { cls := .type "tuple", dict := none, data := .seq #[.bool false, .bool true] 0, slots := #[] } := by kernel_rfl
  refine PySem.SeqAt.notIn_tuple_reads (xs := [.bool false, .bool true]) (d := .bool false) (.tuple (F.keep _ _ (X _ _ e)) rfl rfl (.cons (.bool false) (.cons (.bool true) .nil))) (.bool false) (by decide) (by decide) (Nat.lt_of_le_of_lt (Nat.add_le_add_left (show 1 + min (PyData.depthAll [.bool false, .bool true]) (PyData.depth (.bool false)) ≤ 10 by decide) _) hu) ?_
  exact h
theorem ite_noP {c : Prop} [Decidable c] {p q : Prop} (hc : ¬ c) (h : q) : if c then p else q := by rw [if_neg hc]; exact h
local macro_rules | `(tactic| fail "hook subscriptTail Name Constant ref int") => `(tactic| (k_here; (refine Held.out ?_)))
local macro_rules | `(tactic| fail "hook compareOp NotIn bool ref") => `(tactic| (k_here; (with_reducible show wpAny _ _ (compareOp CmpOp.NotIn (Value.bool _) (Value.ref 411)) _ _ _); (refine' notIn411 ?k0 ?k1 ?k2 ?_; (case k0 => ktr_units); (case k1 => k_asm); (case k2 => k_asm))))
local macro_rules | `(tactic| fail "hook ite") => `(tactic| (refine' ite_noP ?hc ?_; (case hc => (simp only [decide_eq_true_eq, beq_iff_eq, List.size_toArray, List.length_map]; omega))))
local macro_rules | `(tactic| fail "hook call builtin:len") => `(tactic| (k_here; k_dflt (refine len_listK (by k_asm) (by k_mem) (by (try simp only [List.size_toArray, List.length_map]); omega) ?_; intro t' tk')))
local macro_rules | `(tactic| fail "hook call ref") => `(tactic| (k_here; (with_reducible show wpAny _ _ (call (.ref 437) _) _ _ _); (refine Held.out ?_)))
local macro_rules | `(tactic| fail "hook call ref") => `(tactic| (k_here; (with_reducible show wpAny _ _ (call (.ref 524) _ _) _ _ _); (refine Held.out ?_)))

abbrev ChoPost (w : World) (its : Array Value) (r : Nat) (vs : List Vr) (base : List (Addr × Obj)) (news' : List (Addr × Obj)) (v : Value) : Prop :=
  ∃ (D : Addr) (out : Array Value) (c : Nat) (recs : List Rc) (p1 p2 p3 : Array Value), v = .ref D ∧ news' = (D, listOf out c) :: (rcLed w recs ++ (52, tabObj p1) :: (80, tabObj p2) :: (88, tabObj p3) :: base) ∧
    TriplesOk p1.toList ∧ TriplesOk p2.toList ∧ TriplesOk p3.toList ∧ out.toList.Perm (recs.map fun r => Value.ref r.x) ∧ recs ≠ [] ∧ recs.length ≤ 1000 ∧
    ∀ rc ∈ recs, Sm rc.cv ∧ rc.cv.length = r ∧ ∀ d ∈ combos its.size 0 r, Mine.sc (vs.map fun r => (r.e, r.wt)) d ≤ Mine.sc (vs.map fun r => (r.e, r.wt)) (rc.cv.map (·.1))
theorem thiele_method (w : World) (p dp lc ln lv : Addr) (t1 t2 t3 : Tok) (k n nl : Nat) (tkS tr tkA : Tok) (its : Array Value) (hc : Cands its) (h5 : 5 ≤ its.size) (h6 : its.size ≤ 6) (r : Nat) (hr1 : 1 ≤ r) (hr3 : r ≤ 3) (vs : List Vr) (hvs : ∀ r ∈ vs, r.Ok) (hv4 : vs.length ≤ 4) (hv1 : 1 ≤ vs.length) (bas : List (Addr × Obj))
    (m0 : (lc, listOf its nl) ∈ bas) (m1 : (p, instObj 681 dp) ∈ bas) (m2 : (dp, prD w lc ln lv t1 t2 t3 k) ∈ bas) (m3 : (lv, listOf (vs.map fun r => Value.ref r.v).toArray n) ∈ bas) (m4 : ∀ r ∈ vs, ∀ q ∈ r.block w, q ∈ bas) (h88 : ∀ q ∈ bas, @LT.lt Nat _ 88 q.1) (p1 p2 p3 : Array Value) (ht1 : TriplesOk p1.toList) (ht2 : TriplesOk p2.toList) (ht3 : TriplesOk p3.toList) :
    ChainK w [] ((52, tabObj p1) :: (80, tabObj p2) :: (88, tabObj p3) :: bas) 240 3300 (ChoPost w its r vs bas)
      (call (.ref 516) [] [(Str.ofString "scorefct_id", .str (Str.ofString "cc") tkS), (Str.ofString "profile", .ref p), (Str.ofString "committeesize", .int (r : Int) tr), (Str.ofString "algorithm", .str (Str.ofString "brute-force") tkA), (Str.ofString "resolute", .bool false), (Str.ofString "max_num_of_committees", .none), (Str.ofString "lexicographic_tiebreaking", .bool false)]) := by
  intro lo mean mg mb dpt un gd cn cs a ccd outer A₀ base h₀ L m s Q E B F X N Tp XB TB D0 hk hdp hu hG hret
  dsimp only [prD] at m2
  refine wpAny_call ?_
  (refine' code_defS ?k1 ?k2 ?k3 ?k4 ?k5 ?XB ?TB ?D ?T0 ?kA ?k6 ?k7 ?k8 ?k9 ?kB ?_ ?cK ?c2 ?c3 ?c4 ?c5; (case kA => exact rfl); (case k2 => k_asm); (case k1 => k_asm); (case XB => assumption); (case TB => assumption); (case D => assumption); (case T0 => first | assumption | exact KtsTurn.refl); (case k3 => k_asm); (case k4 => k_asm); (case k5 => k_asm); (case k6 => k_is); (case k7 => k_is); (case k8 => k_room); (case k9 => exact binds_K (X.keeps F.keep) rfl (by k_is) rfl rfl rfl); (case kB => exact locs rfl); (case cK => exact hk); (case c2 => exact rfl); (case c3 => exact rfl); (case c4 => exact rfl); (case c5 => decide); k_whole; intro g' L' h' FG' F' N' B' X' T' D'; (try dsimp only); (try k_fold))
  k_steps
  refine Held.mk ?_
  rename Fr _ _ _ _ => F2
  rename News _ _ _ _ => N2
  refine' (rule_cc w tkS _) _ _ _ _ _ _ _ _ _ _ _ _ _ _ _ _ _ _ _ _ _ B' F2 X' N2 T' rfl ?cD ?cU hG ?_
  case cD => ktr_room
  case cU => ktr_units
  clear F2 N2
  intro r1 nw1 s1 hA1 F1 N1 hP1
  obtain ⟨x', d', D1, l1, a1, a2, a3, a4, a5, a6, a7, a8, u1, u2, u3, u4, u5, u6, rfl, rfl⟩ := hP1
  have hG1 := hA1.gens hG
  dsimp only [ruD, alO] at N1
  k_steps
  refine Held.mk ?_
  rename Fr _ _ _ _ => F2
  rename News _ _ _ _ => N2
  refine' (brute w p dp lc ln lv t1 t2 t3 k n nl tkS tr its hc h5 h6 r hr1 hr3 vs hvs hv4 bas m0 m1 m2 m3 m4 h88 p1 p2 p3 ht1 ht2 ht3) _ _ _ _ _ _ _ _ _ _ _ _ _ _ _ _ _ _ _ _ B' F2 X' (fun q hq => N2 q (.tail _ (.tail _ (.tail _ hq)))) T' XB TB D' rfl ?cD ?cU hG1 ?_
  case cD => ktr_room
  case cU => ktr_units
  clear F2 N2
  intro r2 nw2 s2 h₂ hA2 hT2 F2 N2 B2 X2 Tp2 D2 hP2
  obtain ⟨TT, dd, D, out, c, recs, q1, q2, q3, rfl, rfl, hq1, hq2, hq3, hperm, hne, hrz, hall⟩ := hP2
  have hG2 := hA2.gens hG1
  have hoz : 0 < out.size := by
    have h1 := hperm.length_eq
    rw [Array.length_toList, List.length_map] at h1
    have h2 := List.length_pos_iff.mpr hne
    omega
  k_steps
  refine Held.mk ?_
  refine item_list (News.isList (by k_asm) (.tail _ (.head _))) (by decide) (by decide) (x := out[0]) (by simp) ?_
  k_steps
  rename KtsTurn _ _ _ => kT
  rename Fr _ _ _ _ => kF
  rename News _ _ _ _ => kN
  rename Below _ _ _ _ => kB
  rename Frag.In _ _ => kX
  rename Top _ _ _ _ _ _ => kP
  rename KtsDicts _ _ => kD
  exact hret _ _ _ _ ⟨hA2.os.trans hA1.os, fun G => hA2.gens (hA1.gens G), Nat.le_trans hA1.size hA2.size⟩ kT kF (fun q hq => kN q (.tail _ hq)) kB kX kP kD ⟨D, out, c, recs, q1, q2, q3, rfl, rfl, hq1, hq2, hq3, hperm, hne, hrz, hall⟩
end
-- S57
section
set_option maxHeartbeats 0
local macro_rules | `(tactic| k_room) => `(tactic| ktr_room)
local macro_rules | `(tactic| k_units) => `(tactic| ktr_units)
local macro_rules | `(tactic| k_enter) => `(tactic| (refine' code_def ?k1 ?k2 ?k3 ?k4 ?k5 ?kA ?kF ?kK ?k6 ?k7 ?k8 ?k9 ?kB ?_ ?c2 ?c3 ?c4 ?c5; (case kA => exact rfl); (case kF => exact rfl); (case kK => first | exact rfl | assumption); (case k1 => k_asm); (case k2 => k_asm); (case k3 => k_asm); (case k4 => k_asm); (case k5 => k_asm); (case k6 => k_is); (case k7 => k_is); (case k8 => ktr_room); (case k9 => first | exact BindsTo.of_eq rfl | exact binds_K (by k_in) rfl (by k_is) rfl rfl rfl); (case c5 => decide); (case kB => exact locs rfl); (case c2 => exact rfl); (case c3 => exact rfl); (case c4 => exact rfl); k_whole; intro g' L' h' FG' F' N' B' X' T'; (try dsimp only); (try k_fold)))
local macro_rules | `(tactic| k_mem) => `(tactic| first | exact List.Mem.head _ | assumption | (refine' List.Mem.tail _ ?_; k_mem))

section
variable {w : World} {A₀ A : Around} {s : Shared} {base h₀ : Heap} {L : Addr} {m : Str → Option Value} {news : List (Addr × Obj)} {K : Frag} {p : Program} {loose : List Str} {mean : ExcName → Option Value} {mg mb : Str → Option Value} {env : Env}
    {R : Result → Shared → Prop} {name qual : Str} {params : Arguments} {body : List Stmt} {scope : Scope} {dV kV doc pm cdv ct oc : Value} {an od : Option Addr} {osl : Array (Option Value)} {f : Addr} {args : Args} {binds : List (Str × Value)}
/-- the entry from the law's own frame (whose names may lie in cells) of a function in which an exception is caught -/
theorem code_defX0 (B : Below A₀ base [] h₀) (F : Fr h₀ L s.heap m) (X₀ : K.In h₀) (N : News h₀ L s.heap news) (T : Top p loose mean mg mb h₀) (hA : A.frames = some [env]) (hf : env.frame = some L) (hke : env.scope.kind = .function)
    (ho : K.lookup f = some ⟨oc, od, .func (fnOf name qual params body scope dV kV doc pm an cdv ct), osl⟩) (hcd : codeIn K cdv qual = true) (hroom : A.depth < recursionLimit)
    (hbind : BindsTo s (fnOf name qual params body scope dV kV doc pm an cdv ct) args binds) (hloc : ∀ y ∈ binds, scope.names.lookup y.1 = some .local)
    (h : ∀ g L' h₁, Fr h₀ L g m → Fr g L' h₁ (fun y => binds.reverse.lookup y) → News g L' h₁ news → Below A base [env] g → K.In g → Top p loose mean mg mb g → KtsDicts ([env].filterMap (·.frame)) g →
      wpAny (model prog w) (A.deeper (envOf qual scope L' f cdv)) (execs body (envOf qual scope L' f cdv))
        (fun fl s' => LeaveS0 ([env].filterMap (·.frame)) h₀ L m g R (match fl with | .ret v => v | _ => .none) s')
        (fun e s' => wpAny (model prog w) (A.deeper (envOf qual scope L' f cdv)) (leaving (envOf qual scope L' f cdv) e) (fun _ s'' => R (.error e) s'') (fun e' s'' => R (.error e') s'') s')
        { s with heap := h₁, toks := s.toks + binds.length })
    (hco : scope.isCoroutine = false) (hgen : scope.isGenerator = false) (hk : scope.kind = .function)
    (hcell : ∀ x ∈ scope.names, x.2 ≠ .cell) : codeAny (model prog w) A (.call (.ref f) args) R s := by
  have X := X₀.keeps F.keep
  refine codeAny_call_def (fd := fnOf name qual params body scope dV kV doc pm an cdv ct) (body := body) (binds := binds) hroom (X _ _ ho) rfl (T.nolimit.keeps F.keep) (codeRec_of X hcd) rfl hbind hcell hloc (fun h₁ hns hk₁ => ?_) hco hgen hk
  obtain ⟨FG, BG, st, _⟩ := groundX (R := R) B F N hA hf hke
  obtain ⟨oL, es, ep, hLg, hLd, hLk, hLf⟩ := id FG.ns
  have hfs : ∀ b, b ∈ [env].filterMap (·.frame) ↔ b = L := fun b => by simp [hf, eq_comm]
  have nL : h₀.get? L = none := kts_self F
  refine wpAny_mono (h _ s.heap.objs.size h₁ FG ⟨hns, fun b o e => hk₁ b o (of_hideAll _ e), Nat.le_of_eq (hideAll_size _ _)⟩
    (fun q hq => ⟨hk₁ _ _ (N q hq).1, Nat.ne_of_lt (Heap.lt_size (N q hq).1), hideAll_none _ (List.mem_map_of_mem hq)⟩) BG (X₀.keeps st) (T.keeps st)
    (fun b hb => ⟨oL, es, ep, by rw [(hfs b).mp hb]; exact hLg, hLd⟩)) (fun fl s' hl => ?_) fun _ _ y => y
  obtain ⟨g', L', m', news', T', F', N', k⟩ := hl
  obtain ⟨sl, hs⟩ := T'.up hLg
  refine k ⟨⟨_, es, ep, F'.keep _ _ hs, hLd, hLk, hLf⟩, fun b o e => F'.keep b o (T'.other b o (st b o e) fun hb => ?_), F.above⟩ fun q hq => ⟨(N' q hq).1, fun e => ?_, ?_⟩
  · rw [(hfs b).mp hb, nL] at e
    cases e
  · have := (N' q hq).2.2
    rw [e, hs] at this
    cases this
  · cases e : h₀.get? q.1 with
    | none => rfl
    | some o =>
      obtain ⟨sl', hs'⟩ := T'.up (st _ _ e)
      have := (N' q hq).2.2
      rw [hs'] at this
      cases this
end
local macro_rules | `(tactic| fail "hook call ref") => `(tactic| (k_here; (with_reducible show wpAny _ _ (call (.ref 516) _ _) _ _ _); (refine Held.out ?_)))
theorem cc_law (w : World) (p dp lc ln lv : Addr) (t1 t2 t3 : Tok) (k n nl : Nat) (tr tkA : Tok) (its : Array Value) (hc : Cands its) (h5 : 5 ≤ its.size) (h6 : its.size ≤ 6) (r : Nat) (hr1 : 1 ≤ r) (hr3 : r ≤ 3) (vs : List Vr) (hvs : ∀ r ∈ vs, r.Ok) (hv4 : vs.length ≤ 4) (hv1 : 1 ≤ vs.length) (bas : List (Addr × Obj))
    (m0 : (lc, listOf its nl) ∈ bas) (m1 : (p, instObj 681 dp) ∈ bas) (m2 : (dp, prD w lc ln lv t1 t2 t3 k) ∈ bas) (m3 : (lv, listOf (vs.map fun r => Value.ref r.v).toArray n) ∈ bas) (m4 : ∀ r ∈ vs, ∀ q ∈ r.block w, q ∈ bas) (h88 : ∀ q ∈ bas, @LT.lt Nat _ 88 q.1) (p1 p2 p3 : Array Value) (ht1 : TriplesOk p1.toList) (ht2 : TriplesOk p2.toList) (ht3 : TriplesOk p3.toList) :
  ∀ (lo : List Str) (mean : ExcName → Option Value) (mg mb : Str → Option Value) (dp un : Nat) (gd : Option (List Code)) (cn : Str) (cs : Scope) (a : Addr) (ccd : Value) (cl : List (Str × Addr)) (A₀ : Around) (base h₀ : Heap) (L : Addr) (m : Str → Option Value) (s : Shared) (Q E : Value → Shared → Prop),
    Below A₀ base [] h₀ → Fr h₀ L s.heap m → (kf.heap_1 w.params).In h₀ → News h₀ L s.heap ((52, tabObj p1) :: (80, tabObj p2) :: (88, tabObj p3) :: bas) → Top topProg lo mean mg mb h₀ → (kf.heap_1 w.params).In base → Top topProg lo mean mg mb base → cs.kind = .function → dp + 260 < recursionLimit → un + 3600 < cLine → AllBare s.gens →
    (∀ v news' s', Aft s s' → Fr h₀ L s'.heap m → News h₀ L s'.heap news' → ChoPost w its r vs bas news' v → Q v s') →
    wpAny (model prog w) (ktrTop dp un gd cn cs L a ccd cl []) (call (.ref 540) [.ref p, .int (r : Int) tr, .str (Str.ofString "brute-force") tkA]) Q E s := by
  intro lo mean mg mb dpt un gd cn cs a ccd cl A₀ base h₀ L m s Q E B F X N Tp XB TB hk hdp hu hG hret
  refine wpAny_call ?_
  (refine' code_defX0 ?k1 ?k2 ?k3 ?k4 ?k5 ?kA ?kf ?cK ?k6 ?k7 ?k8 ?k9 ?kB ?_ ?c2 ?c3 ?c4 ?c5; (case kA => exact rfl); (case k2 => k_asm); (case k1 => k_asm); (case kf => exact rfl); (case k3 => k_asm); (case k4 => k_asm); (case k5 => k_asm); (case k6 => k_is); (case k7 => k_is); (case k8 => k_room); (case k9 => exact binds_K (X.keeps F.keep) rfl (by k_is) rfl rfl rfl); (case kB => exact locs rfl); (case cK => exact hk); (case c2 => exact rfl); (case c3 => exact rfl); (case c4 => exact rfl); (case c5 => decide); k_whole; intro g' L' h' FG' F' N' B' X' T' D'; (try dsimp only); (try k_fold))
  k_steps
  refine Held.mk ?_
  rename Fr _ _ _ _ => F2
  rename News _ _ _ _ => N2
  refine' (thiele_method w p dp lc ln lv t1 t2 t3 k n nl _ tr tkA its hc h5 h6 r hr1 hr3 vs hvs hv4 hv1 bas m0 m1 m2 m3 m4 h88 p1 p2 p3 ht1 ht2 ht3) _ _ _ _ _ _ _ _ _ _ _ _ _ _ _ _ _ _ _ _ B' F2 X' N2 T' XB TB D' rfl ?cD ?cU hG ?_
  case cD => ktr_room
  case cU => ktr_units
  clear F2 N2
  intro r2 nw2 s2 h₂ hA2 hT2 F2 N2 B2 X2 Tp2 D2 hP2
  obtain ⟨D, out, c, recs, q1, q2, q3, rfl, rfl, hq1, hq2, hq3, hperm, hne, hrz, hall⟩ := hP2
  have hG2 := hA2.gens hG
  k_steps
  rename Fr _ _ _ _ => kF
  rename News _ _ _ _ => kN
  exact hret _ _ _ ⟨hA2.os, hA2.gens, hA2.size⟩ kF kN ⟨D, out, c, recs, q1, q2, q3, rfl, rfl, hq1, hq2, hq3, hperm, hne, hrz, hall⟩
end
-- S64
section
open PyProof.Rows.LCg (NsObj ns_obj)
set_option maxHeartbeats 4000000
/-! loops over any iterator and target, in the state's frame and ledger -/
abbrev lcTests (ifs : List PySem.Expr) (env : Env) : Sem Bool := forIn ifs true fun c r => if r = true then do let ok ← isTrue c env (eval c env); pure (ForInStep.yield ok) else pure (ForInStep.yield r)
abbrev noErr : Value → Shared → Prop := fun _ _ => False
section
variable {prog : Program} {w : World} {A : Around} {E : Value → Shared → Prop} {s : Shared} {env : Env}
theorem assign_pair {a b : Str} {pa pb pos : Pos} {k : Nat} {T : Addr} {v1 v2 : Value} {m : Str → Option Value} {Q : Unit → Shared → Prop} (hh : A.handled = none) (ht : s.heap.IsTuple T #[v1, v2]) (hn : s.heap.Ns env.locals m)
    (ha : env.kindOf a = some .local) (hb : env.kindOf b = some .local) (hp : (env.scope.kind == .class || (env.scope.kind == .module && env.locals != env.globals)) = false)
    (h : ∀ h' tk, h'.Ns env.locals (fun y => if y = b then some v2 else if y = a then some v1 else m y) → (∀ c o, c ≠ env.locals → s.heap.get? c = some o → h'.get? c = some o) → Q () { s with heap := h', toks := tk }) :
    wpAny (model prog w) A (assign (.Tuple [.Name a pa, .Name b pb] k pos) env (.ref T)) Q E s := by
  refine wpAny_assign_Tuple hh ht rfl rfl fun h₃ hx₃ => ?_
  have k₃ : ∀ c o, s.heap.get? c = some o → h₃.get? c = some o := fun c o e => hx₃ c o (Nat.ne_of_lt (Heap.lt_size e)) e
  show wpAny _ A (do holding [v2] (assign (.Name a pa) env v1); do holding [] (assign (.Name b pb) env v2); pure ()) _ _ _
  refine wpAny_bind (wpAny_holding (wpAny_assign_Name (wpAny_storeName_local ha (hn.keeps k₃) (fun h₄ hn₄ hs₄ => ?_) hp)))
  refine wpAny_bind (wpAny_holding (wpAny_assign_Name (wpAny_storeName_local hb hn₄ (fun h₅ hn₅ hs₅ => wpAny_pure ?_) hp)))
  exact h h₅ _ hn₅ fun c o hc e => hs₅.extBut c o hc (hs₄.extBut c o hc (k₃ c o e))
end
section
variable {w : World} {A : Around}
/-- an iterator together with the storing of its item into the names of the frame C -/
structure Pull (w : World) (A : Around) (env : Env) (target : PySem.Expr) (C I : Addr) (fp wr : List Addr) (n : Nat) (B : Nat → (Str → Option Value) → (Str → Option Value) → Prop) (St : Nat → Heap → Prop) : Prop where
  sub : ∀ b ∈ wr, b ∈ fp
  frame : ∀ i h h', St i h → (∀ b ∈ fp, ∀ o, h.get? b = some o → h'.get? b = some o) → St i h'
  item : ∀ i (s : Shared) m (Q : Shared → Prop), i < n → St i s.heap → s.heap.Ns C m →
    (∀ h' tk m', B i m m' → h'.Ns C m' → St (i + 1) h' → (∀ b o, b ≠ C → b ∉ wr → s.heap.get? b = some o → h'.get? b = some o) → Q { s with heap := h', toks := tk }) →
    wpAny (model prog w) A (pyNext (.ref I)) (fun r s₁ => ∃ v, r = some v ∧ wpAny (model prog w) A (letOwnedTupleGo target (.ref I) v) (fun _ s₂ => wpAny (model prog w) A (assign target env v) (fun _ s₃ => Q s₃) noErr s₂) noErr s₁) noErr s
  done : ∀ (s : Shared) (Q : Option Value → Shared → Prop), St n s.heap → (∀ h' tk, (∀ b o, b ∉ wr → s.heap.get? b = some o → h'.get? b = some o) → Q none { s with heap := h', toks := tk }) → wpAny (model prog w) A (pyNext (.ref I)) Q noErr s
  self : ∀ i (s : Shared) (Q : Value → Shared → Prop), St i s.heap → Q (.ref I) s → wpAny (model prog w) A (pyIter (.ref I)) Q noErr s
theorem Pull.name {env : Env} {x : Str} {px : Pos} {I : Addr} {fp wr : List Addr} {n : Nat} {P : Nat → Value → Prop} {St : Nat → Heap → Prop} (W : Walks prog w A I fp wr n P St) (hx : env.kindOf x = some .local)
    (hp : (env.scope.kind == .class || (env.scope.kind == .module && env.locals != env.globals)) = false) (hC : env.locals ∉ fp) :
    Pull w A env (.Name x px) env.locals I fp wr n (fun i m m' => ∃ v, P i v ∧ m' = setM m x (some v)) St where
  sub := W.sub
  frame := W.frame
  item := fun i s m Q hi st hn hQ => W.item i s _ _ hi st fun v h' tk hP st' k => by
    have hw : ∀ b ∈ wr, b ≠ env.locals := fun b hb e => hC (e ▸ W.sub b hb)
    refine ⟨v, rfl, wpAny_of_eq (rfl : letOwnedTupleGo (.Name x px) (.ref I) v = pure ()) (wpAny_assign_Name (wpAny_storeName_local hx (hn.at' fun o e => k _ o (fun q => hw _ q rfl) e) (fun h₂ hn₂ hs₂ => ?_) hp))⟩
    exact hQ _ _ _ ⟨v, hP, rfl⟩ hn₂ (W.frame _ _ _ st' fun b hb o e => hs₂.extBut b o (fun q => hC (q ▸ hb)) e) fun b o a1 a2 e => hs₂.extBut b o a1 (k b o a2 e)
  done := fun s Q st h => W.done s Q _ st h
  self := fun i s Q st h => W.self i s Q _ st h
theorem Pull.pair {env : Env} {a b : Str} {pa pb tp : Pos} {tk0 : Nat} {I : Addr} {fp wr : List Addr} {n : Nat} {Pt : Nat → Array Value → Prop} {St : Nat → Heap → Prop} {Mid : Nat → Addr → Heap → Prop} (W : WalksT prog w A I fp wr n Pt St Mid) (hh : A.handled = none)
    (ha : env.kindOf a = some .local) (hb : env.kindOf b = some .local) (hp : (env.scope.kind == .class || (env.scope.kind == .module && env.locals != env.globals)) = false) (hC : env.locals ∉ fp)
    (hPt : ∀ i vals, Pt i vals → ∃ v1 v2, vals = #[v1, v2]) :
    Pull w A env (.Tuple [.Name a pa, .Name b pb] tk0 tp) env.locals I fp wr n (fun i m m' => ∃ v1 v2, Pt i #[v1, v2] ∧ m' = setM (setM m a (some v1)) b (some v2)) St where
  sub := W.sub
  frame := W.frame
  item := fun i s m Q hi st hn hQ => W.item i s _ _ hi st fun T vals h' tk hP hTs hT mid k => by
    have hw : ∀ b ∈ wr, b ≠ env.locals := fun b hb e => hC (e ▸ W.sub b hb)
    obtain ⟨v1, v2, rfl⟩ := hPt _ _ hP
    refine ⟨.ref T, rfl, W.go _ _ _ i T _ _ _ mid fun h₃ st₃ k₃ => ?_⟩
    have hTw := W.apart _ _ _ mid
    have hT₃ : h₃.IsTuple T #[v1, v2] := by obtain ⟨o, ho, r⟩ := hT; exact ⟨o, k₃ _ _ hTw ho, r⟩
    refine assign_pair (env := env) hh hT₃ ((hn.at' fun o e => k _ o (fun q => hw _ q rfl) e).at' fun o e => k₃ _ o (fun q => hw _ q rfl) e) ha hb hp fun h₄ tk₄ hn₄ k₄ => ?_
    exact hQ _ _ _ ⟨v1, v2, hP, rfl⟩ hn₄ (W.frame _ _ _ st₃ fun b hb o e => k₄ b o (fun q => hC (q ▸ hb)) e) fun b o a1 a2 e => k₄ b o a1 (k₃ b o a2 (k b o a2 e))
  done := fun s Q st h => W.done s Q _ st h
  self := fun i s Q st h => W.self i s Q _ st h
theorem own_of {h : Heap} : ∀ (wr : List Addr), (∀ b ∈ wr, ∃ o, h.get? b = some o) → ∃ own : List (Addr × Obj), own.map (·.1) = wr ∧ ∀ p ∈ own, h.get? p.1 = some p.2
  | [], _ => ⟨[], rfl, fun _ h => nomatch h⟩
  | b :: wr, hb => by
    obtain ⟨o, ho⟩ := hb b (.head _)
    obtain ⟨own, e, ho'⟩ := own_of wr fun c hc => hb c (.tail _ hc)
    refine ⟨(b, o) :: own, by rw [List.map_cons, e], fun p hp => ?_⟩
    rcases List.mem_cons.mp hp with rfl | hp
    · exact ho
    · exact ho' p hp
/-- one turn of a comprehension -/
def lcTurn (target iter : PySem.Expr) (ifs : List PySem.Expr) (it : Value) (env : Env) (em ag : Sem Fin) : Sem Fin := do
  standAt iter.pos
  match ← pyNext it with
  | none => pure (.done .next)
  | some v =>
    letOwnedTupleGo target it v
    assign target env v
    let ok ← lcTests ifs env
    if ok then em else ag
theorem comp_loopE {elt target iter : PySem.Expr} {gens : List Comprehension} {scope : Scope} {pos : Pos} {ifs : List PySem.Expr} {d : Nat} {it acc : Value} {env : Env} {em : Sem Fin} {EM : (Shared → Prop) → Shared → Prop} {R : Result → Shared → Prop} {s : Shared} (he : compTurn (.ListComp elt gens scope pos) d it acc env = lcTurn target iter ifs it env em (again (.compLoop (.ListComp elt gens scope pos) d it acc env))) (hem : ∀ Q s, EM Q s → wpAny (model prog w) A em (fun fin s' => fin = .again (.compLoop (.ListComp elt gens scope pos) d it acc env) ∧ Q s') noErr s) (J : Nat → Shared → Prop)
    (turn : ∀ n s, J n s → wpAny (model prog w) A (pyNext it) (fun r s₁ => match r with
      | none => R (.ok .next) s₁
      | some v => wpAny (model prog w) A (letOwnedTupleGo target it v) (fun _ s₁ => wpAny (model prog w) A (assign target env v) (fun _ s₂ => wpAny (model prog w) A (lcTests ifs env) (fun ok s₃ =>
          if ok = true then EM (fun s₅ => ∃ m, m < n ∧ J m s₅) s₃
          else ∃ m, m < n ∧ J m s₃) noErr s₂) noErr s₁) noErr s₁) noErr s)
    (n : Nat) (h : J n s) : codeAny (model prog w) A (.compLoop (.ListComp elt gens scope pos) d it acc env) R s := by
  refine codeAny_loop rfl J (fun n s hI => ?_) n h
  show wpAny _ A ((compTurn (.ListComp elt gens scope pos) d it acc env).onRaise (fun x => do noteFrame x env; theTreesLotGoes x)) _ _ s
  refine wpAny_noted ?_
  rw [he]
  unfold lcTurn
  refine wpAny_bind (wpAny_standAt (wpAny_bind (wpAny_mono (turn n s hI) (fun r s₁ h₁ => ?_) fun _ _ z => z.elim)))
  cases r with
  | none => exact wpAny_pure h₁
  | some v =>
    refine wpAny_bind (wpAny_mono h₁ (fun _ s₁ h₁ => wpAny_bind (wpAny_mono h₁ (fun _ s₂ h₂ => wpAny_bind (wpAny_mono h₂ (fun ok s₃ h₃ => ?_) fun _ _ z => z.elim)) fun _ _ z => z.elim)) fun _ _ z => z.elim)
    cases ok with
    | false => exact wpAny_pure ⟨rfl, h₃⟩
    | true =>
      refine wpAny_mono (hem _ _ h₃) (fun fin s₅ h₅ => ?_) fun _ _ z => z.elim
      obtain ⟨rfl, h₅⟩ := h₅
      exact ⟨rfl, h₅⟩
section
variable {h₀ : Heap} {L C I : Addr} {m : Str → Option Value}
/-- the end of a turn: the comprehension's names, the iterator's own objects, and the rest of the ledger -/
abbrev CompAt (h₀ : Heap) (L C : Addr) (m : Str → Option Value) (wr : List Addr) (own : List (Addr × Obj)) (s s' : Shared) (J : (Str → Option Value) → Prop) (news : List (Addr × Obj)) : Prop :=
  Aft s s' ∧ Fr h₀ L s'.heap m ∧ (∃ oC m₂, J m₂ ∧ NsObj oC m₂ ∧ News h₀ L s'.heap ((C, oC) :: (own ++ news))) ∧ ∀ p ∈ news, p.1 ∉ wr ∧ p.1 ≠ C
theorem comp_K {elt target iter : PySem.Expr} {gens : List Comprehension} {scope : Scope} {pos : Pos} {ifs : List PySem.Expr} {d : Nat} {acc : Value} {cenv : Env} {em : Sem Fin} {EM : (Shared → Prop) → Shared → Prop} {R0 : Result → Shared → Prop} {s : Shared} {fp wr : List Addr} {B : Nat → (Str → Option Value) → (Str → Option Value) → Prop} {St : Nat → Heap → Prop}
    (he : compTurn (.ListComp elt gens scope pos) d (.ref I) acc cenv = lcTurn target iter ifs (.ref I) cenv em (again (.compLoop (.ListComp elt gens scope pos) d (.ref I) acc cenv)))
    (hem : ∀ Q s, EM Q s → wpAny (model prog w) A em (fun fin s' => fin = .again (.compLoop (.ListComp elt gens scope pos) d (.ref I) acc cenv) ∧ Q s') noErr s) (hmono : ∀ (Q Q' : Shared → Prop) s, (∀ s, Q s → Q' s) → EM Q s → EM Q' s)
    (J : (Str → Option Value) → Prop) (σ : Type) (W : σ → List (Addr × Obj)) (R : Nat → σ → Prop) (n : Nat) (hP : Pull w A cenv target C I fp wr n B St) (hO : ∀ i h, St i h → ∀ b ∈ wr, ∃ o, h.get? b = some o) (hC : C ∉ fp)
    (hsrc : ∀ b ∈ fp, b ∈ wr ∨ ∃ o, ∀ i st, R i st → (b, o) ∈ W st) (st0 : σ) (oC0 : Obj) (own0 : List (Addr × Obj)) (m0 : Str → Option Value)
    (hst : St 0 s.heap) (hR : R 0 st0) (F : Fr h₀ L s.heap m) (N : News h₀ L s.heap ((C, oC0) :: (own0 ++ W st0))) (hown : own0.map (·.1) = wr) (hns : NsObj oC0 m0) (hJ0 : J m0) (hdis : ∀ p ∈ W st0, p.1 ∉ wr ∧ p.1 ≠ C)
    (turn : ∀ i st own oC m₁ m₂ s', i < n → J m₁ → B i m₁ m₂ → R i st → Aft s s' → own.map (·.1) = wr → NsObj oC m₂ → Fr h₀ L s'.heap m → News h₀ L s'.heap ((C, oC) :: (own ++ W st)) → (∀ p ∈ W st, p.1 ∉ wr ∧ p.1 ≠ C) →
      wpAny (model prog w) A (lcTests ifs cenv) (fun ok s₃ => if ok = true then EM (fun s₄ => Held (∃ st', R (i + 1) st' ∧ CompAt h₀ L C m wr own s' s₄ J (W st'))) s₃ else Held (∃ st', R (i + 1) st' ∧ CompAt h₀ L C m wr own s' s₃ J (W st'))) noErr s')
    (fin : ∀ st oC m₂ s', R n st → J m₂ → Aft s s' → NsObj oC m₂ → Fr h₀ L s'.heap m → News h₀ L s'.heap ((C, oC) :: W st) → (∀ p ∈ W st, p.1 ≠ C) → R0 (.ok .next) s') :
    codeAny (model prog w) A (.compLoop (.ListComp elt gens scope pos) d (.ref I) acc cenv) R0 s := by
  refine comp_loopE he hem (fun k s' => ∃ i st own oC m₁, k = n + 1 - i ∧ i ≤ n ∧ own.map (·.1) = wr ∧ R i st ∧ Aft s s' ∧ J m₁ ∧ NsObj oC m₁ ∧ Fr h₀ L s'.heap m ∧ News h₀ L s'.heap ((C, oC) :: (own ++ W st)) ∧ (∀ p ∈ W st, p.1 ∉ wr ∧ p.1 ≠ C) ∧ St i s'.heap) ?_ (n + 1)
    ⟨0, st0, own0, oC0, m0, rfl, Nat.zero_le _, hown, hR, ⟨rfl, id, Nat.le_refl _⟩, hJ0, hns, F, N, hdis, hst⟩
  rintro k s' ⟨i, st, own, oC, m₁, rfl, hi, hown', hR', hA, hJ', hns', F', N', hdis', hst'⟩
  have NC := N' _ (.head _)
  have hLw : L ∉ wr := fun q => by
    rw [← hown'] at q
    obtain ⟨p, hp, e⟩ := List.mem_map.mp q
    exact (N' p (.tail _ (List.mem_append_left _ hp))).2.1 e
  have h0w : ∀ b o, h₀.get? b = some o → b ≠ C ∧ b ∉ wr := fun b o e => by
    refine ⟨fun q => ?_, fun q => ?_⟩
    · rw [q, NC.2.2] at e; cases e
    · rw [← hown'] at q
      obtain ⟨p, hp, e'⟩ := List.mem_map.mp q
      have := (N' p (.tail _ (List.mem_append_left _ hp))).2.2
      rw [e', e] at this; cases this
  by_cases hlt : i < n
  · refine wpAny_mono (hP.item i s' m₁ (fun s₂ => wpAny (model prog w) A (lcTests ifs cenv) (fun ok s₃ =>
          if ok = true then EM (fun s₅ => ∃ m', m' < n + 1 - i ∧ ∃ i st own oC m₁, m' = n + 1 - i ∧ i ≤ n ∧ own.map (·.1) = wr ∧ R i st ∧ Aft s s₅ ∧ J m₁ ∧ NsObj oC m₁ ∧ Fr h₀ L s₅.heap m ∧ News h₀ L s₅.heap ((C, oC) :: (own ++ W st)) ∧ (∀ p ∈ W st, p.1 ∉ wr ∧ p.1 ≠ C) ∧ St i s₅.heap) s₃
          else ∃ m', m' < n + 1 - i ∧ ∃ i st own oC m₁, m' = n + 1 - i ∧ i ≤ n ∧ own.map (·.1) = wr ∧ R i st ∧ Aft s s₃ ∧ J m₁ ∧ NsObj oC m₁ ∧ Fr h₀ L s₃.heap m ∧ News h₀ L s₃.heap ((C, oC) :: (own ++ W st)) ∧ (∀ p ∈ W st, p.1 ∉ wr ∧ p.1 ≠ C) ∧ St i s₃.heap) noErr s₂)
      hlt hst' (hns'.ns NC.1) fun h₁ tk₁ m₂ hB hn₁ st₁ k₁ => ?_) (fun r s₁ hr => by obtain ⟨v, rfl, hr⟩ := hr; exact hr) fun _ _ z => z
    obtain ⟨oC', hC', hns₂⟩ := ns_obj hn₁
    obtain ⟨own', hown₂, hown₃⟩ := own_of wr (hO _ _ st₁)
    have F₁ : Fr h₀ L h₁ m := ⟨F'.ns.at' fun o e => k₁ _ o (fun q => NC.2.1 q.symm) hLw e, fun b o e => k₁ b o (h0w b o e).1 (h0w b o e).2 (F'.keep b o e), F'.above⟩
    have hwrN : ∀ b ∈ wr, b ≠ L ∧ h₀.get? b = none := fun b hb => by
      rw [← hown'] at hb
      obtain ⟨p, hp, rfl⟩ := List.mem_map.mp hb
      exact (N' p (.tail _ (List.mem_append_left _ hp))).2
    have N₁ : News h₀ L h₁ ((C, oC') :: (own' ++ W st)) := fun q hq => by
      rcases List.mem_cons.mp hq with rfl | hq
      · exact ⟨hC', NC.2⟩
      · rcases List.mem_append.mp hq with hq | hq
        · exact ⟨hown₃ q hq, hwrN _ (hown₂ ▸ List.mem_map_of_mem hq)⟩
        · have := N' q (.tail _ (List.mem_append_right _ hq))
          exact ⟨k₁ _ _ (hdis' q hq).2 (hdis' q hq).1 this.1, this.2⟩
    have fin' : ∀ s₄ : Shared, (∃ st', R (i + 1) st' ∧ CompAt h₀ L C m wr own' { s' with heap := h₁, toks := tk₁ } s₄ J (W st')) →
        ∃ m', m' < n + 1 - i ∧ ∃ i st own oC m₁, m' = n + 1 - i ∧ i ≤ n ∧ own.map (·.1) = wr ∧ R i st ∧ Aft s s₄ ∧ J m₁ ∧ NsObj oC m₁ ∧ Fr h₀ L s₄.heap m ∧ News h₀ L s₄.heap ((C, oC) :: (own ++ W st)) ∧ (∀ p ∈ W st, p.1 ∉ wr ∧ p.1 ≠ C) ∧ St i s₄.heap := by
      rintro s₄ ⟨st', hR₄, hA₄, F₄, ⟨oC₄, m₄, hJ₄, hns₄, N₄⟩, hd₄⟩
      refine ⟨n + 1 - (i + 1), by omega, i + 1, st', own', oC₄, m₄, rfl, hlt, hown₂, hR₄, hA.trans ⟨hA₄.os, hA₄.gens, hA₄.size⟩, hJ₄, hns₄, F₄, N₄, hd₄, hP.frame _ _ _ st₁ fun b hb o eb => ?_⟩
      rcases hsrc b hb with hbw | ⟨ob, hob⟩
      · rw [← hown₂] at hbw
        obtain ⟨p, hp, rfl⟩ := List.mem_map.mp hbw
        rw [hown₃ p hp] at eb
        cases eb
        exact (N₄ p (.tail _ (List.mem_append_left _ hp))).1
      · have e1 := (N₁ _ (.tail _ (List.mem_append_right _ (hob i st hR')))).1
        dsimp only at e1
        rw [e1] at eb
        cases eb
        exact (N₄ _ (.tail _ (List.mem_append_right _ (hob _ st' hR₄)))).1
    refine wpAny_mono (turn i st own' oC' m₁ m₂ _ hlt hJ' hB hR' ⟨hA.os, hA.gens, hA.size⟩ hown₂ hns₂ F₁ N₁ hdis') (fun ok s₃ h₃ => ?_) fun _ _ z => z
    cases ok with
    | false => rw [if_neg (by decide)] at h₃ ⊢; exact fin' _ h₃
    | true => rw [if_pos rfl] at h₃ ⊢; exact hmono _ _ _ (fun s₄ h₄ => fin' _ h₄) h₃
  · obtain rfl : i = n := by omega
    refine hP.done s' _ hst' fun h₁ tk₁ k₁ => ?_
    have hCw : C ∉ wr := fun q => hC (hP.sub _ q)
    refine fin st oC m₁ _ hR' hJ' ⟨hA.os, hA.gens, hA.size⟩ hns' ⟨F'.ns.at' fun o e => k₁ _ o hLw e, fun b o e => k₁ b o (h0w b o e).2 (F'.keep b o e), F'.above⟩ (fun q hq => ?_) fun p hp => (hdis' p hp).2
    rcases List.mem_cons.mp hq with rfl | hq
    · exact ⟨k₁ _ _ hCw NC.1, NC.2⟩
    · have := N' q (.tail _ (List.mem_append_right _ hq))
      exact ⟨k₁ _ _ (hdis' q hq).1 this.1, this.2⟩
end
end
end
-- S65
section
open PyProof.Rows.LCg (NsObj ns_obj)
set_option maxHeartbeats 4000000
section
variable {w : World} {A : Around} {E : Value → Shared → Prop} {s : Shared} {env : Env} {h₀ : Heap} {L : Addr} {m : Str → Option Value}
theorem turn_one (elt t0 i0 : PySem.Expr) (ifs0 : List PySem.Expr) (scope : Scope) (pos : Pos) (it acc : Value) (cenv : Env) :
    compTurn (.ListComp elt [⟨t0, i0, ifs0, 0⟩] scope pos) 0 it acc cenv = lcTurn t0 i0 ifs0 it cenv (do (do let _ ← call (.builtin "list.append") [acc, ← eval elt cenv]); again (.compLoop (.ListComp elt [⟨t0, i0, ifs0, 0⟩] scope pos) 0 it acc cenv)) (again (.compLoop (.ListComp elt [⟨t0, i0, ifs0, 0⟩] scope pos) 0 it acc cenv)) := by
  unfold compTurn lcTurn
  rfl
/-- the entry of a list comprehension, up to its loop -/
theorem comp_core {elt target iter : PySem.Expr} {ifs : List PySem.Expr} {rest : List Comprehension} {scope : Scope} {cl : List (Str × Addr)} {pos p0 : Pos} {use : Option (Value → Sem Unit)} {Q : Value → Shared → Prop}
    (hclos : closureFor scope env = pure cl) (hcell : ∀ y ∈ scope.names, y.2 ≠ .cell) (hkind : scope.kind = .function) (hnames : ∀ y ∈ scope.names, y.2 = .local → scope.names.lookup y.1 = some .local)
    (h : wpAny (model prog w) A (eval iter env) (fun xv s₁ => wpAny (model prog w) A (pyIter xv) (fun it s₂ => ∃ I news, it = .ref I ∧ Fr h₀ L s₂.heap m ∧ News h₀ L s₂.heap news ∧
      ∀ (D C : Addr) (oC : Obj) (m₀ : Str → Option Value) (h₁ : Heap) (tk : Tok), Fr h₀ L h₁ m → News h₀ L h₁ ((C, oC) :: (D, listOf #[] 0) :: news) → NsObj oC m₀ → (∀ b o, s₂.heap.get? b = some o → h₁.get? b = some o) → (∀ b, b < s₂.heap.objs.size → b < D) → D < C →
        wpAny (model prog w) A (pyIter (.ref I)) (fun it' s₃ => it' = .ref I ∧ s₃ = { s₂ with heap := h₁, toks := tk }) noErr { s₂ with heap := h₁, toks := tk } ∧
        codeAny (model prog w) A (.compLoop (.ListComp elt (⟨target, iter, ifs, 0⟩ :: rest) scope pos) 0 (.ref I) (.ref D) (compEnvC scope cl C env)) (compPost (model prog w) A E use Q (.ref D) C) { s₂ with heap := h₁, toks := tk }) E s₁) E s)
    (hs : ∀ x, foldedSetIterable iter env x = pure x) :
    wpAny (model prog w) A (comprehension (.ListComp elt (⟨target, iter, ifs, 0⟩ :: rest) scope pos) scope env p0 (newList []) false (eval iter env) use) Q E s := by
  refine wpAny_comprehension_free (use := use) rfl hs hclos hkind hnames (wpAny_mono h (fun xv s₁ h₁ => wpAny_mono h₁ (fun it s₂ h₂ => ?_) fun _ _ e => e) fun _ _ e => e)
  obtain ⟨I, news, rfl, F, N, h₂⟩ := h₂
  refine wpAny_newObj_type (wpAny_newFunctionEnv hcell (by intro y hy; simp at hy) (fun h₁ hns₁ hsb₁ => ?_) hkind)
  dsimp only at hns₁ hsb₁ ⊢
  have hC : (s₂.heap.push { cls := .type "list", dict := none, data := .seq ([] : List Value).toArray }).objs.size = s₂.heap.objs.size + 1 := Heap.size_push ..
  rw [hC] at hns₁ hsb₁ ⊢
  have old : ∀ b o, s₂.heap.get? b = some o → h₁.get? b = some o := fun b o e => hsb₁.extBut b o (Nat.ne_of_lt (Nat.lt_succ_of_lt (Heap.lt_size e))) (Heap.get?_push_of_some _ (Heap.get?_push_of_some _ e))
  have hD : h₁.get? s₂.heap.objs.size = some (listOf #[] 0) := hsb₁.extBut _ _ (Nat.ne_of_lt (Nat.lt_succ_self _)) (Heap.get?_push_of_some _ (Heap.get?_push_size _ rfl))
  obtain ⟨oC, hoC, hnC⟩ := ns_obj hns₁
  have hLs := F.ns.lt
  have new : ∀ a, s₂.heap.objs.size ≤ a → a ≠ L ∧ h₀.get? a = none := fun a ha => ⟨Nat.ne_of_gt (Nat.lt_of_lt_of_le hLs ha), Heap.get?_none_of_le (Nat.le_trans F.above (Nat.le_trans (Nat.le_of_lt hLs) ha))⟩
  obtain ⟨hself, loop⟩ := h₂ s₂.heap.objs.size (s₂.heap.objs.size + 1) oC _ h₁ (s₂.toks + ([] : List (Str × Value)).length) (F.keeps old) (fun q hq => by
    rcases List.mem_cons.mp hq with rfl | hq
    · exact ⟨hoC, new _ (Nat.le_succ _)⟩
    · rcases List.mem_cons.mp hq with rfl | hq
      · exact ⟨hD, new _ (Nat.le_refl _)⟩
      · exact ⟨old _ _ (N q hq).1, (N q hq).2⟩) hnC old (fun b hb => hb) (Nat.lt_succ_self _)
  exact codeAny_compStart_list loop (wpAny_mono hself (fun it' s' e => by obtain ⟨rfl, rfl⟩ := e; exact loop) fun _ _ z => z.elim)
/-- what a comprehension with one clause needs behind its iterator's making -/
abbrev CompOne (w : World) (A : Around) (s : Shared) (h₀ : Heap) (L : Addr) (m : Str → Option Value) (env : Env) (elt target : PySem.Expr) (ifs : List PySem.Expr) (scope : Scope) (cl : List (Str × Addr)) (Fin : Value → Shared → List (Addr × Obj) → Prop) (it : Value) (s₂ : Shared) : Prop :=
  ∃ (σ : Type) (W : σ → List (Addr × Obj)) (R : Nat → σ → Array Value → Prop) (n : Nat) (fp wr : List Addr) (B : Nat → (Str → Option Value) → (Str → Option Value) → Prop) (St : Nat → Heap → Prop) (I : Addr) (own : List (Addr × Obj)) (st0 : σ),
    it = .ref I ∧ (∀ C, C ∉ fp → Pull w A (compEnvC scope cl C env) target C I fp wr n B St) ∧ (∀ i h, St i h → ∀ b ∈ wr, ∃ o, h.get? b = some o) ∧ (∀ b ∈ fp, b < s₂.heap.objs.size) ∧ (∀ b ∈ fp, b ∈ wr ∨ ∃ o, ∀ i st ys, R i st ys → (b, o) ∈ W st) ∧
    St 0 s₂.heap ∧ Aft s s₂ ∧ Fr h₀ L s₂.heap m ∧ News h₀ L s₂.heap (own ++ W st0) ∧ own.map (·.1) = wr ∧ R 0 st0 #[] ∧ (∀ p ∈ W st0, p.1 ∉ wr) ∧ (∀ i st ys, R i st ys → ys.size ≤ 1000) ∧
    (∀ i st ys c D C own oC m₁ m₂ s', i < n → B i m₁ m₂ → R i st ys → Aft s s' → own.map (·.1) = wr → NsObj oC m₂ → Fr h₀ L s'.heap m → News h₀ L s'.heap ((C, oC) :: (own ++ (D, listOf ys c) :: W st)) → (∀ p ∈ W st, p.1 ∉ wr ∧ p.1 ≠ C ∧ p.1 ≠ D) → D ∉ wr → D ≠ C →
      wpAny (model prog w) A (lcTests ifs (compEnvC scope cl C env)) (fun ok s₃ =>
        if ok = true then wpAny (model prog w) A (eval elt (compEnvC scope cl C env)) (fun y s₄ => Held (∃ st', R (i + 1) st' (ys.push y) ∧ CompAt h₀ L C m wr own s' s₄ (fun _ => True) ((D, listOf ys c) :: W st') ∧ ∀ p ∈ W st', p.1 ≠ D)) noErr s₃
        else Held (∃ st', R (i + 1) st' ys ∧ CompAt h₀ L C m wr own s' s₃ (fun _ => True) ((D, listOf ys c) :: W st') ∧ ∀ p ∈ W st', p.1 ≠ D)) noErr s') ∧
    (∀ D c st ys s', R n st ys → Aft s s' → Fr h₀ L s'.heap m → News h₀ L s'.heap ((D, listOf ys c) :: W st) → (∀ p ∈ W st, p.1 ≠ D) → (∀ b o, s₂.heap.get? b = some o → b < D) → Fin (.ref D) s' ((D, listOf ys c) :: W st))
theorem one_core {elt target iter : PySem.Expr} {ifs : List PySem.Expr} {scope : Scope} {cl : List (Str × Addr)} {pos p0 : Pos} {use : Option (Value → Sem Unit)} {Q : Value → Shared → Prop} {Fin : Value → Shared → List (Addr × Obj) → Prop}
    (hclos : closureFor scope env = pure cl) (hcell : ∀ y ∈ scope.names, y.2 ≠ .cell) (hkind : scope.kind = .function) (hnames : ∀ y ∈ scope.names, y.2 = .local → scope.names.lookup y.1 = some .local)
    (h : wpAny (model prog w) A (eval iter env) (fun xv s₁ => wpAny (model prog w) A (pyIter xv) (fun it s₂ => Held (CompOne w A s h₀ L m env elt target ifs scope cl Fin it s₂)) E s₁) E s)
    (hfin : ∀ D C oC m₂ news s', Aft s s' → NsObj oC m₂ → Fr h₀ L s'.heap m → News h₀ L s'.heap ((C, oC) :: news) → (∀ p ∈ news, p.1 ≠ C) → (∀ s'', Aft s s'' → Fr h₀ L s''.heap m → News h₀ L s''.heap news → Fin (.ref D) s'' news) → compPost (model prog w) A E use Q (.ref D) C (.ok .next) s')
    (hs : ∀ x, foldedSetIterable iter env x = pure x) :
    wpAny (model prog w) A (comprehension (.ListComp elt [⟨target, iter, ifs, 0⟩] scope pos) scope env p0 (newList []) false (eval iter env) use) Q E s := by
  refine comp_core (h₀ := h₀) (L := L) (m := m) hclos hcell hkind hnames (wpAny_mono h (fun xv s₁ h₁ => wpAny_mono h₁ (fun it s₂ h₂ => ?_) fun _ _ e => e) fun _ _ e => e) hs
  obtain ⟨σ, W, R, n, fp, wr, B, St, I, own, st0, rfl, hP, hO, hfp, hsrc, hst, hA, F, N, hown, hR, hdis, hsz, turn, fin⟩ := (h₂ : CompOne _ _ _ _ _ _ _ _ _ _ _ _ _ _ _)
  refine ⟨I, own ++ W st0, rfl, F, N, fun D C oC m₀ h₁ tk F₁ N₁ hns k₁ hlt hDC => ?_⟩
  have hCfp : C ∉ fp := fun q => Nat.lt_irrefl _ (Nat.lt_trans hDC (hlt _ (hfp _ q)))
  have hDfp : D ∉ fp := fun q => Nat.lt_irrefl _ (hlt _ (hfp _ q))
  have P := hP C hCfp
  have hst₁ : St 0 h₁ := P.frame _ _ _ hst fun b _ o e => k₁ b o e
  have hwD : ∀ p ∈ W st0, p.1 < D := fun p hp => hlt _ (Heap.lt_size (N p (List.mem_append_right _ hp)).1)
  refine ⟨P.self 0 _ _ hst₁ ⟨rfl, rfl⟩, ?_⟩
  refine comp_K (h₀ := h₀) (L := L) (m := m) (EM := fun Q s => wpAny (model prog w) A (do let _ ← call (.builtin "list.append") [.ref D, ← eval elt (compEnvC scope cl C env)]) (fun _ s' => Q s') noErr s) (turn_one _ _ _ _ _ _ _ _ _) (fun Q s hq => wpAny_bind (wpAny_mono hq (fun _ _ h => wpAny_pure ⟨rfl, h⟩) fun _ _ z => z)) (fun Q Q' s k hq => wpAny_mono hq (fun _ _ h => k _ h) fun _ _ z => z) (fun _ => True) (σ × Array Value × Nat) (fun st => (D, listOf st.2.1 st.2.2) :: W st.1) (fun i st => R i st.1 st.2.1 ∧ ∀ p ∈ W st.1, p.1 ≠ D) n P hO hCfp ?_ (st0, #[], 0) oC own m₀ hst₁ ⟨hR, fun p hp => Nat.ne_of_lt (hwD p hp)⟩ F₁ (fun q hq => N₁ q ?_) hown hns trivial ?_ ?_ ?_
  · intro b hb
    rcases hsrc b hb with hb | ⟨o, ho⟩
    · exact .inl hb
    · exact .inr ⟨o, fun i st hR => .tail _ (ho i _ _ hR.1)⟩
  · simp only [List.mem_cons, List.mem_append] at hq ⊢
    grind
  · intro p hp
    rcases List.mem_cons.mp hp with rfl | hp
    · exact ⟨fun q => hDfp (P.sub _ q), Nat.ne_of_lt hDC⟩
    · exact ⟨hdis p hp, Nat.ne_of_lt (Nat.lt_trans (hwD p hp) hDC)⟩
  · rintro i ⟨st, ys, c⟩ own' oC' m₁ m₂ s' hi _ hB ⟨hR', hWD⟩ hA' hown' hns' F' N' hd
    dsimp only at hR' hWD N' hd
    refine wpAny_mono (turn i st ys c D C own' oC' m₁ m₂ s' hi hB hR' (hA.trans ⟨hA'.os, hA'.gens, hA'.size⟩) hown' hns' F' N' (fun p hp => ⟨(hd p (.tail _ hp)).1, (hd p (.tail _ hp)).2, hWD p hp⟩) (fun q => hDfp (P.sub _ q)) (Nat.ne_of_lt hDC)) (fun ok s₃ h₃ => ?_) fun _ _ z => z
    cases ok with
    | false =>
      rw [if_neg (by decide)] at h₃ ⊢
      obtain ⟨st', hR₃, hC₃, hW₃⟩ := (h₃ : ∃ st', _)
      exact Held.mk ⟨(st', ys, c), ⟨hR₃, hW₃⟩, hC₃⟩
    | true =>
      rw [if_pos rfl] at h₃ ⊢
      refine wpAny_bind (wpAny_mono h₃ (fun y s₄ h₄ => ?_) fun _ _ z => z)
      obtain ⟨st', hR₃, ⟨hA₃, F₃, ⟨oC₃, m₃, _, hns₃, N₃⟩, hd₃⟩, hW₃⟩ := (h₄ : ∃ st', _)
      have ND := N₃ _ (.tail _ (List.mem_append_right _ (.head _)))
      have hsz' := hsz _ _ _ hR'
      refine wpAny_bind (wpAny_list_append_plain (items := ys) ⟨c, ND.1⟩ (fun h₅ hl₅ hs₅ => wpAny_pure (Held.mk ?_)) (by rw [sizeLine_eq]; omega))
      obtain ⟨c', hD₅⟩ := hl₅
      refine ⟨(st', ys.push y, c'), ⟨hR₃, hW₃⟩, ⟨hA₃.os, hA₃.gens, hA₃.size⟩, ⟨F₃.ns.at' fun o e => hs₅.extBut _ _ (fun q => ND.2.1 q.symm) e, fun b o e => hs₅.extBut _ _ (fun q => by rw [q, ND.2.2] at e; cases e) (F₃.keep b o e), F₃.above⟩, ⟨oC₃, m₃, trivial, hns₃, fun q hq => ?_⟩, fun p hp => ?_⟩
      · rcases List.mem_cons.mp hq with rfl | hq
        · have := N₃ _ (.head _)
          exact ⟨hs₅.extBut _ _ (Nat.ne_of_gt hDC) this.1, this.2⟩
        · rcases List.mem_append.mp hq with hq | hq
          · have := N₃ q (.tail _ (List.mem_append_left _ hq))
            refine ⟨hs₅.extBut _ _ (fun z => ?_) this.1, this.2⟩
            exact hDfp (P.sub _ (hown' ▸ z ▸ List.mem_map_of_mem hq))
          · rcases List.mem_cons.mp hq with rfl | hq
            · exact ⟨hD₅, ND.2⟩
            · have := N₃ q (.tail _ (List.mem_append_right _ (.tail _ hq)))
              exact ⟨hs₅.extBut _ _ (hW₃ q hq) this.1, this.2⟩
      · rcases List.mem_cons.mp hp with rfl | hp
        · exact ⟨fun q => hDfp (P.sub _ q), Nat.ne_of_lt hDC⟩
        · exact hd₃ p (.tail _ hp)
  · rintro ⟨st, ys, c⟩ oC' m₂ s' ⟨hR', hWD⟩ _ hA' hns' F' N' hd
    exact hfin D C oC' m₂ _ s' (hA.trans ⟨hA'.os, hA'.gens, hA'.size⟩) hns' F' N' hd fun s'' hA'' F'' N'' => fin D c st ys s'' hR' hA'' F'' N'' hWD fun b o e => hlt b (Heap.lt_size e)
theorem comp_one {elt target iter : PySem.Expr} {ifs : List PySem.Expr} {scope : Scope} {cl : List (Str × Addr)} {pos : Pos} {Q : Value → Shared → Prop} (_F : Fr h₀ L s.heap m)
    (hclos : closureFor scope env = pure cl) (hcell : ∀ y ∈ scope.names, y.2 ≠ .cell) (hkind : scope.kind = .function) (hnames : ∀ y ∈ scope.names, y.2 = .local → scope.names.lookup y.1 = some .local)
    (h : wpAny (model prog w) A (eval iter env) (fun xv s₁ => wpAny (model prog w) A (pyIter xv) (fun it s₂ => Held (CompOne w A s h₀ L m env elt target ifs scope cl (fun v s' _ => Q v s') it s₂)) E s₁) E s)
    (hs : ∀ x, foldedSetIterable iter env x = pure x := by intro _; rfl) :
    wpAny (model prog w) A (eval (.ListComp elt [⟨target, iter, ifs, 0⟩] scope pos) env) Q E s := by
  rw [eval_ListComp]
  refine one_core (Fin := fun v s' _ => Q v s') hclos hcell hkind hnames h (fun D C oC m₂ news s' hA hns F N hd k => ?_) hs
  have NC := N _ (.head _)
  refine ⟨m₂, hns.ns NC.1, fun h' hs' => k _ ⟨hA.os, hA.gens, hA.size⟩ ⟨F.ns.at' fun o e => hs'.extBut _ _ (fun q => NC.2.1 q.symm) e, fun b o e => hs'.extBut _ _ (fun q => by rw [q, NC.2.2] at e; cases e) (F.keep b o e), F.above⟩ fun q hq => ?_⟩
  have := N q (.tail _ hq)
  exact ⟨hs'.extBut _ _ (hd q hq) this.1, this.2⟩
theorem comp_oneA {elt target iter : PySem.Expr} {ifs : List PySem.Expr} {scope : Scope} {cl : List (Str × Addr)} {pos spos py : Pos} {y : Str} {Q : Flow → Shared → Prop} (_F : Fr h₀ L s.heap m)
    (hsw : swapsWith (.ListComp elt [⟨target, iter, ifs, 0⟩] scope pos) (some (.Name y py)) spos.line env = pure true) (hLe : env.locals = L) (hy : env.kindOf y = some .local) (hp : (env.scope.kind == .class || (env.scope.kind == .module && env.locals != env.globals)) = false)
    (hclos : closureFor scope env = pure cl) (hcell : ∀ y ∈ scope.names, y.2 ≠ .cell) (hkind : scope.kind = .function) (hnames : ∀ y ∈ scope.names, y.2 = .local → scope.names.lookup y.1 = some .local)
    (h : wpAny (model prog w) A (eval iter env) (fun xv s₁ => wpAny (model prog w) A (pyIter xv) (fun it s₂ => Held (CompOne w A s h₀ L m env elt target ifs scope cl (fun v s' news => ∀ s'', Aft s' s'' → Fr h₀ L s''.heap (setM m y (some v)) → News h₀ L s''.heap news → Q .next s'') it s₂)) E s₁) E s)
    (hs : ∀ x, foldedSetIterable iter env x = pure x := by intro _; rfl) :
    wpAny (model prog w) A (exec (.Assign [.Name y py] (.ListComp elt [⟨target, iter, ifs, 0⟩] scope pos) spos) env) Q E s := by
  subst hLe
  rw [exec_Assign_Name_used _ _ _ _ hsw]
  refine wpAny_bind (wpAny_standAt (wpAny_bind ?_))
  show wpAny _ A (do let _ ← comprehension (.ListComp elt [⟨target, iter, ifs, 0⟩] scope pos) scope env _ (newList []) false (eval iter env) (some (assign (.Name y py) env))) _ _ s
  refine wpAny_bind (wpAny_mono (one_core (use := some (assign (.Name y py) env)) (Q := fun _ s' => Q .next s') hclos hcell hkind hnames h (fun D C oC m₂ news s' hA hns F N hd k => ?_) hs) (fun _ s' hq => wpAny_pure (wpAny_pure hq)) fun _ _ e => e)
  have NC := N _ (.head _)
  show wpAny _ A (assign (.Name y py) env (.ref D)) _ _ _
  refine wpAny_assign_Name (wpAny_storeName_local hy F.ns (fun h₂ hn₂ hs₂ => ?_) hp)
  refine ⟨m₂, (hns.ns NC.1).at' fun o e => hs₂.extBut _ _ NC.2.1 e, fun h' hs' => ?_⟩
  have hLC : env.locals ≠ C := fun q => NC.2.1 q.symm
  have F₂ : Fr h₀ env.locals h₂ (setM m y (some (.ref D))) := F.set hn₂ hs₂
  have N₂ : News h₀ env.locals h₂ ((C, oC) :: news) := N.set hs₂
  refine k s' hA F (fun q hq => N q (.tail _ hq)) _ ⟨rfl, id, Nat.le_refl _⟩ ⟨F₂.ns.at' fun o e => hs'.extBut _ _ hLC e, fun b o e => hs'.extBut _ _ (fun q => by rw [q, NC.2.2] at e; cases e) (F₂.keep b o e), F₂.above⟩ fun q hq => ?_
  have := N₂ q (.tail _ hq)
  exact ⟨hs'.extBut _ _ (hd q hq) this.1, this.2⟩
end
end
-- S66
section
set_option maxHeartbeats 4000000
section
variable {w : World} {A : Around} {E : Value → Shared → Prop} {s : Shared} {env : Env} {h₀ : Heap} {L : Addr}
theorem wr_new {h : Heap} {news : List (Addr × Obj)} {wr : List Addr} {own : List (Addr × Obj)} (N : News h₀ L h (own ++ news)) (hown : own.map (·.1) = wr) : ∀ b ∈ wr, b ≠ L ∧ h₀.get? b = none := fun b hb => by
  rw [← hown] at hb
  obtain ⟨p, hp, rfl⟩ := List.mem_map.mp hb
  exact (N p (List.mem_append_left _ hp)).2
/-- what a for loop needs behind its iterator's making: the target's names lie in the frame -/
abbrev ForK (w : World) (A : Around) (E : Value → Shared → Prop) (s : Shared) (h₀ : Heap) (env : Env) (L : Addr) (target : PySem.Expr) (body : List Stmt) (Q : Flow → Shared → Prop) (it : Value) (s₂ : Shared) : Prop :=
  ∃ (σ : Type) (M : σ → Str → Option Value) (W : σ → List (Addr × Obj)) (R : Nat → σ → Prop) (n : Nat) (fp wr : List Addr) (B : Nat → (Str → Option Value) → (Str → Option Value) → Prop) (St : Nat → Heap → Prop) (I : Addr) (own : List (Addr × Obj)) (st0 : σ),
    it = .ref I ∧ Pull w A env target L I fp wr n B St ∧ (∀ i h, St i h → ∀ b ∈ wr, ∃ o, h.get? b = some o) ∧ (∀ b ∈ fp, b ∈ wr ∨ ∃ o, ∀ i st, R i st → (b, o) ∈ W st) ∧
    St 0 s₂.heap ∧ Aft s s₂ ∧ Fr h₀ L s₂.heap (M st0) ∧ News h₀ L s₂.heap (own ++ W st0) ∧ own.map (·.1) = wr ∧ R 0 st0 ∧ (∀ p ∈ W st0, p.1 ∉ wr) ∧
    (∀ i st own m₂ s', i < n → B i (M st) m₂ → R i st → Aft s s' → own.map (·.1) = wr → Fr h₀ L s'.heap m₂ → News h₀ L s'.heap (own ++ W st) → (∀ p ∈ W st, p.1 ∉ wr) →
      wpAny (model prog w) A (execs body env) (fun fl s₃ => Held (fl = .next ∧ ∃ st', R (i + 1) st' ∧ Aft s' s₃ ∧ Fr h₀ L s₃.heap (M st') ∧ News h₀ L s₃.heap (own ++ W st') ∧ ∀ p ∈ W st', p.1 ∉ wr)) E s') ∧
    (∀ st s', R n st → Aft s s' → Fr h₀ L s'.heap (M st) → News h₀ L s'.heap (W st) → Q .next s')
theorem for_K {target iter : PySem.Expr} {body : List Stmt} {pos : Pos} {Q : Flow → Shared → Prop} {m0 : Str → Option Value} (_F : Fr h₀ L s.heap m0)
    (h : wpAny (model prog w) A (eval iter env) (fun xv s₁ => wpAny (model prog w) A (pyIter xv) (fun it s₂ => Held (ForK w A E s h₀ env L target body Q it s₂)) E s₁) E s)
    (hs : ∀ x, foldedSetIterable iter env x = pure x := by intro _; rfl) (hE : PassesOwn (model prog w) A env E := by passes_own) :
    wpAny (model prog w) A (exec (.For target iter body [] pos) env) Q E s := by
  refine wpAny_For (wpAny_mono h (fun xv s₁ h₁ => wpAny_mono h₁ (fun it s₂ h₂ => ?_) fun _ _ z => z) fun _ _ z => z) hs
  obtain ⟨σ, M, W, R, n, fp, wr, B, St, I, own, st0, rfl, hP, hO, hsrc, hst, hA, F, N, hown, hR, hdis, turn, fin⟩ := (h₂ : ForK _ _ _ _ _ _ _ _ _ _ _ _)
  refine codeAny_forLoop_any (R := fun r s' => match r with | .ok f => Q f s' | .error e => cameBackBy (model prog w) A env E e s')
    (fun k s' => ∃ i st own, k = n + 1 - i ∧ i ≤ n ∧ own.map (·.1) = wr ∧ R i st ∧ Aft s s' ∧ Fr h₀ L s'.heap (M st) ∧ News h₀ L s'.heap (own ++ W st) ∧ (∀ p ∈ W st, p.1 ∉ wr) ∧ St i s'.heap) ?_ (n + 1) ⟨0, st0, own, rfl, Nat.zero_le _, hown, hR, hA, F, N, hdis, hst⟩
  rintro k s' ⟨i, st, own, rfl, hi, hown, hR, hA, F, N, hdis, hst⟩
  have hwn := wr_new N hown
  have hLw : L ∉ wr := fun q => (hwn _ q).1 rfl
  have h0w : ∀ b o, h₀.get? b = some o → b ∉ wr := fun b o e q => by rw [(hwn _ q).2] at e; cases e
  have h0L : ∀ b o, h₀.get? b = some o → b ≠ L := fun b o e q => by
    rw [q, Heap.get?_none_of_le F.above] at e; cases e
  by_cases hlt : i < n
  · refine wpAny_mono (hP.item i s' (M st) (fun s₂ => wpAny (model prog w) A (execs body env) (fun fl s₃ => match fl with
        | .next | .cont => ∃ k', k' < n + 1 - i ∧ ∃ i st own, k' = n + 1 - i ∧ i ≤ n ∧ own.map (·.1) = wr ∧ R i st ∧ Aft s s₃ ∧ Fr h₀ L s₃.heap (M st) ∧ News h₀ L s₃.heap (own ++ W st) ∧ (∀ p ∈ W st, p.1 ∉ wr) ∧ St i s₃.heap
        | .brk => Q .next s₃
        | .ret v => Q (.ret v) s₃) (notedBy (model prog w) A env fun e s' => cameBackBy (model prog w) A env E e s') s₂) hlt hst F.ns fun h₁ tk₁ m₂ hB hn₁ st₁ k₁ => ?_)
      (fun r s₁ hr => by obtain ⟨v, rfl, hr⟩ := hr; exact wpAny_mono hr (fun _ _ h2 => wpAny_mono h2 (fun _ _ h3 => h3) fun _ _ z => z.elim) fun _ _ z => z.elim) fun _ _ z => z.elim
    obtain ⟨own', hown₂, hown₃⟩ := own_of wr (hO _ _ st₁)
    have F₁ : Fr h₀ L h₁ m₂ := ⟨hn₁, fun b o e => k₁ b o (h0L b o e) (h0w b o e) (F.keep b o e), F.above⟩
    have N₁ : News h₀ L h₁ (own' ++ W st) := fun q hq => by
      rcases List.mem_append.mp hq with hq | hq
      · exact ⟨hown₃ q hq, hwn _ (hown₂ ▸ List.mem_map_of_mem hq)⟩
      · have := N q (List.mem_append_right _ hq)
        exact ⟨k₁ _ _ this.2.1 (hdis q hq) this.1, this.2⟩
    refine wpAny_passesOwn hE (wpAny_mono (turn i st own' m₂ _ hlt hB hR ⟨hA.os, hA.gens, hA.size⟩ hown₂ F₁ N₁ hdis) (fun fl s₃ hf => ?_) fun _ _ z => z)
    obtain ⟨rfl, st', hR₃, hA₃, F₃, N₃, hd₃⟩ := (hf : _ ∧ _)
    refine ⟨n + 1 - (i + 1), by omega, i + 1, st', own', rfl, hlt, hown₂, hR₃, hA.trans ⟨hA₃.os, hA₃.gens, hA₃.size⟩, F₃, N₃, hd₃, hP.frame _ _ _ st₁ fun b hb o eb => ?_⟩
    rcases hsrc b hb with hbw | ⟨ob, hob⟩
    · rw [← hown₂] at hbw
      obtain ⟨p, hp, rfl⟩ := List.mem_map.mp hbw
      rw [hown₃ p hp] at eb
      cases eb
      exact (N₃ p (List.mem_append_left _ hp)).1
    · have e1 := (N₁ _ (List.mem_append_right _ (hob i st hR))).1
      dsimp only at e1
      rw [e1] at eb
      cases eb
      exact (N₃ _ (List.mem_append_right _ (hob _ st' hR₃))).1
  · obtain rfl : i = n := by omega
    refine wpAny_mono (hP.done s' (fun r s₁ => r = none ∧ Q .next s₁) hst fun h₁ tk₁ k₁ => ⟨rfl, ?_⟩) (fun r s₁ hr => by obtain ⟨rfl, hr⟩ := hr; exact wpAny_execs_nil hr) fun _ _ z => z.elim
    exact fin st _ hR ⟨hA.os, hA.gens, hA.size⟩ ⟨F.ns.at' fun o e => k₁ _ o hLw e, fun b o e => k₁ b o (h0w b o e) (F.keep b o e), F.above⟩ fun q hq => by
      have := N q (List.mem_append_right _ hq)
      exact ⟨k₁ _ _ (hdis q hq) this.1, this.2⟩
/-- the same, its target a name that lies in a cell -/
abbrev ForC (w : World) (A : Around) (E : Value → Shared → Prop) (s : Shared) (h₀ : Heap) (env : Env) (L c : Addr) (body : List Stmt) (Q : Flow → Shared → Prop) (it : Value) (s₂ : Shared) : Prop :=
  ∃ (σ : Type) (M : σ → Str → Option Value) (W : σ → List (Addr × Obj)) (R : Nat → σ → Prop) (n : Nat) (fp wr : List Addr) (P : Nat → Value → Prop) (St : Nat → Heap → Prop) (I : Addr) (own : List (Addr × Obj)) (st0 : σ) (oc : Obj) (v0 : Option Value),
    it = .ref I ∧ Walks prog w A I fp wr n P St ∧ (∀ i h, St i h → ∀ b ∈ wr, ∃ o, h.get? b = some o) ∧ (∀ b ∈ fp, b ∈ wr ∨ ∃ o, ∀ i st, R i st → (b, o) ∈ W st) ∧ c ∉ fp ∧
    St 0 s₂.heap ∧ Aft s s₂ ∧ Fr h₀ L s₂.heap (M st0) ∧ News h₀ L s₂.heap ((c, oc) :: (own ++ W st0)) ∧ oc.data = .cell v0 ∧ own.map (·.1) = wr ∧ R 0 st0 ∧ (∀ p ∈ W st0, p.1 ∉ wr ∧ p.1 ≠ c) ∧
    (∀ i x st own oc s', i < n → P i x → R i st → Aft s s' → own.map (·.1) = wr → oc.data = .cell (some x) → Fr h₀ L s'.heap (M st) → News h₀ L s'.heap ((c, oc) :: (own ++ W st)) → (∀ p ∈ W st, p.1 ∉ wr ∧ p.1 ≠ c) →
      wpAny (model prog w) A (execs body env) (fun fl s₃ => Held (fl = .next ∧ ∃ st' oc' v', R (i + 1) st' ∧ Aft s' s₃ ∧ Fr h₀ L s₃.heap (M st') ∧ News h₀ L s₃.heap ((c, oc') :: (own ++ W st')) ∧ oc'.data = .cell v' ∧ ∀ p ∈ W st', p.1 ∉ wr ∧ p.1 ≠ c)) E s') ∧
    (∀ st oc v s', R n st → Aft s s' → Fr h₀ L s'.heap (M st) → News h₀ L s'.heap ((c, oc) :: W st) → oc.data = .cell v → (∀ p ∈ W st, p.1 ≠ c) → Q .next s')
theorem for_C {x : Str} {c : Addr} {iter : PySem.Expr} {body : List Stmt} {px pos : Pos} {Q : Flow → Shared → Prop} {m0 : Str → Option Value} (_F : Fr h₀ L s.heap m0) (hc : env.cells.lookup x = some c) (hx : env.kindOf x = some .cell) (hk : env.scope.kind = .function)
    (h : wpAny (model prog w) A (eval iter env) (fun xv s₁ => wpAny (model prog w) A (pyIter xv) (fun it s₂ => Held (ForC w A E s h₀ env L c body Q it s₂)) E s₁) E s)
    (hs : ∀ x, foldedSetIterable iter env x = pure x := by intro _; rfl) (hE : PassesOwn (model prog w) A env E := by passes_own) :
    wpAny (model prog w) A (exec (.For (.Name x px) iter body [] pos) env) Q E s := by
  refine for_k (fun I k s' => ∃ (σ : Type) (M : σ → Str → Option Value) (W : σ → List (Addr × Obj)) (R : Nat → σ → Prop) (n : Nat) (fp wr : List Addr) (P : Nat → Value → Prop) (St : Nat → Heap → Prop) (i : Nat) (st : σ) (own : List (Addr × Obj)) (oc : Obj) (v0 : Option Value),
    k = n + 1 - i ∧ i ≤ n ∧ Walks prog w A I fp wr n P St ∧ (∀ i h, St i h → ∀ b ∈ wr, ∃ o, h.get? b = some o) ∧ (∀ b ∈ fp, b ∈ wr ∨ ∃ o, ∀ i st, R i st → (b, o) ∈ W st) ∧ c ∉ fp ∧
    St i s'.heap ∧ Aft s s' ∧ Fr h₀ L s'.heap (M st) ∧ News h₀ L s'.heap ((c, oc) :: (own ++ W st)) ∧ oc.data = .cell v0 ∧ own.map (·.1) = wr ∧ R i st ∧ (∀ p ∈ W st, p.1 ∉ wr ∧ p.1 ≠ c) ∧
    (∀ i x st own oc s', i < n → P i x → R i st → Aft s s' → own.map (·.1) = wr → oc.data = .cell (some x) → Fr h₀ L s'.heap (M st) → News h₀ L s'.heap ((c, oc) :: (own ++ W st)) → (∀ p ∈ W st, p.1 ∉ wr ∧ p.1 ≠ c) →
      wpAny (model prog w) A (execs body env) (fun fl s₃ => Held (fl = .next ∧ ∃ st' oc' v', R (i + 1) st' ∧ Aft s' s₃ ∧ Fr h₀ L s₃.heap (M st') ∧ News h₀ L s₃.heap ((c, oc') :: (own ++ W st')) ∧ oc'.data = .cell v' ∧ ∀ p ∈ W st', p.1 ∉ wr ∧ p.1 ≠ c)) E s') ∧
    (∀ st oc v s', R n st → Aft s s' → Fr h₀ L s'.heap (M st) → News h₀ L s'.heap ((c, oc) :: W st) → oc.data = .cell v → (∀ p ∈ W st, p.1 ≠ c) → Q .next s')) ?_ ?_ hs hE
  · refine wpAny_mono h (fun xv s₁ h₁ => wpAny_mono h₁ (fun it s₂ h₂ => ?_) fun _ _ z => z) fun _ _ z => z
    obtain ⟨σ, M, W, R, n, fp, wr, P, St, I, own, st0, oc, v0, rfl, hW, hO, hsrc, hcf, hst, hA, F, N, hcd, hown, hR, hdis, turn, fin⟩ := (h₂ : ForC _ _ _ _ _ _ _ _ _ _ _ _)
    exact ⟨I, n + 1, rfl, σ, M, W, R, n, fp, wr, P, St, 0, st0, own, oc, v0, rfl, Nat.zero_le _, hW, hO, hsrc, hcf, hst, hA, F, N, hcd, hown, hR, hdis, turn, fin⟩
  · rintro I k s' ⟨σ, M, W, R, n, fp, wr, P, St, i, st, own, oc, v0, rfl, hi, hW, hO, hsrc, hcf, hst, hA, F, N, hcd, hown, hR, hdis, turn, fin⟩
    have Nc := N _ (.head _)
    have hcw : c ∉ wr := fun q => hcf (hW.sub _ q)
    have hwn := wr_new (fun q hq => N q (.tail _ hq)) hown
    have hLw : L ∉ wr := fun q => (hwn _ q).1 rfl
    have h0w : ∀ b o, h₀.get? b = some o → b ∉ wr := fun b o e q => by rw [(hwn _ q).2] at e; cases e
    have h0c : ∀ b o, h₀.get? b = some o → b ≠ c := fun b o e q => by rw [q, Nc.2.2] at e; cases e
    by_cases hlt : i < n
    · refine hW.item i _ _ _ hlt hst fun v h₁ tk₁ hv st₁ k₁ => ?_
      obtain ⟨own', hown₂, hown₃⟩ := own_of wr (hO _ _ st₁)
      dsimp only
      refine wpAny_storeName_cell (env := env) hk hx hc ⟨oc, k₁ _ _ hcw Nc.1, hcd⟩ fun h₂ hv₂ hs₂ => ?_
      obtain ⟨oc', hoc', hcd'⟩ := hv₂
      have k₂ : ∀ b o, b ≠ c → b ∉ wr → s'.heap.get? b = some o → h₂.get? b = some o := fun b o a1 a2 e => hs₂.extBut b o a1 (k₁ b o a2 e)
      have F₁ : Fr h₀ L h₂ (M st) := ⟨F.ns.at' fun o e => k₂ _ o (fun q => Nc.2.1 q.symm) hLw e, fun b o e => k₂ b o (h0c b o e) (h0w b o e) (F.keep b o e), F.above⟩
      have hown₄ : ∀ p ∈ own', h₂.get? p.1 = some p.2 := fun p hp => hs₂.extBut _ _ (fun q => hcw (q ▸ hown₂ ▸ List.mem_map_of_mem hp)) (hown₃ p hp)
      have N₁ : News h₀ L h₂ ((c, oc') :: (own' ++ W st)) := fun q hq => by
        rcases List.mem_cons.mp hq with rfl | hq
        · exact ⟨hoc', Nc.2⟩
        · rcases List.mem_append.mp hq with hq | hq
          · exact ⟨hown₄ q hq, hwn _ (hown₂ ▸ List.mem_map_of_mem hq)⟩
          · have := N q (.tail _ (List.mem_append_right _ hq))
            exact ⟨k₂ _ _ (hdis q hq).2 (hdis q hq).1 this.1, this.2⟩
      have st₂ : St (i + 1) h₂ := hW.frame _ _ _ st₁ fun b hb o e => hs₂.extBut b o (fun q => hcf (q ▸ hb)) e
      refine wpAny_mono (turn i v st own' oc' _ hlt hv hR ⟨hA.os, hA.gens, hA.size⟩ hown₂ hcd' F₁ N₁ hdis) (fun fl s₃ hf => ?_) fun _ _ z => z
      obtain ⟨rfl, st', oc₃, v₃, hR₃, hA₃, F₃, N₃, hcd₃, hd₃⟩ := (hf : _ ∧ _)
      refine ⟨n + 1 - (i + 1), by omega, σ, M, W, R, n, fp, wr, P, St, i + 1, st', own', oc₃, v₃, rfl, hlt, hW, hO, hsrc, hcf, hW.frame _ _ _ st₂ fun b hb o eb => ?_, hA.trans ⟨hA₃.os, hA₃.gens, hA₃.size⟩, F₃, N₃, hcd₃, hown₂, hR₃, hd₃, turn, fin⟩
      rcases hsrc b hb with hbw | ⟨ob, hob⟩
      · rw [← hown₂] at hbw
        obtain ⟨p, hp, rfl⟩ := List.mem_map.mp hbw
        rw [hown₄ p hp] at eb
        cases eb
        exact (N₃ p (.tail _ (List.mem_append_left _ hp))).1
      · have e1 := (N₁ _ (.tail _ (List.mem_append_right _ (hob i st hR)))).1
        dsimp only at e1
        rw [e1] at eb
        cases eb
        exact (N₃ _ (.tail _ (List.mem_append_right _ (hob _ st' hR₃)))).1
    · obtain rfl : i = n := by omega
      refine hW.done _ _ _ hst fun h₁ tk₁ k₁ => ?_
      refine fin st oc v0 _ hR ⟨hA.os, hA.gens, hA.size⟩ ⟨F.ns.at' fun o e => k₁ _ o hLw e, fun b o e => k₁ b o (h0w b o e) (F.keep b o e), F.above⟩ (fun q hq => ?_) hcd fun p hp => (hdis p hp).2
      rcases List.mem_cons.mp hq with rfl | hq
      · exact ⟨k₁ _ _ hcw Nc.1, Nc.2⟩
      · have := N q (.tail _ (List.mem_append_right _ hq))
        exact ⟨k₁ _ _ (hdis q hq).1 this.1, this.2⟩
end
end
-- S67
section
open PyProof.Rows.LCg (NsObj ns_obj)
set_option maxHeartbeats 0
set_option maxHeartbeats 4000000

/-- an edge as the program holds it -/
structure Er where
  T : Addr
  e : Edge
  ta : Tok
  tb : Tok
def edO (r : Er) : Obj := { cls := .type "tuple", data := .seq #[.int (r.e.1 : Int) r.ta, .int (r.e.2 : Int) r.tb] }
abbrev edA (es : List Er) : Array Value := (es.map fun r => Value.ref r.T).toArray
abbrev StE (e it l : Addr) (items : Array Value) (i : Nat) (h : Heap) : Prop := (∃ old, IsEnum h e it i old) ∧ h.IsListIter it l i ∧ h.IsList l items
theorem enum_K {w : World} {A : Around} {E : Value → Shared → Prop} {s : Shared} {h₀ : Heap} {L l : Addr} {m : Str → Option Value} {news : List (Addr × Obj)} {items : Array Value} {n : Nat} {Q : Value → Shared → Prop}
    (F : Fr h₀ L s.heap m) (N : News h₀ L s.heap news) (hm : (l, listOf items n) ∈ news)
    (h : ∀ (e it : Addr) (oe oi : Obj) h', Fr h₀ L h' m → News h₀ L h' ([(e, oe), (it, oi)] ++ news) → StE e it l items 0 h' → (∀ p ∈ news, p.1 < it) → it < e → e < h'.objs.size → Q (.ref e) { s with heap := h' }) :
    wpAny (model prog w) A (call (.type "enumerate") [.ref l]) Q E s := by
  have hLs := F.ns.lt
  refine call_enumerate_list ⟨_, (N _ hm).1, rfl, n, rfl⟩ fun h' he hit hz hk => ?_
  obtain ⟨oi, hoi, hri⟩ := id hit
  have new : ∀ a, s.heap.objs.size ≤ a → a ≠ L ∧ h₀.get? a = none := fun a ha => ⟨Nat.ne_of_gt (Nat.lt_of_lt_of_le hLs ha), Heap.get?_none_of_le (Nat.le_trans F.above (Nat.le_trans (Nat.le_of_lt hLs) ha))⟩
  obtain ⟨oe, hoe⟩ : ∃ oe, h'.get? (s.heap.objs.size + 1) = some oe := ⟨_, he⟩
  refine h _ _ oe oi h' (F.keeps hk) (fun q hq => ?_) ⟨⟨_, he⟩, hit, ⟨_, hk _ _ (N _ hm).1, rfl, n, rfl⟩⟩ (fun p hp => Heap.lt_size (N p hp).1) (Nat.lt_succ_self _) (by rw [hz]; exact Nat.lt_succ_self _)
  simp only [List.cons_append, List.nil_append] at hq
  rcases List.mem_cons.mp hq with rfl | hq
  · exact ⟨hoe, new _ (Nat.le_succ _)⟩
  · rcases List.mem_cons.mp hq with rfl | hq
    · exact ⟨hoi, new _ (Nat.le_refl _)⟩
    · exact ⟨hk _ _ (N q hq).1, (N q hq).2⟩
theorem StE.obj {e it l : Addr} {items : Array Value} {i : Nat} {h : Heap} (x : StE e it l items i h) : ∀ b ∈ [e, it], ∃ o, h.get? b = some o := fun b hb => by
  obtain ⟨⟨old, h1⟩, ⟨o, h2, _⟩, _⟩ := x
  rcases List.mem_cons.mp hb with rfl | hb
  · exact ⟨_, h1⟩
  · rw [List.mem_singleton.mp hb]; exact ⟨o, h2⟩

section
variable {w : World} {A : Around} {E : Value → Shared → Prop} {s : Shared} {h₀ : Heap} {L : Addr} {news : List (Addr × Obj)} {T : Addr} {v0 v1 : Value} {u : Tok} {value slice : PySem.Expr} {Q : Value → Shared → Prop}
theorem tup_at0 (N : News h₀ L s.heap news) (hm : (T, ({ cls := .type "tuple", data := .seq #[v0, v1] } : Obj)) ∈ news) (h : Q v0 s)
    (hs : subscripted slice false (.ref T) (.int 0 u) = operate [.ref T, .int 0 u] (getItem (.ref T) (.int 0 u))) : wpAny (model prog w) A (subscriptTail value slice (.ref T) (.int 0 u)) Q E s :=
  item_tupleT (News.isTup N hm) (by decide) (by decide) (j := 0) rfl rfl h hs
theorem tup_at1 (N : News h₀ L s.heap news) (hm : (T, ({ cls := .type "tuple", data := .seq #[v0, v1] } : Obj)) ∈ news) (h : Q v1 s)
    (hs : subscripted slice false (.ref T) (.int 1 u) = operate [.ref T, .int 1 u] (getItem (.ref T) (.int 1 u))) : wpAny (model prog w) A (subscriptTail value slice (.ref T) (.int 1 u)) Q E s :=
  item_tupleT (News.isTup N hm) (by decide) (by decide) (j := 1) rfl rfl h hs
end
section
variable {w : World} {A : Around} {E : Value → Shared → Prop} {s : Shared} {h₀ : Heap} {L : Addr} {m : Str → Option Value}
theorem post_none {D C : Addr} {oC : Obj} {m₂ : Str → Option Value} {news : List (Addr × Obj)} {s' : Shared} {Q : Value → Shared → Prop} (hns : NsObj oC m₂) (F : Fr h₀ L s'.heap m) (N : News h₀ L s'.heap ((C, oC) :: news)) (hd : ∀ p ∈ news, p.1 ≠ C)
    (k : ∀ s'', Aft s' s'' → Fr h₀ L s''.heap m → News h₀ L s''.heap news → Q (.ref D) s'') : compPost (model prog w) A E none Q (.ref D) C (.ok .next) s' := by
  have NC := N _ (.head _)
  refine ⟨m₂, hns.ns NC.1, fun h' hs' => k _ ⟨rfl, id, Nat.le_refl _⟩ ⟨F.ns.at' fun o e => hs'.extBut _ _ (fun q => NC.2.1 q.symm) e, fun b o e => hs'.extBut _ _ (fun q => by rw [q, NC.2.2] at e; cases e) (F.keep b o e), F.above⟩ fun q hq => ?_⟩
  have := N q (.tail _ hq)
  exact ⟨hs'.extBut _ _ (hd q hq) this.1, this.2⟩
theorem em_append {elt : PySem.Expr} {cenv : Env} {D : Addr} {Q : Unit → Shared → Prop} (h : wpAny (model prog w) A (eval elt cenv) (fun x s₄ => wpAny (model prog w) A (call (.builtin "list.append") [.ref D, x]) (fun _ s₅ => Q () s₅) E s₄) E s) :
    wpAny (model prog w) A (do let _ ← call (.builtin "list.append") [.ref D, ← eval elt cenv]) Q E s :=
  wpAny_bind (wpAny_mono h (fun _ _ h₄ => wpAny_bind (wpAny_mono h₄ (fun _ _ h₅ => wpAny_pure h₅) fun _ _ z => z)) fun _ _ z => z)
abbrev emIn (elt : PySem.Expr) (g0 : Comprehension) (t1 i1 : PySem.Expr) (ifs1 : List PySem.Expr) (scope : Scope) (pos : Pos) (acc : Value) (cenv : Env) (ag : Sem Fin) : Sem Fin := do
  let x ← eval i1 cenv
  standAt i1.pos
  let x ← foldedSetIterable i1 cenv x
  let _ ← runOwn (.compStart (.ListComp elt [g0, ⟨t1, i1, ifs1, 0⟩] scope pos) 1 (← holding [x] (pyIter x)) acc cenv) cenv
  ag
abbrev InnerP (w : World) (A : Around) (elt : PySem.Expr) (g0 : Comprehension) (t1 i1 : PySem.Expr) (ifs1 : List PySem.Expr) (scope : Scope) (pos : Pos) (acc : Value) (cenv : Env) (Q : Shared → Prop) (s : Shared) : Prop :=
  wpAny (model prog w) A (eval i1 cenv) (fun xv s₁ => wpAny (model prog w) A (pyIter xv) (fun it s₂ => ∃ I, it = .ref I ∧ wpAny (model prog w) A (pyIter (.ref I)) (fun it' s₃ => it' = .ref I ∧ s₃ = s₂) noErr s₂ ∧
      codeAny (model prog w) A (.compLoop (.ListComp elt [g0, ⟨t1, i1, ifs1, 0⟩] scope pos) 1 (.ref I) acc cenv) (fun r s' => r = .ok .next ∧ Q s') s₂) noErr s₁) noErr s
theorem inner_mono {elt : PySem.Expr} {g0 : Comprehension} {t1 i1 : PySem.Expr} {ifs1 : List PySem.Expr} {scope : Scope} {pos : Pos} {acc : Value} {cenv : Env} (Q Q' : Shared → Prop) (s : Shared) (k : ∀ s, Q s → Q' s) (h : InnerP w A elt g0 t1 i1 ifs1 scope pos acc cenv Q s) : InnerP w A elt g0 t1 i1 ifs1 scope pos acc cenv Q' s :=
  wpAny_mono h (fun _ _ h₁ => wpAny_mono h₁ (fun _ _ h₂ => by obtain ⟨I, e, hself, loop⟩ := h₂; exact ⟨I, e, hself, codeAny_mono loop fun r s' hr => ⟨hr.1, k _ hr.2⟩⟩) fun _ _ z => z) fun _ _ z => z
theorem em_inner {elt : PySem.Expr} {g0 : Comprehension} {t1 i1 : PySem.Expr} {ifs1 : List PySem.Expr} {scope : Scope} {pos : Pos} {acc : Value} {cenv : Env} {ag : Sem Fin} {c : Code} (Q : Shared → Prop) (s : Shared) (hag : ag = again c) (hs : ∀ x, foldedSetIterable i1 cenv x = pure x)
    (h : InnerP w A elt g0 t1 i1 ifs1 scope pos acc cenv Q s) :
    wpAny (model prog w) A (emIn elt g0 t1 i1 ifs1 scope pos acc cenv ag) (fun fin s' => fin = .again c ∧ Q s') noErr s := by
  subst hag
  refine wpAny_bind (wpAny_mono h (fun xv s₁ h₁ => ?_) fun _ _ z => z)
  refine wpAny_bind (wpAny_standAt (wpAny_bind (wpAny_of_eq (hs xv) ?_)))
  refine wpAny_bind (wpAny_holding (wpAny_mono h₁ (fun it s₂ h₂ => ?_) fun _ _ z => z))
  obtain ⟨I, rfl, hself, loop⟩ := h₂
  refine wpAny_bind (wpAny_runOwn (codeAny_mono (R := fun r s' => r = .ok .next ∧ Q s') ?_ fun r s' hr => ?_))
  · rw [Around.mark_none]
    refine codeAny_of_tree ?_
    show wpAny _ _ ((compStart (.ListComp elt [g0, ⟨t1, i1, ifs1, 0⟩] scope pos) 1 (.ref I) acc cenv).onRaise (fun x => do noteFrame x cenv; standAt theWindowsPlace)) _ _ s₂
    refine wpAny_notedAt ?_
    unfold compStart
    show wpAny _ _ (ask >>= _) _ _ s₂
    refine wpAny_bind (wpAny_askSetting (wpAny_ite ?_))
    split
    · exact wpAny_pure ⟨rfl, loop⟩
    · refine wpAny_bind (wpAny_rule (wpAny_bind (wpAny_standAt (wpAny_bind (wpAny_mono hself (fun it' s' e => ?_) fun _ _ z => z.elim)))))
      obtain ⟨rfl, rfl⟩ := e
      exact wpAny_pure ⟨rfl, loop⟩
  · obtain ⟨rfl, hq⟩ := hr
    exact wpAny_pure ⟨rfl, hq⟩
theorem turn_two (elt t0 i0 : PySem.Expr) (ifs0 : List PySem.Expr) (t1 i1 : PySem.Expr) (ifs1 : List PySem.Expr) (scope : Scope) (pos : Pos) (it acc : Value) (cenv : Env) :
    compTurn (.ListComp elt [⟨t0, i0, ifs0, 0⟩, ⟨t1, i1, ifs1, 0⟩] scope pos) 0 it acc cenv = lcTurn t0 i0 ifs0 it cenv (emIn elt ⟨t0, i0, ifs0, 0⟩ t1 i1 ifs1 scope pos acc cenv (again (.compLoop (.ListComp elt [⟨t0, i0, ifs0, 0⟩, ⟨t1, i1, ifs1, 0⟩] scope pos) 0 it acc cenv))) (again (.compLoop (.ListComp elt [⟨t0, i0, ifs0, 0⟩, ⟨t1, i1, ifs1, 0⟩] scope pos) 0 it acc cenv)) := by
  unfold compTurn lcTurn
  simp only [List.getElem?_cons_zero, List.getElem?_cons_succ, bne_self_eq_false, Bool.false_eq_true, if_false]
  rfl
theorem turn_in (elt : PySem.Expr) (g0 : Comprehension) (t1 i1 : PySem.Expr) (ifs1 : List PySem.Expr) (scope : Scope) (pos : Pos) (it acc : Value) (cenv : Env) :
    compTurn (.ListComp elt [g0, ⟨t1, i1, ifs1, 0⟩] scope pos) 1 it acc cenv = lcTurn t1 i1 ifs1 it cenv (do (do let _ ← call (.builtin "list.append") [acc, ← eval elt cenv]); again (.compLoop (.ListComp elt [g0, ⟨t1, i1, ifs1, 0⟩] scope pos) 1 it acc cenv)) (again (.compLoop (.ListComp elt [g0, ⟨t1, i1, ifs1, 0⟩] scope pos) 1 it acc cenv)) := by
  unfold compTurn lcTurn
  rfl
section
variable {C I : Addr}
theorem comp_in {elt : PySem.Expr} {g0 : Comprehension} {target iter : PySem.Expr} {ifs : List PySem.Expr} {scope : Scope} {pos : Pos} {acc : Value} {cenv : Env} {R0 : Result → Shared → Prop} {s : Shared} {fp wr : List Addr} {B : Nat → (Str → Option Value) → (Str → Option Value) → Prop} {St : Nat → Heap → Prop}
    (J : (Str → Option Value) → Prop) (σ : Type) (W : σ → List (Addr × Obj)) (R : Nat → σ → Prop) (n : Nat) (hP : Pull w A cenv target C I fp wr n B St) (hO : ∀ i h, St i h → ∀ b ∈ wr, ∃ o, h.get? b = some o) (hC : C ∉ fp)
    (hsrc : ∀ b ∈ fp, b ∈ wr ∨ ∃ o, ∀ i st, R i st → (b, o) ∈ W st) (st0 : σ) (oC0 : Obj) (own0 : List (Addr × Obj)) (m0 : Str → Option Value)
    (hst : St 0 s.heap) (hR : R 0 st0) (F : Fr h₀ L s.heap m) (N : News h₀ L s.heap ((C, oC0) :: (own0 ++ W st0))) (hown : own0.map (·.1) = wr) (hns : NsObj oC0 m0) (hJ0 : J m0) (hdis : ∀ p ∈ W st0, p.1 ∉ wr ∧ p.1 ≠ C)
    (turn : ∀ i st own oC m₁ m₂ s', i < n → J m₁ → B i m₁ m₂ → R i st → Aft s s' → own.map (·.1) = wr → NsObj oC m₂ → Fr h₀ L s'.heap m → News h₀ L s'.heap ((C, oC) :: (own ++ W st)) → (∀ p ∈ W st, p.1 ∉ wr ∧ p.1 ≠ C) →
      wpAny (model prog w) A (lcTests ifs cenv) (fun ok s₃ => if ok = true then wpAny (model prog w) A (eval elt cenv) (fun x s₄ => wpAny (model prog w) A (call (.builtin "list.append") [acc, x]) (fun _ s₅ => Held (∃ st', R (i + 1) st' ∧ CompAt h₀ L C m wr own s' s₅ J (W st'))) noErr s₄) noErr s₃ else Held (∃ st', R (i + 1) st' ∧ CompAt h₀ L C m wr own s' s₃ J (W st'))) noErr s')
    (fin : ∀ st oC m₂ s', R n st → J m₂ → Aft s s' → NsObj oC m₂ → Fr h₀ L s'.heap m → News h₀ L s'.heap ((C, oC) :: W st) → (∀ p ∈ W st, p.1 ≠ C) → R0 (.ok .next) s') :
    codeAny (model prog w) A (.compLoop (.ListComp elt [g0, ⟨target, iter, ifs, 0⟩] scope pos) 1 (.ref I) acc cenv) R0 s :=
  comp_K (EM := fun Q s => wpAny (model prog w) A (eval elt cenv) (fun x s₄ => wpAny (model prog w) A (call (.builtin "list.append") [acc, x]) (fun _ s₅ => Q s₅) noErr s₄) noErr s) (turn_in _ _ _ _ _ _ _ _ _ _)
    (fun Q s hq => wpAny_bind (wpAny_bind (wpAny_mono hq (fun _ _ h => wpAny_bind (wpAny_mono h (fun _ _ h => wpAny_pure (wpAny_pure ⟨rfl, h⟩)) fun _ _ z => z)) fun _ _ z => z))) (fun Q Q' s k hq => wpAny_mono hq (fun _ _ h => wpAny_mono h (fun _ _ h => k _ h) fun _ _ z => z) fun _ _ z => z) J σ W R n hP hO hC hsrc st0 oC0 own0 m0 hst hR F N hown hns hJ0 hdis turn fin
theorem comp_out {elt target iter t1 i1 : PySem.Expr} {ifs ifs1 : List PySem.Expr} {scope : Scope} {pos : Pos} {acc : Value} {cenv : Env} {R0 : Result → Shared → Prop} {s : Shared} {fp wr : List Addr} {B : Nat → (Str → Option Value) → (Str → Option Value) → Prop} {St : Nat → Heap → Prop}
    (hs : ∀ x, foldedSetIterable i1 cenv x = pure x) (J : (Str → Option Value) → Prop) (σ : Type) (W : σ → List (Addr × Obj)) (R : Nat → σ → Prop) (n : Nat) (hP : Pull w A cenv target C I fp wr n B St) (hO : ∀ i h, St i h → ∀ b ∈ wr, ∃ o, h.get? b = some o) (hC : C ∉ fp)
    (hsrc : ∀ b ∈ fp, b ∈ wr ∨ ∃ o, ∀ i st, R i st → (b, o) ∈ W st) (st0 : σ) (oC0 : Obj) (own0 : List (Addr × Obj)) (m0 : Str → Option Value)
    (hst : St 0 s.heap) (hR : R 0 st0) (F : Fr h₀ L s.heap m) (N : News h₀ L s.heap ((C, oC0) :: (own0 ++ W st0))) (hown : own0.map (·.1) = wr) (hns : NsObj oC0 m0) (hJ0 : J m0) (hdis : ∀ p ∈ W st0, p.1 ∉ wr ∧ p.1 ≠ C)
    (turn : ∀ i st own oC m₁ m₂ s', i < n → J m₁ → B i m₁ m₂ → R i st → Aft s s' → own.map (·.1) = wr → NsObj oC m₂ → Fr h₀ L s'.heap m → News h₀ L s'.heap ((C, oC) :: (own ++ W st)) → (∀ p ∈ W st, p.1 ∉ wr ∧ p.1 ≠ C) →
      wpAny (model prog w) A (lcTests ifs cenv) (fun ok s₃ => if ok = true then InnerP w A elt ⟨target, iter, ifs, 0⟩ t1 i1 ifs1 scope pos acc cenv (fun s₄ => Held (∃ st', R (i + 1) st' ∧ CompAt h₀ L C m wr own s' s₄ J (W st'))) s₃ else Held (∃ st', R (i + 1) st' ∧ CompAt h₀ L C m wr own s' s₃ J (W st'))) noErr s')
    (fin : ∀ st oC m₂ s', R n st → J m₂ → Aft s s' → NsObj oC m₂ → Fr h₀ L s'.heap m → News h₀ L s'.heap ((C, oC) :: W st) → (∀ p ∈ W st, p.1 ≠ C) → R0 (.ok .next) s') :
    codeAny (model prog w) A (.compLoop (.ListComp elt [⟨target, iter, ifs, 0⟩, ⟨t1, i1, ifs1, 0⟩] scope pos) 0 (.ref I) acc cenv) R0 s :=
  comp_K (turn_two _ _ _ _ _ _ _ _ _ _ _ _) (fun Q s hq => em_inner Q s rfl hs hq) (fun Q Q' s k hq => inner_mono Q Q' s k hq) J σ W R n hP hO hC hsrc st0 oC0 own0 m0 hst hR F N hown hns hJ0 hdis turn fin
end
theorem eq_nil {D l : Addr} {ys : Array Value} {c n : Nat} {news : List (Addr × Obj)} {Q : Value → Shared → Prop} (N : News h₀ L s.heap news) (hD : (D, listOf ys c) ∈ news) (hl : (l, listOf #[] n) ∈ news) (hu : A.units < cLine) (h : Q (.bool (decide (ys = #[]))) s) :
    wpAny (model prog w) A (compareOp .Eq (.ref D) (.ref l)) Q E s := by
  by_cases e : ys = #[]
  · subst e
    exact PySem.SeqAt.eq_listAt (e := fun _ => true) ⟨_, (N _ hD).1, rfl, c, rfl⟩ ⟨_, (N _ hl).1, rfl, n, rfl⟩ rfl hu (fun j h1 => absurd h1 (Nat.not_lt_zero _)) h
  · refine PySem.SeqAt.eq_list_lengthsAt ⟨_, (N _ hD).1, rfl, c, rfl⟩ ⟨_, (N _ hl).1, rfl, n, rfl⟩ ?_ hu (by rw [decide_eq_false e] at h; exact h)
    have : ys.size ≠ 0 := fun q => e (Array.size_eq_zero_iff.mp q)
    simpa using this
theorem iterL_K {l : Addr} {its : Array Value} {n : Nat} {news : List (Addr × Obj)} {Q : Value → Shared → Prop} (F : Fr h₀ L s.heap m) (N : News h₀ L s.heap news) (hm : (l, listOf its n) ∈ news)
    (h : ∀ (I : Addr) h', Fr h₀ L h' m → News h₀ L h' ((I, litO l 0) :: news) → (∀ p ∈ news, p.1 < I) → h'.IsListIter I l 0 ∧ h'.IsList l its → I < h'.objs.size → Q (.ref I) { s with heap := h' }) :
    wpAny (model prog w) A (pyIter (.ref l)) Q E s := by
  refine wpAny_pyIter_list (News.isList N hm) ?_
  exact h _ _ (F.push _) (News.push F N _ rfl) (fun q hq => Heap.lt_size (N q hq).1) ⟨⟨_, Heap.get?_push_size _ rfl, rfl, rfl⟩, (News.isList N hm).push _⟩ (by rw [Heap.size_push]; exact Nat.lt_succ_self _)
theorem rsize {a b : Int} {n : Nat} (e : b = a + n) : Builtin.Range.rangeSize a b 1 = n := by
  subst e
  unfold Builtin.Range.rangeSize
  rw [if_pos (by decide), Int.ediv_one]
  split <;> omega
theorem rsmall {a b : Int} {n : Nat} (e : b = a + n) (h0 : 0 ≤ a) (h1 : a ≤ 1000) (hn : n ≤ 1000) : Builtin.Range.small a b 1 = true := by
  have h2 := rsize e
  unfold Builtin.Range.small Builtin.Range.rangeFitsLong
  rw [h2, if_pos (by decide)]
  simp only [Bool.and_eq_true, Bool.or_eq_true, decide_eq_true_eq, beq_iff_eq]
  omega
abbrev StR (I : Addr) (a : Int) (n : Nat) (i : Nat) (h : Heap) : Prop := IsRangeIter h I (a + (i : Nat) * 1) ((n : Int) - (i : Nat)) 1
theorem StR.obj {I : Addr} {a : Int} {n i : Nat} {h : Heap} (x : StR I a n i h) : ∀ b ∈ [I], ∃ o, h.get? b = some o := fun b hb => by
  obtain rfl := List.mem_singleton.mp hb
  exact ⟨_, x⟩
theorem one_lt {I b k : Addr} (h : I < k) (hb : b ∈ [I]) : b < k := by
  obtain rfl := List.mem_singleton.mp hb
  exact h
theorem off1_of {D : Addr} : ∀ {l : List (Addr × Obj)}, (∀ p ∈ l, p.1 ≠ D) → LCg.Off1 D l
  | [], _ => trivial
  | p :: _, h => ⟨h p (.head _), off1_of fun q hq => h q (.tail _ hq)⟩
theorem iterR_K {r : Addr} {a b : Int} {n : Nat} {t u v : Tok} {news : List (Addr × Obj)} {Q : Value → Shared → Prop} (F : Fr h₀ L s.heap m) (N : News h₀ L s.heap news) (hr : IsRange s.heap r a b 1 t u v) (e : b = a + n) (h0 : 0 ≤ a) (h1 : a ≤ 1000) (hn : n ≤ 1000)
    (h : ∀ (I : Addr) oI h', Fr h₀ L h' m → News h₀ L h' ((I, oI) :: news) → (∀ p ∈ news, p.1 < I) → StR I a n 0 h' → I < h'.objs.size → Q (.ref I) { s with heap := h' }) :
    wpAny (model prog w) A (pyIter (.ref r)) Q E s := by
  refine wpAny_pyIter_range hr (rsmall e h0 h1 hn) ?_
  have hz := rsize e
  refine h _ _ _ (F.push _) (News.push F N _ rfl) (fun q hq => Heap.lt_size (N q hq).1) ?_ (by rw [Heap.size_push]; exact Nat.lt_succ_self _)
  show Heap.get? _ _ = _
  rw [Heap.get?_push_size _ rfl, hz]
  simp
theorem apart_snoc {l : List Edge} {x : Edge} : apartB (l ++ [x]) = true ↔ apartB l = true ∧ ∀ f ∈ l, meets x f = false := by
  rw [apart_pw, apart_pw, List.pairwise_append]
  constructor
  · rintro ⟨h1, _, h2⟩
    exact ⟨h1, fun f hf => by rw [meets_comm]; exact h2 f hf x (.head _)⟩
  · rintro ⟨h1, h2⟩
    exact ⟨h1, List.pairwise_singleton _ _, fun f hf y hy => by rw [List.mem_singleton.mp hy, meets_comm]; exact h2 f hf⟩
theorem append_K {D : Addr} {ys : Array Value} {c : Nat} {x : Value} {pre post : List (Addr × Obj)} {Q : Value → Shared → Prop} (F : Fr h₀ L s.heap m) (N : News h₀ L s.heap (pre ++ (D, listOf ys c) :: post)) (h1 : ∀ p ∈ pre, p.1 ≠ D) (h2 : ∀ p ∈ post, p.1 ≠ D) (hz : ys.size ≤ 1000)
    (h : ∀ h' c', Fr h₀ L h' m → News h₀ L h' (pre ++ (D, listOf (ys.push x) c') :: post) → Q .none { s with heap := h' }) : wpAny (model prog w) A (call (.builtin "list.append") [.ref D, x]) Q E s := by
  have ND := N _ (List.mem_append_right _ (.head _))
  refine wpAny_list_append_plain (items := ys) ⟨c, ND.1⟩ (fun h₅ hl₅ hs₅ => ?_) (by rw [sizeLine_eq]; omega)
  obtain ⟨c', hD₅⟩ := hl₅
  refine h h₅ c' ⟨F.ns.at' fun o e => hs₅.extBut _ _ (fun q => ND.2.1 q.symm) e, fun b o e => hs₅.extBut _ _ (fun q => by rw [q, ND.2.2] at e; cases e) (F.keep b o e), F.above⟩ fun q hq => ?_
  rcases List.mem_append.mp hq with hq | hq
  · have := N q (List.mem_append_left _ hq)
    exact ⟨hs₅.extBut _ _ (h1 q hq) this.1, this.2⟩
  rcases List.mem_cons.mp hq with rfl | hq
  · exact ⟨hD₅, ND.2⟩
  · have := N q (List.mem_append_right _ (.tail _ hq))
    exact ⟨hs₅.extBut _ _ (h2 q hq) this.1, this.2⟩
theorem mem_sw3 {α : Type} {a b c d e f q : α} {l : List α} (h : q ∈ a :: ([b] ++ c :: d :: e :: f :: l)) : q ∈ b :: d :: a :: e :: f :: c :: l := by
  simp only [List.cons_append, List.nil_append, List.mem_cons] at h ⊢
  grind
theorem mem_sw4 {α : Type} {a b c d e f q : α} {l : List α} (h : q ∈ a :: ([b, c] ++ d :: e :: l)) : q ∈ a :: d :: f :: b :: c :: e :: l := by
  simp only [List.cons_append, List.nil_append, List.mem_cons] at h ⊢
  grind
theorem mem_sw2 {α : Type} {a b c d q : α} {l : List α} (h : q ∈ a :: ([c, d] ++ b :: l)) : q ∈ a :: b :: ([c, d] ++ l) := by
  simp only [List.cons_append, List.nil_append, List.mem_cons] at h ⊢
  grind
theorem mem_sw1 {α : Type} {a b c q : α} {l : List α} (h : q ∈ a :: ([c] ++ b :: l)) : q ∈ a :: b :: ([c] ++ l) := by
  simp only [List.cons_append, List.nil_append, List.mem_cons] at h ⊢
  grind
theorem own_one {wr1 : Addr} {own : List (Addr × Obj)} (h : own.map (·.1) = [wr1]) : ∃ o1, own = [(wr1, o1)] := by
  cases own with
  | nil => exact absurd h (by simp)
  | cons p r =>
    rw [List.map_cons] at h
    obtain ⟨h1, h2⟩ := List.cons.inj h
    rw [List.map_eq_nil_iff] at h2
    subst h2
    exact ⟨p.2, by rw [← h1]⟩
theorem own_two {wr1 wr2 : Addr} {own : List (Addr × Obj)} (h : own.map (·.1) = [wr1, wr2]) : ∃ o1 o2, own = [(wr1, o1), (wr2, o2)] := by
  cases own with
  | nil => exact absurd h (by simp)
  | cons p r =>
    rw [List.map_cons] at h
    obtain ⟨h1, h2⟩ := List.cons.inj h
    obtain ⟨o2, rfl⟩ := own_one h2
    exact ⟨p.2, o2, by rw [← h1]⟩
end
end
-- S68
section
open PyProof.Rows.LCg (NsObj ns_obj)
set_option maxHeartbeats 0
local macro_rules | `(tactic| k_room) => `(tactic| ktr_room)
local macro_rules | `(tactic| k_units) => `(tactic| ktr_units)
local macro_rules | `(tactic| k_enter) => `(tactic| (refine' code_def ?k1 ?k2 ?k3 ?k4 ?k5 ?kA ?kF ?kK ?k6 ?k7 ?k8 ?k9 ?kB ?_ ?c2 ?c3 ?c4 ?c5; (case kA => exact rfl); (case kF => exact rfl); (case kK => first | exact rfl | assumption); (case k1 => k_asm); (case k2 => k_asm); (case k3 => k_asm); (case k4 => k_asm); (case k5 => k_asm); (case k6 => k_is); (case k7 => k_is); (case k8 => ktr_room); (case k9 => first | exact BindsTo.of_eq rfl | exact binds_K (by k_in) rfl (by k_is) rfl rfl rfl); (case c5 => decide); (case kB => exact locs rfl); (case c2 => exact rfl); (case c3 => exact rfl); (case c4 => exact rfl); k_whole; intro g' L' h' FG' F' N' B' X' T'; (try dsimp only); (try k_fold)))
local macro_rules | `(tactic| k_mem) => `(tactic| first | exact List.Mem.head _ | assumption | (refine' List.Mem.tail _ ?_; k_mem))
local macro_rules | `(tactic| fail "hook subscriptTail Name Constant ref int") => `(tactic| (k_here; (with_reducible show wpAny _ _ (subscriptTail _ _ (Value.ref _) (Value.int 0 _)) _ _ _); (refine' tup_at0 ?N ?m ?_ ?s; (case N => k_asm); (case m => k_mem); (case s => with_unfolding_all rfl))))
local macro_rules | `(tactic| fail "hook subscriptTail Name Constant ref int") => `(tactic| (k_here; (with_reducible show wpAny _ _ (subscriptTail _ _ (Value.ref _) (Value.int 1 _)) _ _ _); (refine' tup_at1 ?N ?m ?_ ?s; (case N => k_asm); (case m => k_mem); (case s => with_unfolding_all rfl))))
local macro_rules | `(tactic| fail "hook compareOp Eq ref ref") => `(tactic| (k_here; (refine Held.out ?_)))
local macro_rules | `(tactic| fail "hook eval ListComp") => `(tactic| (k_here; (refine Held.out ?_)))
local macro_rules | `(tactic| fail "hook call type:enumerate") => `(tactic| (k_here; (refine Held.out ?_)))
local macro_rules | `(tactic| fail "hook subscriptTail Name Slice ref ref") => `(tactic| (k_here; (refine Held.out ?_)))

theorem law_apart (w : World) (g : Addr) (es : List Er) (n : Nat) (news : List (Addr × Obj)) (hlen : es.length ≤ 4) (m1 : (g, listOf (edA es) n) ∈ news) (m2 : ∀ r ∈ es, (r.T, edO r) ∈ news) :
    CallC w 727 [.ref g] news 60 900 (fun news' v => news' = news ∧ v = .bool (apartB (es.map (·.e)))) := by
  intro lo mean mg mb dp un gd cn cs a ccd cl outer A₀ base h₀ L m s Q E B F X N T hk hdp hu hG hret
  refine wpAny_call ?_
  (refine' code_defC ?k1 ?k2 ?k3 ?k4 ?k5 ?kA ?kF ?kK ?k6 ?k7 ?k8 ?k9 ?kB ?kD ?_ ?c2 ?c3 ?c4; (case kA => exact rfl); (case kF => exact rfl); (case kK => first | exact rfl | assumption); (case k1 => k_asm); (case k2 => k_asm); (case k3 => k_asm); (case k4 => k_asm); (case k5 => k_asm); (case k6 => k_is); (case k7 => k_is); (case k8 => ktr_room); (case k9 => first | exact BindsTo.of_eq rfl | exact binds_K (by k_in) rfl (by k_is) rfl rfl rfl); (case kB => exact rfl); (case kD => decide +kernel); (case c2 => exact rfl); (case c3 => exact rfl); (case c4 => exact rfl); k_whole; intro g' L' h' tk' cells' FG' F' N' Y' B' X' T' l1; (try dsimp only); (try k_fold))
  have hY := CellsAre.one Y'
  obtain ⟨oc, hE, d1⟩ := hY
  subst hE
  clear Y'
  replace d1 : oc.data = .cell (some (.ref g)) := d1
  simp only [List.cons_append, List.nil_append] at N'
  replace F' : Fr g' L' h' (fun _ => none) := F'
  have hgn : ∀ p ∈ (L' + 1, oc) :: news, p.1 < L' + 2 := fun p hp => by
    rcases List.mem_cons.mp hp with rfl | hp
    · exact Nat.lt_succ_self _
    · exact Nat.lt_of_lt_of_le (l1 p hp) (Nat.le_add_right _ _)
  k_steps
  refine Held.mk ?_
  rw [eval_ListComp]
  refine comp_core (h₀ := g') (L := L') (m := fun _ => none) (use := none) rfl (by decide) rfl (by decide) ?_ (fun _ => rfl)
  k_steps
  refine Held.mk ?_
  refine enum_K F' N' (.tail _ m1) ?_
  intro e it oe oi h1 F1 N1 st1 lN lie lt1
  refine wpAny_pyIter_enum st1.1.choose_spec ?_
  refine ⟨e, _, rfl, F1, N1, ?_⟩
  intro D C oC m₀ h2 tk2 F2 N2 hns2 k2 hD hDC
  have hh0 : ∀ A' : Around, A'.handled = none → WalksT prog w A' e [e, it, g] [e, it] (edA es).size (fun i vals => ∃ t x, (edA es)[i]? = some x ∧ vals = #[.int i t, x]) (StE e it g (edA es)) (fun i T h => (∃ x, IsEnumOut h e it ((i : Int) + 1) x T) ∧ h.IsListIter it g (i + 1) ∧ h.IsList g (edA es) ∧ T ≠ e ∧ T ≠ it) :=
    fun A' hA' => WalksT.enumerate hA' e it g (Nat.ne_of_gt lie) (Nat.ne_of_lt (Nat.lt_trans (lN _ (.tail _ m1)) lie)) (Nat.ne_of_lt (lN _ (.tail _ m1))) (edA es)
  have W0 := hh0 _ (rfl : (ktrTop dp un gd cn cs L a ccd cl outer).handled = none)
  have st2 : StE e it g (edA es) 0 h2 := W0.frame _ _ _ st1 fun b _ o eb => k2 b o eb
  refine ⟨wpAny_pyIter_enum st2.1.choose_spec ⟨rfl, rfl⟩, ?_⟩
  have lD : ∀ p ∈ (L' + 1, oc) :: news, p.1 < it := lN
  have hitD : it < D := hD _ (Nat.lt_trans lie lt1)
  have heD : e < D := hD _ lt1
  have hgit : g < it := lN _ (.tail _ m1)
  have hfC : ∀ b ∈ [e, it, g], b < C := fun b hb => by
    rcases List.mem_cons.mp hb with rfl | hb
    · exact Nat.lt_trans heD hDC
    rcases List.mem_cons.mp hb with rfl | hb
    · exact Nat.lt_trans hitD hDC
    rw [List.mem_singleton.mp hb]
    exact Nat.lt_trans hgit (Nat.lt_trans hitD hDC)
  refine' comp_out (h₀ := g') (L := L') (m := fun _ => none) (fun _ => rfl) (fun _ => True) (Array Value × Nat) (fun st => (D, listOf st.1 st.2) :: (L' + 1, oc) :: news) (fun i st => st.1.size ≤ 4 * i ∧ (st.1 = #[] ↔ apartB ((es.take i).map (·.e)) = true)) (edA es).size ?hP ?hO ?hC2 ?hsrc (#[], 0) oC [(e, oe), (it, oi)] m₀ ?hst ?hR F2 ?hN ?hown hns2 trivial ?hdis ?turn ?fin
  case hP => exact Pull.pair (hh0 _ rfl) rfl (lookup_relabel_local rfl) (lookup_relabel_local rfl) (by rfl) (fun q => Nat.lt_irrefl _ (hfC _ q)) (fun i vals hv => by obtain ⟨t, x, _, rfl⟩ := hv; exact ⟨_, _, rfl⟩)
  case hO => exact fun i h hst => StE.obj hst
  case hst => exact st2
  case hR => exact ⟨Nat.le_refl _, by simp [apartB]⟩
  case hown => exact rfl
  case hC2 => exact fun q => Nat.lt_irrefl _ (hfC _ q)
  case hsrc =>
    intro b hb
    rcases List.mem_cons.mp hb with rfl | hb
    · exact .inl (.head _)
    rcases List.mem_cons.mp hb with rfl | hb
    · exact .inl (.tail _ (.head _))
    rw [List.mem_singleton.mp hb]
    exact .inr ⟨_, fun _ _ _ => .tail _ (.tail _ m1)⟩
  case hN => exact fun q hq => N2 q (mem_sw2 hq)
  case hdis =>
    intro p hp
    rcases List.mem_cons.mp hp with rfl | hp
    · exact ⟨fun q => by
        rcases List.mem_cons.mp q with q | q
        · exact Nat.ne_of_gt heD q
        · exact Nat.ne_of_gt hitD (List.mem_singleton.mp q), Nat.ne_of_lt hDC⟩
    · have h3 := lN p hp
      exact ⟨fun q => by
        rcases List.mem_cons.mp q with q | q
        · exact Nat.ne_of_lt (Nat.lt_trans h3 lie) q
        · exact Nat.ne_of_lt h3 (List.mem_singleton.mp q), Nat.ne_of_lt (Nat.lt_trans h3 (Nat.lt_trans hitD hDC))⟩
  case fin =>
    rintro ⟨ys, c⟩ oC' m₂ s' ⟨hsz, hiff⟩ _ hA' hns' F3 N3 hd3
    refine post_none hns' F3 N3 hd3 fun s'' hA'' F4 N4 => ?_
    k_steps
    refine Held.mk ?_
    rename News _ _ _ _ => N5
    refine eq_nil N5 (.tail _ (.head _)) (.head _) (by ktr_units) ?_
    k_steps
    rename Fr _ _ _ _ => F9
    rename News _ _ _ _ => N9
    refine hret _ _ _ ⟨hA''.os.trans hA'.os, fun G => hA''.gens (hA'.gens G), Nat.le_trans hA'.size hA''.size⟩ F9 (fun q hq => N9 q (.tail _ (.tail _ (.tail _ hq)))) ⟨rfl, ?_⟩
    rw [show (edA es).size = es.length by simp [edA], List.take_length] at hiff
    congr 1
    rw [Bool.eq_iff_iff, decide_eq_true_iff]
    exact hiff
  case turn =>
    rintro i ⟨ys, c⟩ own oC' mA mB s' hi _ hB ⟨hsz, hiff⟩ hA' hown hns' F3 N3 hd3
    have hd3' : ∀ (ys' : Array Value) (c' : Nat), ∀ p ∈ (D, listOf ys' c') :: (L' + 1, oc) :: news, p.1 ∉ [e, it] ∧ p.1 ≠ C := fun ys' c' p hp => by
      rcases List.mem_cons.mp hp with rfl | hp
      · exact hd3 (D, listOf ys c) (.head _)
      · exact hd3 p (.tail _ hp)
    obtain ⟨o1, o2, rfl⟩ := own_two hown
    obtain ⟨v1, v2, ⟨t, x, hx, hv⟩, hmB⟩ := hB
    have hv1 : v1 = .int i t := by
      have := congrArg (fun a => a.toList.head?) hv
      simpa using this
    have hv2 : v2 = x := by
      have := congrArg (fun a => a.toList.getLast?) hv
      simpa using this
    subst hv1
    have hiv : i < es.length := by simpa [edA] using hi
    have hxr : x = .ref (es[i]).T := by
      simp only [edA, List.getElem?_toArray, List.getElem?_map, List.getElem?_eq_getElem hiv, Option.map_some] at hx
      exact (Option.some.inj hx).symm
    obtain ⟨r, hr⟩ : ∃ r, es[i] = r := ⟨_, rfl⟩
    have hrm : r ∈ es := hr ▸ List.getElem_mem hiv
    rw [hr] at hxr
    subst hv2 hxr
    have hp1 : mB (Str.ofString "place") = some (.int i t) := by rw [hmB]; rfl
    have hp2 : mB (Str.ofString "edge") = some (.ref r.T) := by rw [hmB]; rfl
    clear hmB hv hx
    refine wpAny_pure ?_
    rw [if_pos rfl]
    dsimp only [List.cons_append, List.nil_append] at N3
    k_steps
    refine Held.mk ?_
    have hits0 : ((edA es).toList.take i) = (es.take i).map fun r => Value.ref r.T := by simp [edA, List.map_take]
    refine kmk_slice (lo := none) (hi := some (i : Int)) F3 N3 ⟨_, (N3 _ (.tail _ (.tail _ (.tail _ (.tail _ (.tail _ m1)))))).1, rfl, n, rfl⟩ .none (.int _ _) ?_ (by with_unfolding_all rfl) (fun _ => rfl) (by simp [edA]; rw [sizeLine_eq]; omega)
    intro Ds h5 F5 N5 l5
    rw [slicePick_upto', hits0] at N5
    refine iterL_K F5 N5 (.head _) ?_
    intro I h6 F6 N6 l6 st6 ltI
    have W1 := fun (A' : Around) (hA' : A'.handled = none) => Walks.list (prog := prog) (w := w) (A := A') hA' I Ds (Nat.ne_of_lt (l6 _ (.head _))) ((es.take i).map fun r => Value.ref r.T).toArray
    refine ⟨I, rfl, wpAny_pyIter_listiter st6.1 ⟨rfl, rfl⟩, ?_⟩
    have hCDs : C < Ds := l5 _ (.head _)
    have hCI : C ∉ [I, Ds] := fun q => by
      rcases List.mem_cons.mp q with q | q
      · exact Nat.ne_of_lt (Nat.lt_trans hCDs (l6 _ (.head _))) q
      · exact Nat.ne_of_lt hCDs (List.mem_singleton.mp q)
    refine' comp_in (h₀ := g') (L := L') (m := fun _ => none) (fun m => m (Str.ofString "edge") = some (.ref r.T)) (Array Value × Nat) (fun st => (D, listOf st.1 st.2) :: (Ds, listOf ((es.take i).map fun r => Value.ref r.T).toArray 0) :: (e, o1) :: (it, o2) :: (L' + 1, oc) :: news) (fun j st => st.1.size ≤ 4 * i + j ∧ (st.1 = #[] ↔ (ys = #[] ∧ ∀ f ∈ es.take j, meets r.e f.e = false))) ((es.take i).map fun r => Value.ref r.T).toArray.size ?hP ?hO ?hC2 ?hsrc (ys, c) oC' [(I, litO Ds 0)] mB ?hst ?hR F6 ?hN ?hown hns' hp2 ?hdis ?turn ?fin
    case hP => exact Pull.name (W1 _ rfl) (lookup_relabel_local rfl) (by rfl) hCI
    case hO =>
      rintro j h ⟨⟨o, ho, _⟩, _⟩ b hb
      rw [List.mem_singleton.mp hb]
      exact ⟨o, ho⟩
    case hC2 => exact hCI
    case hsrc =>
      intro b hb
      rcases List.mem_cons.mp hb with rfl | hb
      · exact .inl (.head _)
      rw [List.mem_singleton.mp hb]
      exact .inr ⟨_, fun _ _ _ => .tail _ (.head _)⟩
    case hst => exact st6
    case hR => exact ⟨hsz, by simp⟩
    case hN => exact fun q hq => N6 q (mem_sw3 hq)
    case hown => exact rfl
    case hdis =>
      intro p hp
      rcases List.mem_cons.mp hp with rfl | hp
      · exact ⟨fun q => Nat.ne_of_lt (l6 (D, _) (.tail _ (.tail _ (.tail _ (.tail _ (.head _)))))) (List.mem_singleton.mp q), (hd3 (D, _) (.head _)).2⟩
      rcases List.mem_cons.mp hp with rfl | hp
      · exact ⟨fun q => Nat.ne_of_lt (l6 _ (.head _)) (List.mem_singleton.mp q), Nat.ne_of_gt hCDs⟩
      rcases List.mem_cons.mp hp with rfl | hp
      · exact ⟨fun q => Nat.ne_of_lt (l6 (e, o1) (.tail _ (.tail _ (.head _)))) (List.mem_singleton.mp q), Nat.ne_of_lt (Nat.lt_trans heD hDC)⟩
      rcases List.mem_cons.mp hp with rfl | hp
      · exact ⟨fun q => Nat.ne_of_lt (l6 (it, o2) (.tail _ (.tail _ (.tail _ (.head _))))) (List.mem_singleton.mp q), Nat.ne_of_lt (Nat.lt_trans hitD hDC)⟩
      · exact ⟨fun q => Nat.ne_of_lt (l6 p (.tail _ (.tail _ (.tail _ (.tail _ (.tail _ hp)))))) (List.mem_singleton.mp q), (hd3 p (.tail _ hp)).2⟩
    case fin =>
      rintro ⟨ys', c'⟩ oC1 mC s1 ⟨hsz1, hiff1⟩ hJ1 hA1 hns1 F7 N7 hd7
      refine ⟨rfl, Held.mk ⟨(ys', c'), ⟨?_, ?_⟩, ⟨hA1.os, hA1.gens, hA1.size⟩, F7, ⟨oC1, mC, trivial, hns1, fun q hq => N7 q (mem_sw4 hq)⟩, hd3' _ _⟩⟩
      · simp only [List.size_toArray, List.length_map, List.length_take, Nat.min_eq_left (Nat.le_of_lt hiv)] at hsz1
        show ys'.size ≤ 4 * (i + 1)
        omega
      · simp only [List.size_toArray, List.length_map, List.length_take, Nat.min_eq_left (Nat.le_of_lt hiv), List.take_take, Nat.min_self] at hiff1
        rw [hiff1, hiff, List.take_succ_eq_append_getElem hiv, hr, List.map_append, List.map_singleton, apart_snoc]
        refine and_congr_right fun _ => ⟨fun h f hf => ?_, fun h f hf => ?_⟩
        · obtain ⟨f', hf', rfl⟩ := List.mem_map.mp hf
          exact h f' hf'
        · exact h _ (List.mem_map_of_mem hf)
    case turn =>
      rintro j ⟨ys1, c1⟩ own oC1 mA1 mB1 s1 hj hJ hB1 ⟨hsz1, hiff1⟩ hA1 hown1 hns1 F7 N7 hd7
      obtain ⟨oI1, rfl⟩ := own_one hown1
      obtain ⟨v, hv, hmB1⟩ := hB1
      have hji : j < i := by simpa [Nat.min_eq_left (Nat.le_of_lt hiv)] using hj
      have hjv : j < es.length := Nat.lt_trans hji hiv
      have hvf : v = .ref (es[j]).T := by
        simp only [List.getElem?_toArray, List.getElem?_map, List.getElem?_take, if_pos hji, List.getElem?_eq_getElem hjv, Option.map_some] at hv
        exact (Option.some.inj hv).symm
      obtain ⟨f, hf⟩ : ∃ f, es[j] = f := ⟨_, rfl⟩
      have hfm : f ∈ es := hf ▸ List.getElem_mem hjv
      rw [hf] at hvf
      subst hvf
      have hp3 : mB1 (Str.ofString "other") = some (.ref f.T) := by rw [hmB1]; rfl
      have hp4 : mB1 (Str.ofString "edge") = some (.ref r.T) := by rw [hmB1]; exact hJ
      clear hmB1 hv
      have b1 := m2 r hrm
      have b2 := m2 f hfm
      dsimp only [edO] at b1 b2
      dsimp only [List.cons_append, List.nil_append] at N7
      dsimp only at hsz1
      have hsz2 : ys1.size ≤ 100 := by omega
      have htake : es.take (j + 1) = es.take j ++ [f] := by rw [List.take_succ_eq_append_getElem hjv, hf]
      have key1 : ∀ x, meets r.e f.e = true → (ys1.push x = #[] ↔ ys = #[] ∧ ∀ f ∈ es.take (j + 1), meets r.e f.e = false) := fun x hm =>
        ⟨fun q => absurd (congrArg Array.size q) (by simp), fun q => absurd (q.2 f (by rw [htake]; simp)) (by rw [hm]; decide)⟩
      have key3 : meets r.e f.e = false → (ys1 = #[] ↔ ys = #[] ∧ ∀ f ∈ es.take (j + 1), meets r.e f.e = false) := fun hm => by
        rw [hiff1, htake]
        refine and_congr_right fun _ => ⟨fun q f' hf' => ?_, fun q f' hf' => q f' (List.mem_append_left _ hf')⟩
        rcases List.mem_append.mp hf' with h | h
        · exact q f' h
        · rw [List.mem_singleton.mp h]; exact hm
      have hpre : ∀ p ∈ [(C, oC1), (I, oI1)], p.1 ≠ D := fun p hp => by
        rcases List.mem_cons.mp hp with rfl | hp
        · exact Nat.ne_of_gt hDC
        · rw [List.mem_singleton.mp hp]; exact Nat.ne_of_gt (l6 (D, _) (.tail _ (.tail _ (.tail _ (.tail _ (.head _))))))
      have hpost : ∀ p ∈ (Ds, listOf ((es.take i).map fun r => Value.ref r.T).toArray 0) :: (e, o1) :: (it, o2) :: (L' + 1, oc) :: news, p.1 ≠ D := fun p hp => by
        rcases List.mem_cons.mp hp with rfl | hp
        · exact Nat.ne_of_gt (Nat.lt_trans hDC hCDs)
        rcases List.mem_cons.mp hp with rfl | hp
        · exact Nat.ne_of_lt heD
        rcases List.mem_cons.mp hp with rfl | hp
        · exact Nat.ne_of_lt hitD
        · exact Nat.ne_of_lt (Nat.lt_trans (lN p hp) hitD)
      have hd8 : ∀ (ys' : Array Value) (c' : Nat), ∀ p ∈ (D, listOf ys' c') :: (Ds, listOf ((es.take i).map fun r => Value.ref r.T).toArray 0) :: (e, o1) :: (it, o2) :: (L' + 1, oc) :: news, p.1 ∉ [I] ∧ p.1 ≠ C := fun ys' c' p hp => by
        rcases List.mem_cons.mp hp with rfl | hp
        · exact hd7 (D, listOf ys1 c1) (.head _)
        · exact hd7 p (.tail _ hp)
      have hsz9 : ∀ x, (ys1.push x).size ≤ 4 * i + (j + 1) := fun x => by rw [Array.size_push]; omega
      refine wpAny_tests_one ?_
      k_steps
      · refine append_K (pre := [(C, oC1), (I, oI1)]) F7 N7 hpre hpost (by omega) ?_
        intro h9 c9 F9 N9
        refine Held.mk ⟨(_, c9), ⟨hsz9 _, key1 _ (by simp only [meets, Bool.or_eq_true, beq_iff_eq]; omega)⟩, ⟨rfl, id, Nat.le_refl _⟩, F9, ⟨oC1, mB1, hp4, hns1, N9⟩, hd8 _ _⟩
      · refine append_K (pre := [(C, oC1), (I, oI1)]) F7 N7 hpre hpost (by omega) ?_
        intro h9 c9 F9 N9
        refine Held.mk ⟨(_, c9), ⟨hsz9 _, key1 _ (by simp only [meets, Bool.or_eq_true, beq_iff_eq]; omega)⟩, ⟨rfl, id, Nat.le_refl _⟩, F9, ⟨oC1, mB1, hp4, hns1, N9⟩, hd8 _ _⟩
      · refine Held.mk ⟨(ys1, c1), ⟨Nat.le_succ_of_le hsz1, key3 (by simp only [meets, Bool.or_eq_false_iff, beq_eq_false_iff_ne]; omega)⟩, ⟨rfl, id, Nat.le_refl _⟩, F7, ⟨oC1, mB1, hp4, hns1, N7⟩, hd7⟩
end
-- S69
section
open PyProof.Rows.LCg (NsObj ns_obj)
set_option maxHeartbeats 0
local macro_rules | `(tactic| k_room) => `(tactic| ktr_room)
local macro_rules | `(tactic| k_units) => `(tactic| ktr_units)
local macro_rules | `(tactic| k_enter) => `(tactic| (refine' code_def ?k1 ?k2 ?k3 ?k4 ?k5 ?kA ?kF ?kK ?k6 ?k7 ?k8 ?k9 ?kB ?_ ?c2 ?c3 ?c4 ?c5; (case kA => exact rfl); (case kF => exact rfl); (case kK => first | exact rfl | assumption); (case k1 => k_asm); (case k2 => k_asm); (case k3 => k_asm); (case k4 => k_asm); (case k5 => k_asm); (case k6 => k_is); (case k7 => k_is); (case k8 => ktr_room); (case k9 => first | exact BindsTo.of_eq rfl | exact binds_K (by k_in) rfl (by k_is) rfl rfl rfl); (case c5 => decide); (case kB => exact locs rfl); (case c2 => exact rfl); (case c3 => exact rfl); (case c4 => exact rfl); k_whole; intro g' L' h' FG' F' N' B' X' T'; (try dsimp only); (try k_fold)))
local macro_rules | `(tactic| k_mem) => `(tactic| first | exact List.Mem.head _ | assumption | (refine' List.Mem.tail _ ?_; k_mem))
local macro_rules | `(tactic| k_all) => `(tactic| first | assumption | exact ne_one (by assumption) | (refine' ne_two ?a ?b; (case a => assumption); (case b => omega)))
local macro_rules | `(tactic| fail "hook exec Assign cons ListComp") => `(tactic| refine wpAny_Assign_Name ?_)
local macro_rules | `(tactic| fail "hook eval ListComp") => `(tactic| (k_here; (refine Held.out ?_)))
local macro_rules | `(tactic| fail "hook pyIter ref") => `(tactic| (refine Held.out ?_))
local macro_rules | `(tactic| fail "hook call type:str") => `(tactic| (k_here; (refine Held.out ?_)))

theorem cands_of {vs : List Value} {n : Nat} (h : IntsAre vs (rangeKs 0 n)) : Cands vs.toArray ∧ vs.toArray.size = n := by
  have hz : vs.length = n := by rw [h.length, rangeKs_length]
  refine ⟨fun i hi => ?_, by simpa using hz⟩
  have hi' : i < vs.length := by simpa using hi
  obtain ⟨k, t, hv, hk⟩ := h.at i vs[i] (List.getElem?_eq_getElem hi')
  have hin : i < n := by omega
  simp only [rangeKs, List.getElem?_map, List.getElem?_range hin, Option.map_some, Option.some.injEq] at hk
  refine ⟨t, ?_⟩
  rw [List.getElem?_toArray, List.getElem?_eq_getElem hi', hv, ← hk]
  simp
theorem mem_drop3 {α : Type} {a b c d e f q : α} {l : List α} (h : q ∈ a :: b :: c :: e :: f :: l) : q ∈ a :: b :: c :: d :: e :: f :: l := by
  simp only [List.mem_cons] at h ⊢
  grind
/-- a new profile -/
abbrev ProfPost (w : World) (n : Nat) (news news' : List (Addr × Obj)) (v : Value) : Prop :=
  ∃ (p dp lc ln lv : Addr) (t1 t2 t3 : Tok) (k nl c : Nat) (its ys : Array Value), v = .ref p ∧ Cands its ∧ its.size = n ∧ news' = (lv, listOf #[] 0) :: (ln, listOf ys c) :: (lc, listOf its nl) :: (p, instObj 681 dp) :: (dp, prD w lc ln lv t1 t2 t3 k) :: news ∧
    (∀ q ∈ news, q.1 < dp) ∧ dp < p ∧ p < lc ∧ lc < lv ∧ ln < lv ∧ lc ≠ ln ∧ p ≠ ln ∧ dp ≠ ln ∧ (∀ q ∈ news, q.1 < ln)
theorem profile_make (w : World) (n : Nat) (tn : Tok) (h5 : 5 ≤ n) (h6 : n ≤ 6) (news : List (Addr × Obj)) :
    CallC w 681 [.int (n : Int) tn] news 60 900 (ProfPost w n news) := by
  intro lo mean mg mb dp un gd cn cs a ccd cl outer A₀ base h₀ L m s Q E B F X N T hk hdp hu hG hret
  refine' call_cls ?k1 ?k2 ?k3 ?k4 ?k5 ?k6 ?_
  case k1 => k_asm
  case k2 => k_asm
  case k3 => k_asm
  case k4 => k_is
  case k5 => k_is
  case k6 => k_is
  intro p dp1 hp Fp Np lp1 lp2
  have lp1c := lp1
  (try k_lt lp1)
  (try k_lt2 lp2)
  (refine' code_defC ?k1 ?k2 ?k3 ?k4 ?k5 ?kA ?kF ?kK ?k6 ?k7 ?k8 ?k9 ?kB ?kD ?_ ?c2 ?c3 ?c4; (case kA => exact rfl); (case kF => exact rfl); (case kK => first | exact rfl | assumption); (case k1 => k_asm); (case k2 => k_asm); (case k3 => k_asm); (case k4 => k_asm); (case k5 => k_asm); (case k6 => k_is); (case k7 => k_is); (case k8 => ktr_room); (case k9 => first | exact BindsTo.of_eq rfl | exact binds_K (by k_in) rfl (by k_is) rfl rfl rfl); (case kB => exact rfl); (case kD => decide +kernel); (case c2 => exact rfl); (case c3 => exact rfl); (case c4 => exact rfl); k_whole; intro g' L' h' tk' cells' FG' F' N' Y' B' X' T' l1; (try dsimp only); (try k_fold))
  have hY := CellsAre.one Y'
  obtain ⟨oc, hE, d1⟩ := hY
  subst hE
  clear Y'
  replace d1 : oc.data = .cell (some .none) := d1
  replace F' : Fr g' L' h' (fun y => if y = Str.ofString "num_cand" then some (.int (n : Int) tn) else if y = Str.ofString "self" then some (.ref p) else none) := Fr.to F' fun y => rfl
  simp only [List.cons_append, List.nil_append] at N'
  (try k_lt l1)
  k_steps
  refine Held.mk ?_
  rename Fr _ _ _ _ => F1
  rename News _ _ _ _ => N1
  rename IntsAre _ _ => hI1
  have hcc := cands_of hI1
  refine comp_one F1 rfl (by decide) rfl (by decide) ?_
  k_steps
  refine Held.mk ?_
  rename Fr _ _ _ _ => F2
  rename News _ _ _ _ => N2
  rename IsRange _ _ _ _ _ _ _ _ => rg
  refine iterR_K (n := n) F2 N2 rg (by simp) (by decide) (by decide) (by omega) ?_
  intro I oI h3 F3 N3 l3 st3 lI3
  refine Held.mk ⟨Unit, fun _ => _, fun i _ ys => ys.size ≤ i ∧ i ≤ n, n, [I], [I], _, StR I 0 n, I, [(I, oI)], (), rfl, fun C hC => Pull.name (Walks.range rfl I 0 1 n) (lookup_relabel_local rfl) rfl hC, fun i h st => StR.obj st, fun b hb => one_lt lI3 hb, fun b hb => .inl hb, st3, ⟨rfl, id, Nat.le_refl _⟩, F3, N3, rfl, ⟨Nat.le_refl _, Nat.zero_le _⟩, fun p hp q => Nat.ne_of_lt (l3 p hp) (List.mem_singleton.mp q), fun i st ys hR => by omega, ?turn, ?fin⟩
  case turn =>
    intro i st ys c D C own oC m₁ m₂ s' hi hB hR hA hown hns F4 N4 hd hDw hDC
    obtain ⟨oI', rfl⟩ := own_one hown
    obtain ⟨v, ⟨t, rfl⟩, hm⟩ := hB
    have hpc : m₂ (Str.ofString "cand") = some (.int (0 + (i : Int) * 1) t) := by rw [hm]; rfl
    clear hm
    refine wpAny_pure ?_
    rw [if_pos rfl]
    dsimp only [List.cons_append, List.nil_append] at N4
    k_steps
    refine Held.mk ?_
    refine P.str_of_int (Nat.lt_of_le_of_lt (Nat.log2_le_self _) (by omega)) (Held.mk ⟨(), ⟨by rw [Array.size_push]; omega, hi⟩, ⟨⟨rfl, id, Nat.le_refl _⟩, F4, ⟨oC, m₂, trivial, hns, N4⟩, fun p hp => ?_⟩, fun p hp => (hd p hp).2.2⟩)
    rcases List.mem_cons.mp hp with rfl | hp
    · exact ⟨hDw, hDC⟩
    · exact ⟨(hd p hp).1, (hd p hp).2.1⟩
  case fin =>
    intro D c st ys s' hR hA F5 N5 hd hnew
    have hln : ∀ q ∈ news, q.1 < D := fun q hq => hnew _ _ (N3 q (.tail _ (.tail _ (.tail _ (.tail _ (.tail _ hq)))))).1
    dsimp only at N5 hd
    have hdn : ∀ p ∈ news, p.1 ≠ D := fun p hp => hd p (.tail _ (.tail _ (.tail _ (.tail _ hp))))
    have hd' := off1_of hd
    simp only [LCg.Off1, and_true] at hd'
    k_steps
    rename Fr _ _ _ _ => F9
    rename News _ _ _ _ => N9
    rename _ < _ ∧ _ < _ ∧ _ < _ ∧ _ < _ ∧ _ < _ ∧ AllLt _ _ => o9
    rename _ < _ ∧ _ < _ ∧ _ < _ ∧ AllLt _ _ => o8
    refine hret _ _ _ ⟨hA.os, hA.gens, hA.size⟩ F9 (fun q hq => N9 q (mem_drop3 hq)) ⟨p, dp1, _, D, _, _, _, _, _, _, c, _, ys, rfl, hcc.1, by rw [hcc.2]; omega, rfl, lp1c, lp2, o8.2.1, o9.2.1, o9.1, hd'.1, hd'.2.2.1, hd'.2.2.2.1, hln⟩
end
-- S70
section
open PyProof.Rows.LCg (NsObj ns_obj)
set_option maxHeartbeats 0
local macro_rules | `(tactic| k_room) => `(tactic| ktr_room)
local macro_rules | `(tactic| k_units) => `(tactic| ktr_units)
local macro_rules | `(tactic| k_enter) => `(tactic| (refine' code_def ?k1 ?k2 ?k3 ?k4 ?k5 ?kA ?kF ?kK ?k6 ?k7 ?k8 ?k9 ?kB ?_ ?c2 ?c3 ?c4 ?c5; (case kA => exact rfl); (case kF => exact rfl); (case kK => first | exact rfl | assumption); (case k1 => k_asm); (case k2 => k_asm); (case k3 => k_asm); (case k4 => k_asm); (case k5 => k_asm); (case k6 => k_is); (case k7 => k_is); (case k8 => ktr_room); (case k9 => first | exact BindsTo.of_eq rfl | exact binds_K (by k_in) rfl (by k_is) rfl rfl rfl); (case c5 => decide); (case kB => exact locs rfl); (case c2 => exact rfl); (case c3 => exact rfl); (case c4 => exact rfl); k_whole; intro g' L' h' FG' F' N' B' X' T'; (try dsimp only); (try k_fold)))
local macro_rules | `(tactic| k_mem) => `(tactic| first | exact List.Mem.head _ | assumption | (refine' List.Mem.tail _ ?_; k_mem))
theorem law_enter {w : World} {A : Around} {s : Shared} {h₀ : Heap} {news : List (Addr × Obj)} {K : Frag} {R : Result → Shared → Prop} {name qual : Str} {params : Arguments} {body : List Stmt} {scope : Scope} {dV kV doc pm cdv ct oc : Value} {an od : Option Addr} {osl : Array (Option Value)} {f : Addr} {vals : List Value} {binds : List (Str × Value)}
    (X : K.In s.heap) (hh : ∀ b o, h₀.get? b = some o → s.heap.get? b = some o) (hz : h₀.objs.size = s.heap.objs.size) (hN : ∀ q ∈ news, s.heap.get? q.1 = some q.2 ∧ h₀.get? q.1 = none) (hlim : s.heap.NoLimit)
    (ho : K.lookup f = some ⟨oc, od, .func (fnOf name qual params body scope dV kV doc pm an cdv ct), osl⟩) (hcd : codeIn K cdv qual = true) (hroom : A.depth < recursionLimit)
    (hbind : bindArgs (fnOf name qual params body scope dV kV doc pm an cdv ct) ⟨vals, []⟩ = pure binds) (hkind : (binds.all fun y => scope.names.lookup y.1 == some .local || scope.names.lookup y.1 == some .cell) = true)
    (hnd : ((cellsFrom 0 scope.names []).map (·.1)).Nodup)
    (h : ∀ L h₁ tk cells, L = s.heap.objs.size → Fr h₀ L h₁ (bindL (envOfC qual scope L f cdv).kindOf binds fun _ => none) → News h₀ L h₁ (cells ++ news) → CellsAre (bindC (envOfC qual scope L f cdv).kindOf binds fun _ => none) (cellsFrom (L + 1) scope.names []) cells → (∀ b o, s.heap.get? b = some o → h₁.get? b = some o) →
      wpAny (model prog w) (A.deeper (envOfC qual scope L f cdv)) (execs body (envOfC qual scope L f cdv)) (fun fl s' => R (.ok (.ret (match fl with | .ret v => v | _ => .none))) s')
        (fun e s' => wpAny (model prog w) (A.deeper (envOfC qual scope L f cdv)) (leaving (envOfC qual scope L f cdv) e) (fun _ s'' => R (.error e) s'') (fun e' s'' => R (.error e') s'') s') { s with heap := h₁, toks := tk })
    (hco : scope.isCoroutine = false) (hgen : scope.isGenerator = false) (hk : scope.kind = .function) : codeAny (model prog w) A (.call (.ref f) ⟨vals, []⟩) R s := by
  refine codeAny_call_cells (fd := fnOf name qual params body scope dV kV doc pm an cdv ct) (body := body) (binds := binds) hroom (X _ _ ho) rfl hlim (codeRec_of X hcd) rfl hbind rfl (kindsX hkind _) (fun s' x => ?_) hco hgen hk
  obtain ⟨h₁, tk, rfl, hk₁⟩ := x.done
  obtain ⟨cells, NC, Y⟩ := Cl.news (h₀ := s.heap) (Nat.le_refl _) fun n c hm => ⟨x.cell n c (lookup_of_mem_nodup (cellsFrom_names scope.names 0 (s.heap.objs.size + 1) [] [] rfl ▸ hnd) hm), x.above n c hm⟩
  refine h s.heap.objs.size h₁ tk cells rfl ⟨x.toInCall.ns, fun b o e => hk₁ b o (hh b o e), Nat.le_of_eq hz⟩ (fun q hq => ?_) Y hk₁
  rcases List.mem_append.mp hq with hq | hq
  · refine ⟨(NC q hq).1, (NC q hq).2.1, ?_⟩
    cases e : h₀.get? q.1 with
    | none => rfl
    | some o =>
      have := hh _ _ e
      rw [(NC q hq).2.2] at this
      cases this
  · exact ⟨hk₁ _ _ (hN q hq).1, Nat.ne_of_lt (Heap.lt_size (hN q hq).1), (hN q hq).2⟩
local macro_rules | `(tactic| fail "hook eval Name") => `(tactic| (k_here; (with_reducible show wpAny _ _ (eval (PySem.Expr.Name (Str.ofString "winner") _) (envOfC _ _ _ _ _)) _ _ _); (refine Held.out ?_)))
local macro_rules | `(tactic| fail "hook subscriptTail Name Constant ref int") => `(tactic| (k_here; (with_reducible show wpAny _ _ (subscriptTail _ _ (Value.ref _) (Value.int 0 _)) _ _ _); (refine' tup_at0 ?N ?m ?_ ?s; (case N => k_asm); (case m => k_mem); (case s => with_unfolding_all rfl))))
local macro_rules | `(tactic| fail "hook subscriptTail Name Constant ref int") => `(tactic| (k_here; (with_reducible show wpAny _ _ (subscriptTail _ _ (Value.ref _) (Value.int 1 _)) _ _ _); (refine' tup_at1 ?N ?m ?_ ?s; (case N => k_asm); (case m => k_mem); (case s => with_unfolding_all rfl))))
local macro_rules | `(tactic| fail "hook call ref") => `(tactic| (k_here; (with_reducible show wpAny _ _ (call (.ref 540) _) _ _ _); (refine Held.out ?_)))
local macro_rules | `(tactic| fail "hook exec For Name Name cons nil") => `(tactic| (k_here; (refine Held.out ?_)))
local macro_rules | `(tactic| fail "hook compareOp NotIn int ref") => `(tactic| (k_here; (refine Held.out ?_)))
local macro_rules | `(tactic| fail "hook call builtin:len") => `(tactic| (k_here; k_dflt (refine len_listK (by k_asm) (by k_mem) (by assumption) ?_; intro t' tk')))
local macro_rules | `(tactic| fail "hook binaryOp Pow int int") => `(tactic| (k_here; (refine Held.out ?_)))
local macro_rules | `(tactic| fail "hook pyIter ref") => `(tactic| (refine Held.out ?_))
local macro_rules | `(tactic| fail "hook call ref") => `(tactic| (k_here; (with_reducible show wpAny _ _ (call (.ref 727) _) _ _ _); (refine Held.out ?_)))
local macro_rules | `(tactic| fail "hook call builtin:max") => `(tactic| (k_here; (refine Held.out ?_)))
local macro_rules | `(tactic| fail "hook call type:enumerate") => `(tactic| (k_here; (refine Held.out ?_)))
local macro_rules | `(tactic| fail "hook call ref") => `(tactic| (k_here; (with_reducible show wpAny _ _ (call (.ref 718) _) _ _ _); (refine Held.out ?_)))
local macro_rules | `(tactic| fail "hook call ref") => `(tactic| (k_here; (with_reducible show wpAny _ _ (call (.ref 594) _) _ _ _); (refine Held.out ?_)))
local macro_rules | `(tactic| fail "hook subscriptTail Name BinOp") => `(tactic| (k_here; (refine Held.out ?_)))
local macro_rules | `(tactic| fail "hook eval Name") => `(tactic| (k_here; (with_reducible show wpAny _ _ (eval (PySem.Expr.Name (Str.ofString "right") _) (envOfC _ _ _ _ _)) _ _ _); (refine Held.out ?_)))
local macro_rules | `(tactic| fail "hook call ref") => `(tactic| (k_here; (with_reducible show wpAny _ _ (call (.ref 681) _) _ _ _); (refine Held.out ?_)))
local macro_rules | `(tactic| fail "hook exec For Tuple Call cons nil") => `(tactic| (k_here; (refine Held.out ?_)))
local macro_rules | `(tactic| fail "hook exec For Name Call cons nil") => `(tactic| (k_here; (refine Held.out ?_)))
local macro_rules | `(tactic| fail "hook subscriptTail Name Slice ref ref") => `(tactic| (k_here; (refine Held.out ?_)))
local macro_rules | `(tactic| k_all) => `(tactic| first | assumption | exact ne_one (by assumption) | (refine' ne_two ?a ?b; (case a => assumption); (case b => omega)))
local macro_rules | `(tactic| fail "hook binaryOp Add ref ref") => `(tactic| (k_here; (refine Held.out ?_)))
local macro_rules | `(tactic| fail "hook compareOp Eq ref ref") => `(tactic| (k_here; (refine Held.out ?_)))
local macro_rules | `(tactic| fail "hook exec Assign cons ListComp") => `(tactic| (k_here; (refine Held.out ?_)))
local macro_rules | `(tactic| fail "hook call builtin:len") => `(tactic| (k_here; (with_reducible show wpAny _ _ (call _ [Value.ref (Rc.x _)]) _ _ _); (refine Held.out ?_)))

theorem mem_drop6 {α : Type} {a b c d e x1 x2 x3 q : α} {l : List α} (h : q ∈ a :: x1 :: x2 :: x3 :: l) : q ∈ a :: b :: c :: d :: e :: x1 :: x2 :: x3 :: l := by
  simp only [List.mem_cons] at h ⊢
  grind
theorem cell_int {o : Obj} {a b : Int} {t : Tok} (h : o.data = .cell (some (.int a t))) (e : a = b) : ∃ o' t, o' = o ∧ o'.data = .cell (some (.int b t)) := ⟨o, t, rfl, by rw [← e]; exact h⟩
theorem pick_int {c2 c3 c4 c5 : Int} {t2 t3 t4 t5 : Tok} {n i : Nat} {v : Value} (h : ([Value.int c2 t2, Value.int c3 t3, Value.int c4 t4, Value.int c5 t5].take n).toArray[i]? = some v) : ∃ k t, v = .int k t := by
  rw [List.getElem?_toArray] at h
  have h1 := List.mem_of_mem_take (List.mem_of_getElem? h)
  simp only [List.mem_cons, List.not_mem_nil, or_false] at h1
  rcases h1 with rfl | rfl | rfl | rfl <;> exact ⟨_, _, rfl⟩
theorem three_fmod (c : Int) : ∃ a : Nat, c.fmod 3 = (a : Int) ∧ a < 3 := by
  have h1 := Int.fmod_nonneg_of_pos c (by decide : (0 : Int) < 3)
  have h2 := Int.fmod_lt_of_pos c (by decide : (0 : Int) < 3)
  exact ⟨(c.fmod 3).toNat, by omega, by omega⟩
theorem r_fmod (c : Int) {r : Nat} (hr : 0 < (r : Int)) : ∃ b : Nat, 3 + c.fmod r = (b : Int) ∧ 3 ≤ b ∧ b < 3 + r := by
  have h1 := Int.fmod_nonneg_of_pos c hr
  have h2 := Int.fmod_lt_of_pos c hr
  exact ⟨(3 + c.fmod r).toNat, by omega, by omega, by omega⟩
theorem tup_open {h₀ h : Heap} {L T : Addr} {a b : Int} {ta tb : Tok} {led : List (Addr × Obj)} (N : News h₀ L h ((T, { cls := .type "tuple", data := .seq #[.int a ta, .int b tb] }) :: led)) :
    ∃ T' ta' tb', T' = T ∧ News h₀ L h ((T', { cls := .type "tuple", data := .seq #[.int a ta', .int b tb'] }) :: led) := ⟨T, ta, tb, rfl, N⟩
theorem mem_sw5 {c i d q : Addr × Obj} {e : Er} {es : List Er} {BB : List (Addr × Obj)} (h : q ∈ c :: ([i] ++ d :: ((es ++ [e]).map (fun e => (e.T, edO e)) ++ BB))) : q ∈ (e.T, edO e) :: c :: i :: d :: (es.map (fun e => (e.T, edO e)) ++ BB) := by
  simp only [List.cons_append, List.nil_append, List.mem_cons, List.mem_append, List.map_append, List.map_cons, List.map_nil, List.not_mem_nil, or_false] at h ⊢
  grind
theorem mem_sw6 {q : Addr × Obj} {e : Er} {es : List Er} {BB : List (Addr × Obj)} (h : q ∈ (es ++ [e]).map (fun e => (e.T, edO e)) ++ BB) : q = (e.T, edO e) ∨ q ∈ es.map (fun e => (e.T, edO e)) ++ BB := by
  simp only [List.cons_append, List.nil_append, List.mem_cons, List.mem_append, List.map_append, List.map_cons, List.map_nil, List.not_mem_nil, or_false] at h ⊢
  grind
theorem mem_sw7 {α : Type} {lv t52 ln lc p dp D De Dd W M R t80 t88 q : α} {l : List α} (h : q ∈ lv :: t52 :: t80 :: t88 :: W :: M :: ln :: lc :: p :: dp :: D :: (l ++ [De, Dd, R])) : q ∈ lv :: ln :: lc :: p :: dp :: D :: (l ++ [De, Dd, W, M, R, t52, t80, t88]) := by
  simp only [List.mem_cons, List.mem_append, List.not_mem_nil, or_false] at h ⊢
  grind
/-- a frame's names, two of them loose -/
abbrev map2 (x1 x2 : Str) (m0 : Str → Option Value) (v1 v2 : Option Value) : Str → Option Value := fun y => if y = x1 then v1 else if y = x2 then v2 else m0 y
theorem map2_begin {h₀ h : Heap} {L : Addr} {m0 : Str → Option Value} (x1 x2 : Str) (F : Fr h₀ L h m0) : Fr h₀ L h (map2 x1 x2 m0 (m0 x1) (m0 x2)) := by
  refine Fr.to F fun y => ?_
  simp only [map2]
  split
  · rename_i h; rw [h]
  split
  · rename_i h; rw [h]
  rfl
theorem map2_set {x1 x2 : Str} {m0 : Str → Option Value} {a b : Option Value} {v1 v2 : Value} (hne : x1 ≠ x2) : setM (setM (map2 x1 x2 m0 a b) x1 (some v1)) x2 (some v2) = map2 x1 x2 m0 (some v1) (some v2) := by
  funext y
  simp only [setM, map2]
  by_cases h1 : y = x1
  · subst h1
    simp [hne]
  · by_cases h2 : y = x2
    · subst h2
      simp [h1]
    · simp [h1, h2]
/-- the state of the loop that fills the profile -/
structure Pf where
  vs : List Vr
  c : Nat
  ps : Array Value
  pl : Option Value
  ed : Option Value
abbrev vrA (vs : List Vr) : Array Value := (vs.map fun r => Value.ref r.v).toArray
theorem two_inj {a b c d : Value} (h : (#[a, b] : Array Value) = #[c, d]) : a = c ∧ b = d := by
  have := congrArg Array.toList h
  simp only [List.cons.injEq, and_true] at this
  exact this
theorem cell_at (c0 c1 c2 c3 c4 c5 : Int) (t0 t1 t2 t3 t4 t5 : Tok) {i : Nat} (h : i < 4) : ∃ k t, (#[Value.int c0 t0, .int c1 t1, .int c2 t2, .int c3 t3, .int c4 t4, .int c5 t5] : Array Value)[((2 : Int) + (i : Int)).toNat]? = some (.int k t) := by
  obtain rfl | rfl | rfl | rfl : i = 0 ∨ i = 1 ∨ i = 2 ∨ i = 3 := by omega
  all_goals exact ⟨_, _, rfl⟩
theorem five_fmod (c : Int) : ∃ n : Nat, 1 + c.fmod 5 = (n : Int) ∧ 1 ≤ n ∧ n ≤ 5 := by
  have h1 := Int.fmod_nonneg_of_pos c (by decide : (0 : Int) < 5)
  have h2 := Int.fmod_lt_of_pos c (by decide : (0 : Int) < 5)
  exact ⟨(1 + c.fmod 5).toNat, by omega, by omega, by omega⟩
theorem sm_two {a b : Nat} (ta tb : Tok) (h1 : a < 3) (h2 : 3 ≤ b) (h3 : b < 6) : Sm [(a, ta), (b, tb)] := by
  have := (Vr.Ok.sm (r := ⟨0, 0, 0, 0, (a, b), 1, 0, 0, 0, 0, ta, tb⟩) ⟨h1, h2, h3, Nat.le_refl 1, (by decide : 1 ≤ 5)⟩)
  exact this
theorem led_open {h₀ h : Heap} {L a : Addr} {o : Obj} {led : List (Addr × Obj)} (N : News h₀ L h ((a, o) :: led)) : ∃ a', a' = a ∧ News h₀ L h ((a', o) :: led) := ⟨a, rfl, N⟩
theorem mem_sw8 {α : Type} {lv t52 x dx v dv l2 e0 it0 q : α} {l : List α} (h : q ∈ lv :: t52 :: x :: dx :: v :: dv :: l2 :: e0 :: it0 :: l) : q ∈ x :: dx :: v :: dv :: l2 :: e0 :: it0 :: lv :: t52 :: l := by
  simp only [List.mem_cons] at h ⊢
  grind
theorem vo_open {w : World} {h₀ h : Heap} {L dv x : Addr} {wt : Int} {t1 t2 tw : Tok} {a b c : Addr × Obj} {led : List (Addr × Obj)} (N : News h₀ L h (a :: b :: c :: (dv, voD w x wt t1 t2 tw) :: led)) : ∃ tw', News h₀ L h (a :: b :: c :: (dv, voD w x wt t1 t2 tw') :: led) := ⟨tw, N⟩
theorem mem_sw9 {α : Type} {e i lv t52 t80 t88 W M x dx v dv x1 dx1 v1 dv1 l2 q : α} {B rest : List α} (h : q ∈ [e, i] ++ lv :: t52 :: t80 :: t88 :: W :: M :: ((B ++ [x, dx, v, dv]) ++ rest)) : q ∈ x :: dx :: v :: dv :: lv :: t52 :: x1 :: dx1 :: v1 :: dv1 :: l2 :: e :: i :: t80 :: t88 :: W :: M :: (B ++ rest) := by
  simp only [List.cons_append, List.nil_append, List.mem_cons, List.mem_append, List.not_mem_nil, or_false] at h ⊢
  grind
theorem mem_sw10 {α : Type} {a b c d q : α} {B N rest : List α} (h : q ∈ a :: b :: c :: d :: ((B ++ N) ++ rest)) : q ∈ N ∨ q ∈ a :: b :: c :: d :: (B ++ rest) := by
  simp only [List.mem_cons, List.mem_append] at h ⊢
  grind
structure Mk where
  m : Nat
  t : Tok
  g : Option Value
theorem mem_sw11 {α : Type} {M I lv t52 t80 t88 W q : α} {l : List α} (h : q ∈ M :: ([I] ++ lv :: t52 :: t80 :: t88 :: W :: l)) : q ∈ I :: lv :: t52 :: t80 :: t88 :: W :: M :: l := by
  simp only [List.cons_append, List.nil_append, List.mem_cons] at h ⊢
  grind
theorem mem_sw12 {α : Type} {M lv t52 t80 t88 W q : α} {l : List α} (h : q ∈ lv :: t52 :: t80 :: t88 :: W :: l) : q ∈ lv :: t52 :: t80 :: t88 :: W :: M :: l := by
  simp only [List.mem_cons] at h ⊢
  grind
theorem mask_bit (i p : Nat) : (((0 : Int) + (i : Int) * 1).fdiv (p : Int)).fmod 2 = ((i / p % 2 : Nat) : Int) := by
  rw [Int.zero_add, Int.mul_one, Int.fdiv_eq_ediv_of_nonneg _ (Int.natCast_nonneg p), Int.fmod_eq_emod_of_nonneg _ (by decide)]
  push_cast
  rfl
theorem max_int (a b : Nat) : (if (b : Int) > (a : Int) then (b : Int) else (a : Int)) = ((max a b : Nat) : Int) := by
  split <;> omega
theorem map2_two {h₀ h : Heap} {L : Addr} {x1 x2 : Str} {m0 : Str → Option Value} {a b v : Option Value} (hne : x1 ≠ x2) (F : Fr h₀ L h (setM (map2 x1 x2 m0 a b) x2 v)) : Fr h₀ L h (map2 x1 x2 m0 a v) := by
  refine Fr.to F fun y => ?_
  simp only [setM, map2]
  by_cases h1 : y = x1
  · subst h1
    simp [hne]
  · by_cases h2 : y = x2
    · subst h2
      simp [h1]
    · simp [h1, h2]
theorem map2_both {h₀ h : Heap} {L : Addr} {x1 x2 : Str} {m0 : Str → Option Value} {a b v1 v2 : Option Value} (hne : x1 ≠ x2) (F : Fr h₀ L h (fun y => if y = x1 then v1 else setM (map2 x1 x2 m0 a b) x2 v2 y)) : Fr h₀ L h (map2 x1 x2 m0 v1 v2) := by
  refine Fr.to F fun y => ?_
  simp only [setM, map2]
  by_cases h1 : y = x1
  · subst h1
    simp
  · by_cases h2 : y = x2
    · subst h2
      simp [h1]
    · simp [h1, h2]
theorem max_one (a : Nat) : (if (a : Int) - 1 > 1 then (a : Int) - 1 else 1) = ((max 1 (a - 1) : Nat) : Int) := by
  split <;> omega
structure Sf where
  s : Option Value
  to : Option Value
  le : Option Value
  ow : Obj
  p1 : Array Value
  p2 : Array Value
  p3 : Array Value
abbrev map3 (x1 x2 x3 : Str) (m0 : Str → Option Value) (v1 v2 v3 : Option Value) : Str → Option Value := fun y => if y = x1 then v1 else if y = x2 then v2 else if y = x3 then v3 else m0 y
theorem map3_begin {h₀ h : Heap} {L : Addr} {m0 : Str → Option Value} (x1 x2 x3 : Str) (F : Fr h₀ L h m0) : Fr h₀ L h (map3 x1 x2 x3 m0 (m0 x1) (m0 x2) (m0 x3)) := by
  refine Fr.to F fun y => ?_
  simp only [map3]
  split
  · rename_i h; rw [h]
  split
  · rename_i h; rw [h]
  split
  · rename_i h; rw [h]
  rfl
theorem mem_sw13 {α : Type} {I W t52 t80 t88 M lv q : α} {l : List α} (h : q ∈ [I] ++ W :: t52 :: t80 :: t88 :: M :: lv :: l) : q ∈ I :: M :: lv :: t52 :: t80 :: t88 :: W :: l := by
  simp only [List.cons_append, List.nil_append, List.mem_cons] at h ⊢
  grind
theorem mem_sw14 {α : Type} {W t52 t80 t88 M lv q : α} {l : List α} (h : q ∈ W :: M :: lv :: l) : q ∈ M :: lv :: t52 :: t80 :: t88 :: W :: l := by
  simp only [List.mem_cons] at h ⊢
  grind
theorem mem_sw15 {α : Type} {W t52 t80 t88 M lv q : α} {l : List α} (h : q ∈ W :: t52 :: t80 :: t88 :: M :: lv :: l) : q ∈ M :: lv :: t52 :: t80 :: t88 :: W :: l := by
  simp only [List.mem_cons] at h ⊢
  grind
theorem mem_sw16 {α : Type} {I W t52 t80 t88 M lv q : α} {l : List α} (h : q ∈ t52 :: t80 :: t88 :: I :: W :: M :: lv :: l) : q ∈ I :: W :: t52 :: t80 :: t88 :: M :: lv :: l := by
  simp only [List.mem_cons] at h ⊢
  grind
abbrev map1 (x1 : Str) (m0 : Str → Option Value) (v1 : Option Value) : Str → Option Value := fun y => if y = x1 then v1 else m0 y
theorem map1_begin {h₀ h : Heap} {L : Addr} {m0 : Str → Option Value} (x1 : Str) (F : Fr h₀ L h m0) : Fr h₀ L h (map1 x1 m0 (m0 x1)) := by
  refine Fr.to F fun y => ?_
  simp only [map1]
  split
  · rename_i h; rw [h]
  rfl
theorem mem_sw17 {α : Type} {W J Dt t52 t80 t88 I M lv q : α} {l r : List α} (h : q ∈ W :: ([J] ++ Dt :: t52 :: t80 :: t88 :: I :: M :: lv :: (r ++ l))) : q ∈ J :: Dt :: (r ++ t52 :: t80 :: t88 :: I :: W :: M :: lv :: l) := by
  simp only [List.cons_append, List.nil_append, List.mem_cons, List.mem_append] at h ⊢
  grind
theorem cell_ne {h₀ h : Heap} {L c : Addr} {oc : Obj} {v : Option Value} {q : Addr × Obj} {led : List (Addr × Obj)} (N : News h₀ L h led) (m1 : (c, oc) ∈ led) (hc : oc.data = .cell v) (m2 : q ∈ led) (hq : ∀ v, q.2.data ≠ .cell v) : q.1 ≠ c := fun e => by
  have h1 := (N _ m1).1
  have h2 := (N _ m2).1
  rw [e] at h2
  dsimp only at h1
  rw [h1] at h2
  exact hq v (by rw [← Option.some.inj h2]; exact hc)
theorem mem_sw18 {α : Type} {W Dt t52 t80 t88 I M lv q : α} {l r : List α} (h : q ∈ Dt :: t52 :: t80 :: t88 :: I :: M :: lv :: (r ++ l)) : q ∈ Dt :: (r ++ t52 :: t80 :: t88 :: I :: W :: M :: lv :: l) := by
  simp only [List.cons_append, List.nil_append, List.mem_cons, List.mem_append] at h ⊢
  grind
theorem has_hits (cv : List (Nat × Tok)) (e : Edge) : hits (cv.map (·.1)) e = (has cv e.1 || has cv e.2) := by
  have h1 : ∀ x, (cv.map (·.1)).contains x = has cv x := fun x => by
    rw [Bool.eq_iff_iff, List.contains_iff_mem, List.any_eq_true, List.mem_map]
    constructor
    · rintro ⟨a, ha, rfl⟩
      exact ⟨a, ha, beq_self_eq_true _⟩
    · rintro ⟨a, ha, h⟩
      exact ⟨a, ha, eq_of_beq h⟩
  unfold hits
  rw [h1, h1]
theorem win_iff {r : Nat} (hr : r = 2 ∨ r = 3) {vs1 : List Vr} {es : List Er} (hlen : vs1.length ≤ 4) (hv2 : vs1.map (·.e) = es.map (·.e)) {k : Addr} (hes : ∀ e ∈ es, k < e.T ∧ e.e.1 < 3 ∧ 3 ≤ e.e.2 ∧ e.e.2 < 3 + r) (hv4 : ∀ v ∈ vs1, v.Ok)
    {mm rr : Nat} (hmm : mm = mostL (es.map (·.e)) (2 ^ es.length)) (hrr : rr ≤ mm) {cv : List (Nat × Tok)} (hc : cv.length = rr)
    (hmax : ∀ d ∈ combos (3 + r) 0 rr, Mine.sc (vs1.map fun r => (r.e, r.wt)) d ≤ Mine.sc (vs1.map fun r => (r.e, r.wt)) (cv.map (·.1))) :
    edA (es.filter (fun e => !hits (cv.map (·.1)) e.e)) = #[] ↔ rr = mm := by
  have e1 : (vs1.map fun r => (r.e, r.wt)).map (·.1) = es.map (·.e) := by rw [List.map_map]; exact hv2
  have h := winner hr (vs := vs1.map fun r => (r.e, r.wt)) (by rw [List.length_map]; exact hlen) (fun v hv => by
      have h1 : v.1 ∈ es.map (·.e) := by rw [← e1]; exact List.mem_map_of_mem hv
      obtain ⟨e, he, h2⟩ := List.mem_map.mp h1
      rw [← h2]
      exact (hes e he).2) (fun v hv => by
      obtain ⟨u, hu, rfl⟩ := List.mem_map.mp hv
      exact (hv4 u hu).w1) (most := mm) (by rw [e1, List.length_map]; exact hmm) hrr (c := cv.map (·.1)) (by rw [List.length_map]; exact hc) hmax
  rw [e1, List.filter_map] at h
  rw [← h]
  simp [edA]
theorem same_dec {P : Prop} [Decidable P] {a b : Nat} (h : P ↔ a = b) : (decide P != ((a : Int) == (b : Int))) = false := by
  by_cases e : a = b
  · subst e
    simp [h]
  · have h1 : ¬ P := fun q => e (h.mp q)
    have h2 : ((a : Int) == (b : Int)) = false := by
      rw [beq_eq_false_iff_ne]
      omega
    simp [h1, h2]
theorem map1_set {h₀ h : Heap} {L : Addr} {x1 : Str} {m0 : Str → Option Value} {a v : Option Value} (F : Fr h₀ L h (setM (map1 x1 m0 a) x1 v)) : Fr h₀ L h (map1 x1 m0 v) := by
  refine Fr.to F fun y => ?_
  simp only [setM, map1]
  by_cases h1 : y = x1
  · simp [h1]
  · simp [h1]
theorem map3_end {h₀ h : Heap} {L : Addr} {m0 : Str → Option Value} {a b c s t l : Option Value} (F : Fr h₀ L h (map1 (Str.ofString "left") (fun y => if y = Str.ofString "told" then t else setM (map3 (Str.ofString "seats") (Str.ofString "told") (Str.ofString "left") m0 a b c) (Str.ofString "seats") s y) l)) :
    Fr h₀ L h (map3 (Str.ofString "seats") (Str.ofString "told") (Str.ofString "left") m0 s t l) := by
  refine Fr.to F fun y => ?_
  by_cases h1 : y = Str.ofString "seats"
  · rw [h1]; rfl
  by_cases h2 : y = Str.ofString "told"
  · rw [h2]; rfl
  by_cases h3 : y = Str.ofString "left"
  · rw [h3]; rfl
  simp only [setM, map1, map3, if_neg h1, if_neg h2, if_neg h3]
theorem mem_sw19 {α : Type} {W Dt t52 t80 t88 I M lv q : α} {l r : List α} (h : q ∈ [I] ++ W :: t52 :: t80 :: t88 :: M :: lv :: l) : q ∈ W :: Dt :: t52 :: t80 :: t88 :: I :: M :: lv :: (r ++ l) := by
  simp only [List.cons_append, List.nil_append, List.mem_cons, List.mem_append] at h ⊢
  grind
theorem two_fmod (c : Int) : ∃ r : Nat, 2 + c.fmod 2 = (r : Int) ∧ (r = 2 ∨ r = 3) := by
  have h1 := Int.fmod_nonneg_of_pos c (by decide : (0 : Int) < 2)
  have h2 := Int.fmod_lt_of_pos c (by decide : (0 : Int) < 2)
  exact ⟨(2 + c.fmod 2).toNat, by omega, by omega⟩
theorem four_fmod (c : Int) : ∃ n : Nat, 3 + c.fmod 4 = ((n + 2 : Nat) : Int) ∧ 1 ≤ n ∧ n ≤ 4 := by
  have h1 := Int.fmod_nonneg_of_pos c (by decide : (0 : Int) < 4)
  have h2 := Int.fmod_lt_of_pos c (by decide : (0 : Int) < 4)
  exact ⟨(1 + c.fmod 4).toNat, by omega, by omega, by omega⟩
theorem pick_run4 (v0 v1 v2 v3 v4 v5 : Value) {n : Nat} (h : n ≤ 4) : slicePick #[v0, v1, v2, v3, v4, v5] (some 2) (some ((n + 2 : Nat) : Int)) none = ([v2, v3, v4, v5].take n).toArray := by
  rw [show (2 : Int) = ((2 : Nat) : Int) from rfl, slicePick_run _ 2 (n + 2) (by simp; omega) (by omega)]
  simp
theorem six {us : List Value} {ns : List Int} (h : IntsAre us ns) (hn : ns.length = 6) : ∃ c0 c1 c2 c3 c4 c5 t0 t1 t2 t3 t4 t5, us = [.int c0 t0, .int c1 t1, .int c2 t2, .int c3 t3, .int c4 t4, .int c5 t5] := by
  match ns, hn with
  | [c0, c1, c2, c3, c4, c5], _ =>
    obtain ⟨t0, u0, rfl, h0⟩ := h.cons_inv
    obtain ⟨t1, u1, rfl, h1⟩ := h0.cons_inv
    obtain ⟨t2, u2, rfl, h2⟩ := h1.cons_inv
    obtain ⟨t3, u3, rfl, h3⟩ := h2.cons_inv
    obtain ⟨t4, u4, rfl, h4⟩ := h3.cons_inv
    obtain ⟨t5, u5, rfl, h5⟩ := h4.cons_inv
    obtain rfl := h5.nil_inv
    exact ⟨c0, c1, c2, c3, c4, c5, t0, t1, t2, t3, t4, t5, rfl⟩
theorem law_ok (w : World) (lo : List Str) (mean : ExcName → Option Value) (mg mb : Str → Option Value) (s : Shared) (h₀ base : Heap) (script : Addr) (nS : Nat) (vs : List Value) (ns : List Int) (hI : IntsAre vs ns) (hlen : ns.length ≤ 63) (R : Result → Shared → Prop)
    (B : Below callerA base [] h₀) (XB : (kf.heap_1 w.params).In base) (TB : Top topProg lo mean mg mb base) (X₀ : (kf.heap_1 w.params).In h₀) (T₀ : Top topProg lo mean mg mb h₀)
    (hh : ∀ b o, h₀.get? b = some o → s.heap.get? b = some o) (hz : h₀.objs.size = s.heap.objs.size) (hN : ∀ q ∈ [(52, tabObj #[]), (80, tabObj #[]), (88, tabObj #[])], s.heap.get? q.1 = some q.2 ∧ h₀.get? q.1 = none)
    (hS : h₀.get? script = some (listOf vs.toArray nS)) (hG : AllBare s.gens) (hret : ∀ s' p1 p2 p3, Aft s s' → (∀ b o, h₀.get? b = some o → s'.heap.get? b = some o) → s'.heap.get? 52 = some (tabObj p1) → s'.heap.get? 80 = some (tabObj p2) → s'.heap.get? 88 = some (tabObj p3) → TriplesOk p1.toList → TriplesOk p2.toList → TriplesOk p3.toList → R (.ok (.ret (.bool true))) s') :
    codeAny (model prog w) callerA (.call (.ref 732) ⟨[.ref script], []⟩) R s := by
  refine' law_enter (X₀.keeps hh) hh hz hN (T₀.nolimit.keeps hh) ?k6 ?k7 ?k8 ?k9 ?kB ?cn ?_ ?c2 ?c3 ?c4
  case k6 => k_is
  case k7 => k_is
  case k8 => decide
  case k9 => exact rfl
  case kB => exact rfl
  case cn => decide
  case c2 => exact rfl
  case c3 => exact rfl
  case c4 => exact rfl
  intro L h₁ tk cells hL0 F N Y hk
  have hY := CellsAre.three Y
  obtain ⟨oW, oM, oR, hE, dW, dM, dR⟩ := hY
  subst hE
  clear Y
  replace dW : oW.data = .cell none := dW
  replace dM : oM.data = .cell none := dM
  replace dR : oR.data = .cell none := dR
  replace F : Fr h₀ L h₁ (fun y => if y = Str.ofString "script" then some (.ref script) else none) := Fr.to F fun y => rfl
  simp only [List.cons_append, List.nil_append] at N
  have X := X₀
  have hSl : h₀.IsList script vs.toArray := ⟨_, hS, rfl, nS, rfl⟩
  have hL := hI
  have hsz : vs.toArray.size ≤ sizeLine := by rw [List.size_toArray, hI.length, sizeLine_eq]; omega
  k_steps
  refine Held.mk ?_
  rename Fr _ _ _ _ => F1
  rename News _ _ _ _ => N1
  refine kmk_slice_ints (lo := none) (hi := some 6) F1 N1 (hSl.at fun o e => F1.keep _ o e) .none (.int _ _) hI (kmk_upto hI (by decide)) rfl ?_ (by with_unfolding_all rfl) (fun _ => rfl) hsz
  intro Da wa ha Fa Na la hIa _ _
  (try k_lt la)
  k_steps
  refine Held.mk ?_
  refine kmk_slice_ints (lo := none) (hi := some 6) Fa Na (hSl.at fun o e => Fa.keep _ o e) .none (.int _ _) hI (kmk_upto hI (by decide)) rfl ?_ (by with_unfolding_all rfl) (fun _ => rfl) hsz
  intro Db wb hb Fb Nb lb hIb _ _
  (try k_lt lb)
  k_steps
  refine Held.mk ?_
  refine kmk_slice_ints (hi := none) (ns := [1, 3, 7, 14, 35, 9]) Fb Nb (News.isList Nb (.tail _ (.tail _ (.head _)))) (.int _ _) .none (.cons _ _ (.cons _ _ (.cons _ _ (.cons _ _ (.cons _ _ (.cons _ _ .nil)))))) (kmk_from (.cons _ _ (.cons _ _ (.cons _ _ (.cons _ _ (.cons _ _ (.cons _ _ .nil)))))) (Int.natCast_nonneg _)) rfl ?_ (by with_unfolding_all rfl) (fun _ => rfl) (by rw [sizeLine_eq]; simp)
  intro Dc wc hc Fc Nc lc hIc _ _
  (try k_lt lc)
  k_steps
  refine Held.mk ?_
  refine kmk_add_ints Fc Nc (News.isList Nc (.tail _ (.tail _ (.head _)))) (News.isList Nc (.head _)) hIa hIc ?_ (by rw [List.length_take, List.length_drop, sizeLine_eq]; simp; omega)
  intro Dd wd hd Fd Nd ld hId
  obtain ⟨c0, c1, c2, c3, c4, c5, t0, t1, t2, t3, t4, t5, rfl⟩ := six hId (by rw [List.length_append, List.length_take, List.length_drop]; simp; omega)
  have lW := ld _ (.tail _ (.tail _ (.tail _ (.tail _ (.head _)))))
  replace Nd : News h₀ L hd [(Dd, listOf #[.int c0 t0, .int c1 t1, .int c2 t2, .int c3 t3, .int c4 t4, .int c5 t5] 0), (L + 3, oW), (L + 2, oM), (L + 1, oR), (52, tabObj #[]), (80, tabObj #[]), (88, tabObj #[])] := fun q hq => Nd q (mem_drop6 hq)
  have l52 : @LT.lt Nat _ 52 L := by rw [hL0]; exact Heap.lt_size (hN _ (.head _)).1
  have l80 : @LT.lt Nat _ 80 L := by rw [hL0]; exact Heap.lt_size (hN _ (.tail _ (.head _))).1
  have l88 : @LT.lt Nat _ 88 L := by rw [hL0]; exact Heap.lt_size (hN _ (.tail _ (.tail _ (.head _)))).1
  replace lW : @LT.lt Nat _ (L + 3) Dd := lW
  clear ld hId hIc hIb hIa la lb lc
  k_steps
  refine Held.mk ?_
  rename Fr _ _ _ _ => F2
  rename News _ _ _ _ => N2
  rename _ = Data.cell (some (Value.int _ _)) => dR2
  obtain ⟨r, hr, hr23⟩ := two_fmod c0
  obtain ⟨oR2, tR, rfl, dR3⟩ := cell_int dR2 hr
  clear dR2
  have dR2 := dR3
  have hr0 : (r : Int) ≠ 0 := by omega
  have hr1 : 0 < (r : Int) := by omega
  obtain ⟨n, hn, hn1, hn4⟩ := four_fmod c1
  refine comp_oneA F2 (by rfl) rfl rfl rfl (by with_unfolding_all rfl) (by decide) rfl (by decide) ?_
  k_steps
  refine Held.mk ?_
  rename Fr _ _ _ _ => F3
  rename News _ _ _ _ => N3
  refine kmk_slice (lo := some 2) (hi := some ((n + 2 : Nat) : Int)) F3 N3 (News.isList N3 (.head _)) (.int _ _) (by rw [← hn]; exact .int _ _) ?_ (by with_unfolding_all rfl) (fun _ => rfl) (by rw [sizeLine_eq]; simp)
  intro De h4 F4 N4 l4
  rw [pick_run4 _ _ _ _ _ _ hn4] at N4
  have lI4 := l4
  obtain ⟨BB, hBB, N4⟩ : ∃ B, B = _ ∧ News h₀ L h4 B := ⟨_, rfl, N4⟩
  have mDe : (De, listOf ([Value.int c2 t2, Value.int c3 t3, Value.int c4 t4, Value.int c5 t5].take n).toArray 0) ∈ BB := by rw [hBB]; exact .head _
  have mR := (show (L + 1, _) ∈ BB by rw [hBB]; exact .tail _ (.tail _ (.tail _ (.tail _ (.head _)))))
  refine iterL_K F4 N4 mDe ?_
  intro I h5 F5 N5 l5 st5 lI5
  have hDI : De < I := l5 _ mDe
  have hBD : ∀ p ∈ BB, p.1 ≤ De := fun p hp => by
    rw [hBB] at hp
    rcases List.mem_cons.mp hp with rfl | hp
    · exact Nat.le_refl _
    · exact Nat.le_of_lt (l4 p hp)
  have hnz : ([Value.int c2 t2, Value.int c3 t3, Value.int c4 t4, Value.int c5 t5].take n).toArray.size = n := by simp; omega
  refine Held.mk ⟨List Er, fun es => es.map (fun e => (e.T, edO e)) ++ BB, fun i es ys => (es.length = i ∧ i ≤ 4) ∧ ys = edA es ∧ ∀ e ∈ es, De < e.T ∧ e.e.1 < 3 ∧ 3 ≤ e.e.2 ∧ e.e.2 < 3 + r, n, [I, De], [I], _, (fun i h => h.IsListIter I De i ∧ h.IsList De ([Value.int c2 t2, Value.int c3 t3, Value.int c4 t4, Value.int c5 t5].take n).toArray), I, [(I, litO De 0)], [], rfl,
    fun C hC => Pull.name (hnz ▸ Walks.list rfl I De (Nat.ne_of_lt hDI) _) (lookup_relabel_local rfl) rfl hC, ?hO, ?hfp, ?hsrc, st5, ⟨rfl, id, Nat.le_refl _⟩, F5, N5, rfl, ⟨⟨rfl, by decide⟩, rfl, fun e he => nomatch he⟩, fun p hp q => Nat.ne_of_lt (l5 p hp) (List.mem_singleton.mp q), ?hsz, ?turn, ?fin⟩
  case hO =>
    rintro i h ⟨⟨o, ho, _⟩, _⟩ b hb
    rw [List.mem_singleton.mp hb]
    exact ⟨o, ho⟩
  case hfp =>
    intro b hb
    rcases List.mem_cons.mp hb with rfl | hb
    · exact lI5
    · rw [List.mem_singleton.mp hb]; exact Nat.lt_trans hDI lI5
  case hsrc =>
    intro b hb
    rcases List.mem_cons.mp hb with rfl | hb
    · exact .inl (.head _)
    · rw [List.mem_singleton.mp hb]; exact .inr ⟨_, fun _ _ _ _ => List.mem_append_right _ mDe⟩
  case hsz =>
    rintro i es ys ⟨⟨h1, h2⟩, rfl, h3⟩
    have : (edA es).size = es.length := by simp [edA]
    omega
  case turn =>
    rintro i es ys c D C own oC m₁ m₂ s' hi hB ⟨⟨hlen2, _⟩, rfl, hes⟩ hA hown hns F6 N6 hd hDw hDC
    obtain ⟨oI', rfl⟩ := own_one hown
    obtain ⟨v, hv, hm⟩ := hB
    obtain ⟨k, t, rfl⟩ := pick_int hv
    have hpk : m₂ (Str.ofString "pick") = some (.int k t) := by rw [hm]; rfl
    clear hm
    have mR6 := List.mem_append_right (es.map fun e => (e.T, edO e)) mR
    refine wpAny_pure ?_
    rw [if_pos rfl]
    dsimp only [List.cons_append, List.nil_append] at N6
    k_steps
    rename Fr _ _ _ _ => F9
    rename News _ _ _ _ => N9
    rename _ < _ ∧ _ < _ ∧ _ < _ ∧ AllLt _ _ => lT
    obtain ⟨a, ha, ha3⟩ := three_fmod k
    obtain ⟨b, hb, hb1, hb2⟩ := r_fmod (k.fdiv 3) hr1
    rw [ha, hb] at N9
    obtain ⟨T, ta, tb, rfl, N10⟩ := tup_open N9
    have hT := all_of lT.2.2.2
    refine Held.mk ⟨es ++ [⟨T, (a, b), ta, tb⟩], ⟨⟨by rw [List.length_append, List.length_singleton, hlen2], by omega⟩, by simp [edA], fun e he => ?_⟩, ⟨⟨rfl, id, Nat.le_refl _⟩, F9, ⟨oC, m₂, trivial, hns, fun q hq => N10 q (mem_sw5 hq)⟩, fun p hp => ?_⟩, fun p hp => ?_⟩
    · rcases List.mem_append.mp he with he | he
      · exact hes e he
      · rw [List.mem_singleton.mp he]; exact ⟨hT _ (List.mem_append_right _ mDe), ha3, hb1, hb2⟩
    · rcases List.mem_cons.mp hp with rfl | hp
      · exact ⟨hDw, hDC⟩
      · rcases mem_sw6 hp with rfl | hp
        · exact ⟨fun q => Nat.ne_of_gt lT.2.1 (List.mem_singleton.mp q), Nat.ne_of_gt lT.1⟩
        · exact ⟨(hd p hp).1, (hd p hp).2.1⟩
    · rcases mem_sw6 hp with rfl | hp
      · exact Nat.ne_of_gt lT.2.2.1
      · exact (hd p hp).2.2
  case fin =>
    rintro D c es ys s' ⟨⟨hlen2, _⟩, rfl, hes⟩ hA F6 N6 hd hnew s6 hA6 F7 N7
    have hDeD : De < D := hnew _ _ (N5 _ (.tail _ mDe)).1
    clear F6 N6
    have mR7 := List.mem_append_right (es.map fun e => (e.T, edO e)) mR
    k_steps
    refine Held.mk ?_
    refine nameX_C N7 (c := L + 1) rfl (.tail _ mR7) dR2 ?_
    k_steps
    refine Held.mk ?_
    rename Fr _ _ _ _ => F8
    rename News _ _ _ _ => N8
    have hG8 : AllBare _ := hA6.gens (hA.gens hG)
    rw [show (3 : Int) + (r : Int) = ((3 + r : Nat) : Int) by omega]
    refine' (profile_make w (3 + r) _ (by omega) (by omega) _) _ _ _ _ _ _ _ _ _ _ _ _ _ _ _ _ _ _ _ _ _ B F8 X N8 T₀ ?cK ?cD ?cU hG8 ?_
    case cK => exact rfl
    case cD => ktr_room
    case cU => ktr_units
    intro r9 nw9 s9 hA9 F9 N9 hP9
    obtain ⟨p, dp, lc, ln, lv, a1, a2, a3, k9, nl9, c9, its, ys9, rfl, hcs, hcz, rfl, oN, o1, o2, o3, o4, o5, o6, o7, oM'⟩ := hP9
    have hG9 := hA9.gens hG8
    k_steps
    refine Held.mk ?_
    rename Fr _ _ _ _ => F10
    rename News _ _ _ _ => N10
    obtain ⟨rest, hrest⟩ : ∃ rest, rest = (ln, listOf ys9 c9) :: (lc, listOf its nl9) :: (p, instObj 681 dp) :: (dp, prD w lc ln lv a1 a2 a3 k9) :: (D, listOf (edA es) c) :: (es.map (fun e => (e.T, edO e)) ++ [(De, listOf ([Value.int c2 t2, Value.int c3 t3, Value.int c4 t4, Value.int c5 t5].take n).toArray 0), (Dd, listOf #[.int c0 t0, .int c1 t1, .int c2 t2, .int c3 t3, .int c4 t4, .int c5 t5] 0), (L + 1, oR2)]) := ⟨_, rfl⟩
    have hrest2 : News h₀ L _ ((lv, listOf #[] 0) :: (52, tabObj #[]) :: (80, tabObj #[]) :: (88, tabObj #[]) :: (L + 3, oW) :: (L + 2, oM) :: rest) := fun q hq => N10 q (by rw [hrest] at hq; rw [hBB]; exact mem_sw7 hq)
    have r1 : (ln, listOf ys9 c9) ∈ rest := by rw [hrest]; exact .head _
    have r2 : (lc, listOf its nl9) ∈ rest := by rw [hrest]; exact .tail _ (.head _)
    have r3 : (p, instObj 681 dp) ∈ rest := by rw [hrest]; exact .tail _ (.tail _ (.head _))
    have r4 : (dp, prD w lc ln lv a1 a2 a3 k9) ∈ rest := by rw [hrest]; exact .tail _ (.tail _ (.tail _ (.head _)))
    have r5 : (D, listOf (edA es) c) ∈ rest := by rw [hrest]; exact .tail _ (.tail _ (.tail _ (.tail _ (.head _))))
    have r6 : ∀ e ∈ es, (e.T, edO e) ∈ rest := fun e he => by rw [hrest]; exact .tail _ (.tail _ (.tail _ (.tail _ (.tail _ (List.mem_append_left _ (List.mem_map_of_mem he))))))
    have r7 : (Dd, listOf #[.int c0 t0, .int c1 t1, .int c2 t2, .int c3 t3, .int c4 t4, .int c5 t5] 0) ∈ rest := by rw [hrest]; exact .tail _ (.tail _ (.tail _ (.tail _ (.tail _ (List.mem_append_right _ (.tail _ (.head _)))))))
    have oDe : @LT.lt Nat _ (L + 3) De := l4 (L + 3, oW) (.tail _ (.head _))
    have oD : @LT.lt Nat _ (L + 3) D := Nat.lt_trans oDe hDeD
    have odp : @LT.lt Nat _ D dp := oN (D, _) (.head _)
    have oln : @LT.lt Nat _ D ln := oM' (D, _) (.head _)
    have hrL : ∀ q ∈ rest, q.1 < lv ∧ (q.1 = L + 1 ∨ @LT.lt Nat _ (L + 3) q.1) := fun q hq => by
      rw [hrest] at hq
      have o2' : @LT.lt Nat _ dp p := o1
      have o3' : @LT.lt Nat _ p lc := o2
      have o4' : @LT.lt Nat _ lc lv := o3
      have o5' : @LT.lt Nat _ ln lv := o4
      simp only [List.mem_cons, List.mem_append, List.mem_map, List.not_mem_nil, or_false] at hq
      rcases hq with rfl | rfl | rfl | rfl | rfl | ⟨e, he, rfl⟩ | rfl | rfl | rfl
      · exact ⟨o4, .inr (Nat.lt_trans oD oln)⟩
      · exact ⟨o3, .inr (Nat.lt_trans oD (Nat.lt_trans odp (Nat.lt_trans o1 o2)))⟩
      · exact ⟨Nat.lt_trans o2 o3, .inr (Nat.lt_trans oD (Nat.lt_trans odp o1))⟩
      · exact ⟨Nat.lt_trans o1 (Nat.lt_trans o2 o3), .inr (Nat.lt_trans oD odp)⟩
      · exact ⟨Nat.lt_trans odp (Nat.lt_trans o1 (Nat.lt_trans o2 o3)), .inr oD⟩
      · exact ⟨Nat.lt_trans (oN (e.T, edO e) (.tail _ (List.mem_append_left _ (List.mem_map_of_mem he)))) (Nat.lt_trans o1 (Nat.lt_trans o2 o3)), .inr (Nat.lt_trans oDe (hes e he).1)⟩
      · exact ⟨Nat.lt_trans (Nat.lt_trans hDeD odp) (Nat.lt_trans o1 (Nat.lt_trans o2 o3)), .inr oDe⟩
      · exact ⟨Nat.lt_trans (Nat.lt_trans (l4 _ (.head _)) (Nat.lt_trans hDeD odp)) (Nat.lt_trans o1 (Nat.lt_trans o2 o3)), .inr lW⟩
      · exact ⟨Nat.lt_trans (Nat.lt_trans (show @LT.lt Nat _ (L + 1) (L + 3) by omega) (Nat.lt_trans oD odp)) (Nat.lt_trans o1 (Nat.lt_trans o2 o3)), .inl rfl⟩
    have hlv : @LT.lt Nat _ (L + 3) lv := Nat.lt_trans oD (Nat.lt_trans odp (Nat.lt_trans o1 (Nat.lt_trans o2 o3)))
    have r4' := r4
    dsimp only [prD] at r4'
    clear N10
    refine for_K F10 ?_
    k_steps
    refine Held.mk ?_
    refine enum_K F10 hrest2 (.tail _ (.tail _ (.tail _ (.tail _ (.tail _ (.tail _ r5)))))) ?_
    intro e0 it0 oe0 oi0 h11 F11 N11 st11 l11 lie lt11
    refine wpAny_pyIter_enum st11.1.choose_spec ?_
    have hDit : D < it0 := l11 _ (.tail _ (.tail _ (.tail _ (.tail _ (.tail _ (.tail _ r5))))))
    have hW0 := fun (A' : Around) (hA' : A'.handled = none) => WalksT.enumerate (prog := prog) (w := w) (A := A') hA' e0 it0 D (Nat.ne_of_gt lie) (Nat.ne_of_lt (Nat.lt_trans hDit lie)) (Nat.ne_of_lt hDit) (edA es)
    refine Held.mk ⟨Pf, fun st => map2 (Str.ofString "place") (Str.ofString "edge") _ st.pl st.ed, fun st => (lv, listOf (vrA st.vs) st.c) :: (52, tabObj st.ps) :: (80, tabObj #[]) :: (88, tabObj #[]) :: (L + 3, oW) :: (L + 2, oM) :: (st.vs.flatMap (Vr.block w) ++ rest),
      fun i st => st.vs.length = i ∧ st.vs.map (·.e) = (es.take i).map (·.e) ∧ TriplesOk st.ps.toList ∧ (∀ r ∈ st.vs, r.Ok) ∧ ∀ q ∈ st.vs.flatMap (Vr.block w), lv < q.1, (edA es).size, [e0, it0, D], [e0, it0], _, StE e0 it0 D (edA es), e0, [(e0, oe0), (it0, oi0)], ⟨[], 0, #[], _, _⟩, rfl,
      Pull.pair (env := envOfC _ _ _ _ _) (hW0 _ rfl) rfl rfl rfl rfl ?hC (fun i vals hv => by obtain ⟨t, x, _, rfl⟩ := hv; exact ⟨_, _, rfl⟩), fun i h hst => StE.obj hst, ?hsrc, st11, ⟨rfl, id, Nat.le_refl _⟩, map2_begin _ _ F11, N11, rfl, ?hR, ?hdis, ?turn, ?fin⟩
    case hC =>
      intro q
      rcases List.mem_cons.mp q with q | q
      · exact (N11 _ (.head _)).2.1 q.symm
      rcases List.mem_cons.mp q with q | q
      · exact (N11 _ (.tail _ (.head _))).2.1 q.symm
      · exact (N11 (D, _) (.tail _ (.tail _ (.tail _ (.tail _ (.tail _ (.tail _ (.tail _ (.tail _ r5))))))))).2.1 (List.mem_singleton.mp q).symm
    case hsrc =>
      intro b hb
      rcases List.mem_cons.mp hb with rfl | hb
      · exact .inl (.head _)
      rcases List.mem_cons.mp hb with rfl | hb
      · exact .inl (.tail _ (.head _))
      · rw [List.mem_singleton.mp hb]; exact .inr ⟨_, fun _ _ _ => .tail _ (.tail _ (.tail _ (.tail _ (.tail _ (.tail _ (List.mem_append_right _ r5))))))⟩
    case hR => exact ⟨rfl, rfl, by simp [TriplesOk], by simp, by simp⟩
    case hdis =>
      intro q hq z
      have h1 := l11 q hq
      rcases List.mem_cons.mp z with z | z
      · exact Nat.ne_of_lt (Nat.lt_trans h1 lie) z
      · exact Nat.ne_of_lt h1 (List.mem_singleton.mp z)
    case turn =>
      rintro i ⟨vs0, cv, ps, pl, ed⟩ own m₂ s' hi hB ⟨hv1, hv2, hv3, hv4, hv5⟩ hA11 hown F12 N12 hd12
      obtain ⟨oe1, oi1, rfl⟩ := own_two hown
      obtain ⟨v1, v2, ⟨t, x, hx, hv⟩, rfl⟩ := hB
      have hiv : i < es.length := by simpa [edA] using hi
      have hi4 : i < 4 := by omega
      obtain ⟨r, hr⟩ : ∃ r, es[i] = r := ⟨_, rfl⟩
      have hrm : r ∈ es := hr ▸ List.getElem_mem hiv
      have hxr : x = .ref r.T := by
        simp only [edA, List.getElem?_toArray, List.getElem?_map, List.getElem?_eq_getElem hiv, Option.map_some, hr] at hx
        exact (Option.some.inj hx).symm
      obtain ⟨rfl, rfl⟩ := two_inj hv
      subst hxr
      rw [map2_set (by decide)] at F12
      obtain ⟨tl, htl⟩ : ∃ tl, tl = (80, tabObj #[]) :: (88, tabObj #[]) :: (L + 3, oW) :: (L + 2, oM) :: (vs0.flatMap (Vr.block w) ++ rest) := ⟨_, rfl⟩
      have b1 : (r.T, edO r) ∈ tl := htl ▸ .tail _ (.tail _ (.tail _ (.tail _ (List.mem_append_right _ (r6 r hrm)))))
      have b3 : (p, instObj 681 dp) ∈ tl := htl ▸ .tail _ (.tail _ (.tail _ (.tail _ (List.mem_append_right _ r3))))
      have b4 : (dp, prD w lc ln lv a1 a2 a3 k9) ∈ tl := htl ▸ .tail _ (.tail _ (.tail _ (.tail _ (List.mem_append_right _ r4))))
      have b2 : (lc, listOf its nl9) ∈ tl := htl ▸ .tail _ (.tail _ (.tail _ (.tail _ (List.mem_append_right _ r2))))
      have b7 : (Dd, listOf #[.int c0 t0, .int c1 t1, .int c2 t2, .int c3 t3, .int c4 t4, .int c5 t5] 0) ∈ tl := htl ▸ .tail _ (.tail _ (.tail _ (.tail _ (List.mem_append_right _ r7))))
      have b4' := b4
      dsimp only [prD] at b4'
      dsimp only [edO] at b1
      dsimp only at N12
      rw [← htl] at N12
      dsimp only [List.cons_append, List.nil_append] at N12
      k_steps
      refine Held.mk ?_
      rename Fr _ _ _ _ => F13
      rename News _ _ _ _ => N13
      obtain ⟨kc, tc, hkc⟩ := cell_at c0 c1 c2 c3 c4 c5 t0 t1 t2 t3 t4 t5 hi4
      refine item_list (News.isList N13 (.tail _ (.tail _ (.tail _ (.tail _ (.tail _ b7)))))) (by omega) (by omega) hkc ?_
      k_steps
      refine Held.mk ?_
      rename Fr _ _ _ _ => F14
      rename News _ _ _ _ => N14
      rename _ < _ ∧ _ < _ ∧ _ < _ ∧ _ < _ ∧ AllLt _ _ => o14
      obtain ⟨l2, rfl, N14⟩ := led_open N14
      have hG14 := hA11.gens hG9
      obtain ⟨wt, hwt, hw1, hw5⟩ := five_fmod (kc.fdiv 9)
      rw [hwt]
      have hrv := hes r hrm
      have hsm : Sm [(r.e.1, r.ta), (r.e.2, r.tb)] := sm_two r.ta r.tb hrv.2.1 hrv.2.2.1 (by omega)
      have h52l : @LT.lt Nat _ 52 lv := Nat.lt_trans l52 (Nat.lt_trans (by omega) hlv)
      have hlvit : lv < it0 := l11 _ (.head _)
      have htl52 : ∀ q ∈ tl, q.1 ≠ 52 := fun q hq => by
        rw [htl] at hq
        simp only [List.mem_cons, List.mem_append] at hq
        rcases hq with rfl | rfl | rfl | rfl | hq | hq
        · decide
        · decide
        · exact Nat.ne_of_gt (by show @LT.lt Nat _ 52 (L + 3); omega)
        · exact Nat.ne_of_gt (by show @LT.lt Nat _ 52 (L + 2); omega)
        · exact Nat.ne_of_gt (Nat.lt_trans h52l (hv5 q hq))
        · rcases (hrL q hq).2 with e | e
          · rw [e]; exact Nat.ne_of_gt (by show @LT.lt Nat _ 52 (L + 1); omega)
          · exact Nat.ne_of_gt (Nat.lt_trans (by show @LT.lt Nat _ 52 (L + 3); omega) e)
      refine' (voter_make w l2 [(r.e.1, r.ta), (r.e.2, r.tb)] hsm wt _ (by omega) (seqO "list" [(r.e.1, r.ta), (r.e.2, r.tb)] 0) (.seq "list" 0 (.inl rfl))) _ _ _ _ _ _ _ _ _ _ _ _ _ _ _ _ _ _ _ _ _ ((l2, listOf #[.int (r.e.1 : Int) r.ta, .int (r.e.2 : Int) r.tb] 0) :: (e0, oe1) :: (it0, oi1) :: (lv, listOf (vrA vs0) cv) :: (52, tabObj ps) :: tl) (fun o => (l2, listOf #[.int (r.e.1 : Int) r.ta, .int (r.e.2 : Int) r.tb] 0) :: (e0, oe1) :: (it0, oi1) :: (lv, listOf (vrA vs0) cv) :: (52, o) :: tl) ps B F14 X N14 T₀ ?cK ?cD ?cU hG14 ?cUp hv3 (.head _) ?_
      case cK => exact rfl
      case cD => ktr_room
      case cU => ktr_units
      case cUp => exact .tail (Nat.ne_of_gt (Nat.lt_trans h52l o14.2.2.1)) (.tail (Nat.ne_of_gt (Nat.lt_trans h52l (Nat.lt_trans hlvit lie))) (.tail (Nat.ne_of_gt (Nat.lt_trans h52l hlvit)) (.tail (Nat.ne_of_gt h52l) (.head htl52))))
      intro v1 dv1 x1 dx1 ep1 ps1 u1 u2 s15 hA15 F15 N15 ht15 lt1 lt2 lt3 lt4
      have hG15 := hA15.gens hG14
      k_steps
      refine Held.mk ?_
      rename Fr _ _ _ _ => F16
      rename News _ _ _ _ => N16
      have hlt1 : ∀ q ∈ tl, q.1 < dv1 := fun q hq => lt1 q (.tail _ (.tail _ (.tail _ (.tail _ (.tail _ hq)))))
      have hlvd : lv < dv1 := lt1 (lv, _) (.tail _ (.tail _ (.tail _ (.head _))))
      have h52d : @LT.lt Nat _ 52 dv1 := Nat.lt_trans h52l hlvd
      have htllv : ∀ q ∈ tl, q.1 ≠ lv := fun q hq => by
        rw [htl] at hq
        simp only [List.mem_cons, List.mem_append] at hq
        rcases hq with rfl | rfl | rfl | rfl | hq | hq
        · exact Nat.ne_of_lt (Nat.lt_trans l80 (Nat.lt_trans (by omega) hlv))
        · exact Nat.ne_of_lt (Nat.lt_trans l88 (Nat.lt_trans (by omega) hlv))
        · exact Nat.ne_of_lt hlv
        · exact Nat.ne_of_lt (Nat.lt_trans (by show @LT.lt Nat _ (L + 2) (L + 3); omega) hlv)
        · exact Nat.ne_of_gt (hv5 q hq)
        · exact Nat.ne_of_lt (hrL q hq).1
      refine' (add_voter w p dp lc ln lv v1 dv1 x1 dx1 a1 a2 a3 u1 u2 _ k9 nl9 ep1 cv its (vrA vs0) ?zA [(r.e.1, r.ta), (r.e.2, r.tb)] hsm (by simp) wt (by omega) ?zJ (by omega)
        ((x1, csO w dx1 ep1 [(r.e.1, r.ta), (r.e.2, r.tb)]) :: (dx1, emptyDict) :: (v1, instObj 718 dv1) :: (dv1, voD w x1 wt u1 u2 _) :: (l2, listOf #[.int (r.e.1 : Int) r.ta, .int (r.e.2 : Int) r.tb] 0) :: (e0, oe1) :: (it0, oi1) :: tl) h52l ?zR1 ?zR2) _ _ _ _ _ _ _ _ _ _ _ _ _ _ _ _ _ _ _ _ _ ps1 B F16 X (fun q hq => N16 q (mem_sw8 hq)) T₀ ?cK ?cD ?cU hG15 ht15 ?zm1 ?zm2 ?zm3 (.tail _ (.tail _ (.head _))) (.tail _ (.tail _ (.tail _ (.head _)))) (.head _) ?_
      case zA =>
        have : (vrA vs0).size = vs0.length := by simp [vrA]
        dsimp only at hv1
        omega
      case zJ =>
        intro e he
        rw [hcz]
        simp only [List.mem_cons, List.not_mem_nil, or_false] at he
        rcases he with rfl | rfl
        · have := hrv.2.1; show ((r.e.1 : Nat) : Int) < _; omega
        · have := hrv.2.2.2; show ((r.e.2 : Nat) : Int) < _; omega
      case zR1 =>
        intro q hq
        simp only [List.mem_cons] at hq
        rcases hq with rfl | rfl | rfl | rfl | rfl | rfl | rfl | hq
        · exact Nat.ne_of_gt (Nat.lt_trans hlvd (Nat.lt_trans lt2 (Nat.lt_trans lt3 lt4)))
        · exact Nat.ne_of_gt (Nat.lt_trans hlvd (Nat.lt_trans lt2 lt3))
        · exact Nat.ne_of_gt (Nat.lt_trans hlvd lt2)
        · exact Nat.ne_of_gt hlvd
        · exact Nat.ne_of_gt o14.2.2.1
        · exact Nat.ne_of_gt (Nat.lt_trans hlvit lie)
        · exact Nat.ne_of_gt hlvit
        · exact htllv q hq
      case zR2 =>
        intro q hq
        simp only [List.mem_cons] at hq
        rcases hq with rfl | rfl | rfl | rfl | rfl | rfl | rfl | hq
        · exact Nat.ne_of_gt (Nat.lt_trans h52d (Nat.lt_trans lt2 (Nat.lt_trans lt3 lt4)))
        · exact Nat.ne_of_gt (Nat.lt_trans h52d (Nat.lt_trans lt2 lt3))
        · exact Nat.ne_of_gt (Nat.lt_trans h52d lt2)
        · exact Nat.ne_of_gt h52d
        · exact Nat.ne_of_gt (Nat.lt_trans h52l o14.2.2.1)
        · exact Nat.ne_of_gt (Nat.lt_trans h52l (Nat.lt_trans hlvit lie))
        · exact Nat.ne_of_gt (Nat.lt_trans h52l hlvit)
        · exact htl52 q hq
      case cK => exact rfl
      case cD => ktr_room
      case cU => ktr_units
      case zm1 => exact .tail _ (.tail _ (.tail _ (.tail _ (.tail _ (.tail _ (.tail _ b3))))))
      case zm2 => exact .tail _ (.tail _ (.tail _ (.tail _ (.tail _ (.tail _ (.tail _ b4))))))
      case zm3 => exact .tail _ (.tail _ (.tail _ (.tail _ (.tail _ (.tail _ (.tail _ b2))))))
      intro v2 dv2 x2 dx2 ep2 ps2 w1 w2 n2 s16 hA16 F17 N17 ht17 lt5 lt6 lt7 lt8 lt9
      clear F16 N16
      k_steps
      rename Fr _ _ _ _ => F18
      obtain ⟨tw2, N18⟩ := vo_open N17
      dsimp only at hv1 hv2 hv4 hv5 hd12
      rw [← htl] at hd12
      have hrest3 : ∀ q ∈ (e0, oe1) :: (it0, oi1) :: tl, q.1 < dv2 := fun q hq => lt5 q (by
        rcases List.mem_cons.mp hq with rfl | hq
        · exact .tail _ (.tail _ (.tail _ (.tail _ (.tail _ (.head _)))))
        rcases List.mem_cons.mp hq with rfl | hq
        · exact .tail _ (.tail _ (.tail _ (.tail _ (.tail _ (.tail _ (.head _))))))
        · exact .tail _ (.tail _ (.tail _ (.tail _ (.tail _ (.tail _ (.tail _ hq)))))))
      have hblk : ∀ q ∈ Vr.block w ⟨v2, dv2, x2, dx2, r.e, wt, ep2, w1, w2, tw2, r.ta, r.tb⟩, dv2 ≤ q.1 := fun q hq => by
        simp only [Vr.block, List.mem_cons, List.not_mem_nil, or_false] at hq
        rcases hq with rfl | rfl | rfl | rfl
        · exact Nat.le_of_lt (Nat.lt_trans lt7 (Nat.lt_trans lt8 lt9))
        · exact Nat.le_of_lt (Nat.lt_trans lt7 lt8)
        · exact Nat.le_of_lt lt7
        · exact Nat.le_refl _
      refine Held.mk ⟨rfl, ⟨vs0 ++ [⟨v2, dv2, x2, dx2, r.e, wt, ep2, w1, w2, tw2, r.ta, r.tb⟩], n2, ps2, some (.int i t), some (.ref r.T)⟩, ⟨?_, ?_, ht17, ?_, ?_⟩, ⟨?_, ?_, ?_⟩, F18, fun q hq => N18 q ?_, ?_⟩
      · rw [List.length_append, List.length_singleton, hv1]
      · rw [List.map_append, hv2, List.take_succ_eq_append_getElem hiv, hr, List.map_append]
        rfl
      · intro q hq
        rcases List.mem_append.mp hq with hq | hq
        · exact hv4 q hq
        · rw [List.mem_singleton.mp hq]
          exact ⟨hrv.2.1, hrv.2.2.1, by show r.e.2 < 6; omega, hw1, hw5⟩
      · intro q hq
        rw [List.flatMap_append] at hq
        rcases List.mem_append.mp hq with hq | hq
        · exact hv5 q hq
        · rw [List.flatMap_singleton] at hq
          exact Nat.lt_of_lt_of_le lt6 (hblk q hq)
      · exact hA16.os.trans hA15.os
      · exact fun G => hA16.gens (hA15.gens G)
      · exact Nat.le_trans hA15.size hA16.size
      · rw [htl]
        dsimp only at hq
        rw [show vrA (vs0 ++ [(⟨v2, dv2, x2, dx2, r.e, wt, ep2, w1, w2, tw2, r.ta, r.tb⟩ : Vr)]) = (vrA vs0).push (.ref v2) by simp [vrA], List.flatMap_append, List.flatMap_singleton] at hq
        exact mem_sw9 hq
      · intro q hq
        rcases List.mem_cons.mp hq with rfl | hq
        · exact hd12 (lv, listOf (vrA vs0) cv) (.head _)
        rcases List.mem_cons.mp hq with rfl | hq
        · exact hd12 (52, tabObj ps) (.tail _ (.head _))
        rw [List.flatMap_append, List.flatMap_singleton] at hq
        rcases mem_sw10 hq with hq | hq
        · intro z
          have h9 := hblk q hq
          rcases List.mem_cons.mp z with z | z
          · exact Nat.lt_irrefl _ (Nat.lt_of_lt_of_le (hrest3 (e0, oe1) (.head _)) (z ▸ h9))
          · exact Nat.lt_irrefl _ (Nat.lt_of_lt_of_le (hrest3 (it0, oi1) (.tail _ (.head _))) (List.mem_singleton.mp z ▸ h9))
        · rw [← htl] at hq
          exact hd12 q (.tail _ (.tail _ hq))
    case fin =>
      rintro ⟨vs1, cv, ps, pl, ed⟩ s11 ⟨hv1, hv2, hv3, hv4, hv5⟩ hA12 F12 N12
      have hG12 := hA12.gens hG9
      dsimp only at hv1 hv2 hv4 hv5 F12 N12
      rw [show (edA es).size = es.length by simp [edA], List.take_length] at hv2
      rw [show (edA es).size = es.length by simp [edA]] at hv1
      have r5' : (D, listOf (edA es) c) ∈ vs1.flatMap (Vr.block w) ++ rest := List.mem_append_right _ r5
      have hez : (edA es).size ≤ 1000 := by simp [edA]; omega
      have hpw : (2 : Int) ^ es.length = ((2 ^ es.length : Nat) : Int) := by push_cast; rfl
      have hpl : 2 ^ es.length ≤ 16 := Nat.pow_le_pow_right (by decide : 0 < 2) (show es.length ≤ 4 by omega)
      k_steps
      refine Held.mk ?_
      rename Fr _ _ _ _ => F13
      rename News _ _ _ _ => N13
      refine for_C (c := L + 2) F13 rfl rfl rfl ?_
      k_steps
      refine Held.mk ?_
      refine pow_int_small (by omega) (by omega) (by decide) ?_
      k_steps
      refine Held.mk ?_
      rename Fr _ _ _ _ => F14
      rename News _ _ _ _ => N14
      rename IsRange _ _ _ _ _ _ _ _ => rg
      refine iterR_K (n := 2 ^ es.length) F14 N14 rg (by rw [List.length_map, Int.toNat_natCast, hpw, Int.zero_add]) (by decide) (by decide) (by omega) ?_
      intro I2 oI2 h15 F15 N15 l15 st15 lI15
      have htl2 : ∀ q ∈ vs1.flatMap (Vr.block w) ++ rest, q.1 = L + 1 ∨ @LT.lt Nat _ (L + 3) q.1 := fun q hq => by
        rcases List.mem_append.mp hq with hq | hq
        · exact .inr (Nat.lt_trans hlv (hv5 q hq))
        · exact (hrL q hq).2
      refine Held.mk ⟨Mk, fun st => map2 (Str.ofString "most") (Str.ofString "group") _ (some (.int (st.m : Int) st.t)) st.g, fun _ => (lv, listOf (vrA vs1) cv) :: (52, tabObj ps) :: (80, tabObj #[]) :: (88, tabObj #[]) :: (L + 3, oW) :: (vs1.flatMap (Vr.block w) ++ rest), fun i st => st.m = mostL (es.map (·.e)) i, 2 ^ es.length, [I2], [I2], fun (i : Nat) v => ∃ t, v = .int (0 + (i : Int) * 1) t, StR I2 0 (2 ^ es.length), I2, [(I2, oI2)], ⟨0, _, _⟩, oM, none, rfl, Walks.range rfl I2 0 1 (2 ^ es.length), fun i h st => StR.obj st, fun b hb => .inl hb, ?hcf, st15, ⟨rfl, id, Nat.le_refl _⟩, map2_begin (Str.ofString "most") (Str.ofString "group") F15, fun q hq => N15 q (mem_sw11 hq), dM, rfl, rfl, ?hdis, ?turn, ?fin⟩
      case hcf =>
        intro q
        exact Nat.ne_of_lt (l15 (L + 2, oM) (.tail _ (.tail _ (.tail _ (.tail _ (.tail _ (.head _))))))) (List.mem_singleton.mp q)
      case hdis =>
        intro q hq
        refine ⟨fun z => ?_, ?_⟩
        · have h1 := l15 q (mem_sw12 hq)
          exact Nat.ne_of_lt h1 (List.mem_singleton.mp z)
        · simp only [List.mem_cons] at hq
          rcases hq with rfl | rfl | rfl | rfl | rfl | hq
          · exact Nat.ne_of_gt (Nat.lt_trans (by show @LT.lt Nat _ (L + 2) (L + 3); omega) hlv)
          · exact Nat.ne_of_lt (by show @LT.lt Nat _ 52 (L + 2); omega)
          · exact Nat.ne_of_lt (by show @LT.lt Nat _ 80 (L + 2); omega)
          · exact Nat.ne_of_lt (by show @LT.lt Nat _ 88 (L + 2); omega)
          · exact Nat.ne_of_gt (by show @LT.lt Nat _ (L + 2) (L + 3); omega)
          · rcases htl2 q hq with e | e
            · rw [e]; exact Nat.ne_of_lt (by show @LT.lt Nat _ (L + 1) (L + 2); omega)
            · exact Nat.ne_of_gt (Nat.lt_trans (by show @LT.lt Nat _ (L + 2) (L + 3); omega) e)
      case turn =>
        rintro i x ⟨mm, mt, gg⟩ own oc s16 hi ⟨t, rfl⟩ hR hA13 hown hoc F16 N16 hd16
        obtain ⟨oI3, rfl⟩ := own_one hown
        dsimp only at hR F16 N16 hd16
        have hG16 := hA13.gens hG12
        dsimp only [List.cons_append, List.nil_append] at N16
        k_steps
        refine Held.mk ?_
        refine comp_oneA F16 (by rfl) rfl rfl rfl (by with_unfolding_all rfl) (by decide) rfl (by decide) ?_
        k_steps
        refine Held.mk ?_
        refine enum_K F16 N16 (.tail _ (.tail _ (.tail _ (.tail _ (.tail _ (.tail _ (.tail _ r5'))))))) ?_
        intro e2 it2 oe2 oi2 h17 F17 N17 st17 l17 lie2 lt17
        refine wpAny_pyIter_enum st17.1.choose_spec ?_
        have hDit2 : D < it2 := l17 _ (.tail _ (.tail _ (.tail _ (.tail _ (.tail _ (.tail _ (.tail _ r5')))))))
        have hW2 := fun (A' : Around) (hA' : A'.handled = none) => WalksT.enumerate (prog := prog) (w := w) (A := A') hA' e2 it2 D (Nat.ne_of_gt lie2) (Nat.ne_of_lt (Nat.lt_trans hDit2 lie2)) (Nat.ne_of_lt hDit2) (edA es)
        have hez2 : (edA es).size = es.length := by simp [edA]
        refine Held.mk ⟨Unit, fun _ => _, fun j _ ys => j ≤ es.length ∧ ys = edA (mpick (es.take j) i), (edA es).size, [e2, it2, D], [e2, it2], _, StE e2 it2 D (edA es), e2, [(e2, oe2), (it2, oi2)], (), rfl,
          fun C hC => Pull.pair (hW2 _ rfl) rfl (lookup_relabel_local rfl) (lookup_relabel_local rfl) rfl hC (fun i vals hv => by obtain ⟨t, x, _, rfl⟩ := hv; exact ⟨_, _, rfl⟩), fun i h hst => StE.obj hst, ?hfp, ?hsrc, st17, ⟨rfl, id, Nat.le_refl _⟩, F17, N17, rfl, ⟨Nat.zero_le _, rfl⟩, ?hdis2, ?hsz2, ?turn2, ?fin2⟩
        case hfp =>
          intro b hb
          rcases List.mem_cons.mp hb with rfl | hb
          · exact lt17
          rcases List.mem_cons.mp hb with rfl | hb
          · exact Nat.lt_trans lie2 lt17
          · rw [List.mem_singleton.mp hb]; exact Nat.lt_trans hDit2 (Nat.lt_trans lie2 lt17)
        case hsrc =>
          intro b hb
          rcases List.mem_cons.mp hb with rfl | hb
          · exact .inl (.head _)
          rcases List.mem_cons.mp hb with rfl | hb
          · exact .inl (.tail _ (.head _))
          · rw [List.mem_singleton.mp hb]; exact .inr ⟨_, fun _ _ _ _ => .tail _ (.tail _ (.tail _ (.tail _ (.tail _ (.tail _ (.tail _ r5'))))))⟩
        case hdis2 =>
          intro q hq z
          have h1 := l17 q hq
          rcases List.mem_cons.mp z with z | z
          · exact Nat.ne_of_lt (Nat.lt_trans h1 lie2) z
          · exact Nat.ne_of_lt h1 (List.mem_singleton.mp z)
        case hsz2 =>
          rintro j _ ys ⟨hj, rfl⟩
          have h1 := (mpick_sub (es.take j) i).length_le
          have h2 : (edA (mpick (es.take j) i)).size = (mpick (es.take j) i).length := by simp [edA]
          rw [List.length_take] at h1
          omega
        case turn2 =>
          rintro j _ ys c2 D2 C own2 oC m₁ m₂ s18 hj hB2 ⟨hjl, rfl⟩ hA18 hown2 hns F18 N18 hd18 hDw hDC
          obtain ⟨oe3, oi3, rfl⟩ := own_two hown2
          obtain ⟨v1, v2, ⟨t2', x, hx, hv⟩, hm2⟩ := hB2
          obtain ⟨rfl, rfl⟩ := two_inj hv
          have hjv : j < es.length := by omega
          obtain ⟨r2', hr2'⟩ : ∃ r, es[j] = r := ⟨_, rfl⟩
          have hxr : v2 = .ref r2'.T := by
            simp only [edA, List.getElem?_toArray, List.getElem?_map, List.getElem?_eq_getElem hjv, Option.map_some, hr2'] at hx
            exact (Option.some.inj hx).symm
          subst hxr
          have hp1 : m₂ (Str.ofString "place") = some (.int (j : Int) t2') := by rw [hm2]; rfl
          have hp2 : m₂ (Str.ofString "edge") = some (.ref r2'.T) := by rw [hm2]; rfl
          clear hm2
          have htk : es.take (j + 1) = es.take j ++ [r2'] := by rw [List.take_succ_eq_append_getElem hjv, hr2']
          have hlt : (es.take j).length = j := by rw [List.length_take]; omega
          obtain ⟨pj, hpj⟩ : ∃ pj, pj = 2 ^ j := ⟨_, rfl⟩
          have hpj0 : 0 < pj := by rw [hpj]; exact Nat.pow_pos (by decide)
          have hpjI : ((2 : Int) ^ (((j : Nat) : Int)).toNat) = (pj : Int) := by rw [Int.toNat_natCast, hpj]; push_cast; rfl
          have hpj1 : (pj : Int) ≠ 0 := by omega
          have hpj2 : 0 < (pj : Int) := by omega
          have hbit := mask_bit i pj
          dsimp only [List.cons_append, List.nil_append] at N18
          refine wpAny_tests_one ?_
          k_steps
          refine Held.mk ?_
          refine pow_int_small (by omega) (by omega) (by decide) ?_
          rw [hpjI]
          have hpj16 : pj ≤ 16 := by rw [hpj]; exact Nat.pow_le_pow_right (by decide : 0 < 2) (show j ≤ 4 by omega)
          refine floordiv_int hpj1 ?_ (Or.inl (PyProof.noPylong_small (by omega)))
          k_steps
          · refine Held.mk ⟨(), ⟨hjv, ?_⟩, ⟨⟨rfl, id, Nat.le_refl _⟩, F18, ⟨oC, m₂, trivial, hns, N18⟩, fun p hp => ?_⟩, fun p hp => (hd18 p hp).2.2⟩
            · rw [htk, mpick_snoc, hlt, if_pos (by rw [← hpj]; omega)]
              simp [edA]
            · rcases List.mem_cons.mp hp with rfl | hp
              · exact ⟨hDw, hDC⟩
              · exact ⟨(hd18 p hp).1, (hd18 p hp).2.1⟩
          · refine Held.mk ⟨(), ⟨hjv, ?_⟩, ⟨⟨rfl, id, Nat.le_refl _⟩, F18, ⟨oC, m₂, trivial, hns, N18⟩, fun p hp => ?_⟩, fun p hp => (hd18 p hp).2.2⟩
            · rw [htk, mpick_snoc, hlt, if_neg (by rw [← hpj]; omega), List.append_nil]
            · rcases List.mem_cons.mp hp with rfl | hp
              · exact ⟨hDw, hDC⟩
              · exact ⟨(hd18 p hp).1, (hd18 p hp).2.1⟩
        case fin2 =>
          rintro D2 c2 _ ys s19 ⟨_, rfl⟩ hA19 F19 N19 hd19 hnew19 s20 hA20 F20 N20
          clear F19 N19
          have hgl := (mpick_sub es i).length_le
          have hgz : (edA (mpick es i)).size ≤ 1000 := by simp [edA]; omega
          have hgz2 : ((edA (mpick es i)).size : Int) = ((mpick es i).length : Int) := by simp [edA]
          rw [hez2, List.take_length] at N20
          have hG20 : AllBare _ := hA20.gens (hA19.gens hG16)
          k_steps
          refine Held.mk ?_
          refine' (law_apart w D2 (mpick es i) c2 _ (by omega) (.head _) ?zm2) _ _ _ _ _ _ _ _ _ _ _ _ _ _ _ _ _ _ _ _ _ B F20 X N20 T₀ ?cK ?cD ?cU hG20 ?_
          case zm2 => exact fun e he => .tail _ (.tail _ (.tail _ (.tail _ (.tail _ (.tail _ (.tail _ (.tail _ (List.mem_append_right _ (r6 e ((mpick_sub es i).subset he))))))))))
          case cK => exact rfl
          case cD => ktr_room
          case cU => ktr_units
          intro rv nw s21 hA21 F21 N21 hP21
          obtain ⟨rfl, rfl⟩ := hP21
          have hmap : mpick (es.map (·.e)) i = (mpick es i).map (·.e) := (mpick_map _ _ _).symm
          have hAft : Aft s16 s21 := (hA19.trans ⟨hA20.os, hA20.gens, hA20.size⟩).trans ⟨hA21.os, hA21.gens, hA21.size⟩
          cases hb : apartB ((mpick es i).map (·.e)) with
          | false =>
            k_steps
            rename Fr _ _ _ _ => F22
            rename News _ _ _ _ => N22
            refine Held.mk ⟨rfl, ⟨mm, mt, some (.ref D2)⟩, oc, _, ?_, hAft, map2_two (by decide) F22, fun q hq => N22 q (.tail _ hq), hoc, hd16⟩
            show mm = _
            rw [most_step, hmap, hb, hR]
            rfl
          | true =>
            k_steps
            refine Held.mk ?_
            rename Fr _ _ _ _ => F22
            rename News _ _ _ _ => N22
            refine max_two_N rfl F22 N22 ?_
            intro h23 tk23 F23 N23
            rw [hgz2, max_int]
            k_steps
            rename Fr _ _ _ _ => F24
            rename News _ _ _ _ => N24
            refine Held.mk ⟨rfl, ⟨max mm (mpick es i).length, _, some (.ref D2)⟩, oc, _, ?_, ⟨hAft.os, hAft.gens, hAft.size⟩, map2_both (by decide) F24, fun q hq => N24 q (.tail _ hq), hoc, hd16⟩
            show max mm _ = _
            rw [most_step, hmap, hb, hR, List.length_map]
            rfl
      case fin =>
        rintro ⟨mm, mt, gg⟩ oc2 vc s24 hR hA24 F24 N24 hoc2 hd24
        have hG24 := hA24.gens hG12
        dsimp only at hR F24 N24
        have hes3 : ∀ e ∈ es.map (·.e), e.1 < 3 ∧ 3 ≤ e.2 ∧ e.2 < 3 + r := fun e he => by
          obtain ⟨e', he', rfl⟩ := List.mem_map.mp he
          exact (hes e' he').2
        have hmm3 := (most_le3 hes3 (2 ^ es.length)).1
        have hmm1 := most_pos (es := es.map (·.e)) (by rw [List.length_map]; omega)
        rw [List.length_map] at hmm1
        rw [← hR] at hmm3 hmm1
        k_steps
        refine Held.mk ?_
        rename Fr _ _ _ _ => F25
        rename News _ _ _ _ => N25
        refine for_K F25 ?_
        k_steps
        refine Held.mk ?_
        rename Fr _ _ _ _ => F26
        rename News _ _ _ _ => N26
        refine max_two_N rfl F26 N26 ?_
        intro h26 tk26 F26 N26
        rw [max_one]
        k_steps
        refine Held.mk ?_
        rename Fr _ _ _ _ => F27
        rename News _ _ _ _ => N27
        rename IsRange _ _ _ _ _ _ _ _ => rg2
        obtain ⟨lo2, hlo2⟩ : ∃ lo2, lo2 = max 1 (mm - 1) := ⟨_, rfl⟩
        have hlo3 : 1 ≤ lo2 ∧ lo2 ≤ mm := by omega
        rw [← hlo2] at rg2
        refine iterR_K (a := (lo2 : Int)) (n := mm + 1 - lo2) F27 N27 rg2 (by omega) (by omega) (by omega) (by omega) ?_
        intro I3 oI3 h28 F28 N28 l28 st28 lI28
        have hI3 : ∀ q ∈ (L + 3, oW) :: (L + 2, oc2) :: (lv, listOf (vrA vs1) cv) :: (vs1.flatMap (Vr.block w) ++ rest), q.1 < I3 := fun q hq => l28 q (mem_sw14 hq)
        refine Held.mk ⟨Sf, fun st => map3 (Str.ofString "seats") (Str.ofString "told") (Str.ofString "left") _ st.s st.to st.le, fun st => (L + 3, st.ow) :: (52, tabObj st.p1) :: (80, tabObj st.p2) :: (88, tabObj st.p3) :: (L + 2, oc2) :: (lv, listOf (vrA vs1) cv) :: (vs1.flatMap (Vr.block w) ++ rest),
          fun i st => TriplesOk st.p1.toList ∧ TriplesOk st.p2.toList ∧ TriplesOk st.p3.toList ∧ ∃ v, st.ow.data = .cell v, mm + 1 - lo2, [I3], [I3], _, StR I3 lo2 (mm + 1 - lo2), I3, [(I3, oI3)], ⟨_, _, _, oW, ps, #[], #[]⟩, rfl,
          Pull.name (env := envOfC _ _ _ _ _) (Walks.range rfl I3 lo2 1 (mm + 1 - lo2)) rfl rfl ?hC, fun i h st => StR.obj st, fun b hb => .inl hb, st28, ⟨rfl, id, Nat.le_refl _⟩, map3_begin (Str.ofString "seats") (Str.ofString "told") (Str.ofString "left") F28, fun q hq => N28 q (mem_sw13 hq), rfl, ⟨hv3, by simp [TriplesOk], by simp [TriplesOk], _, dW⟩, ?hdis, ?turn, ?fin⟩
        case hC => exact fun q => (N28 _ (.head _)).2.1 (List.mem_singleton.mp q).symm
        case hdis =>
          intro q hq z
          exact Nat.ne_of_lt (l28 q (mem_sw15 hq)) (List.mem_singleton.mp z)
        case turn =>
          rintro i ⟨ss, tt, ll, ow, p1, p2, p3⟩ own m₂ s29 hi hB ⟨hp1, hp2, hp3, vw, how⟩ hA29 hown F29 N29 hd29
          obtain ⟨oI4, rfl⟩ := own_one hown
          obtain ⟨v, ⟨t, rfl⟩, rfl⟩ := hB
          dsimp only at F29 N29 hd29 hp1 hp2 hp3 how
          have hG29 := hA29.gens hG24
          obtain ⟨rr, hrr⟩ : ∃ rr, rr = lo2 + i := ⟨_, rfl⟩
          rw [show (lo2 : Int) + (i : Int) * 1 = ((rr : Nat) : Int) by omega] at F29
          dsimp only [List.cons_append, List.nil_append] at N29
          k_steps
          refine Held.mk ?_
          rename Fr _ _ _ _ => F30
          rename News _ _ _ _ => N30
          obtain ⟨bas, hbas⟩ : ∃ bas, bas = (I3, oI4) :: (L + 3, ow) :: (L + 2, oc2) :: (lv, listOf (vrA vs1) cv) :: (vs1.flatMap (Vr.block w) ++ rest) := ⟨_, rfl⟩
          have h88b : ∀ q ∈ bas, @LT.lt Nat _ 88 q.1 := fun q hq => by
            rw [hbas] at hq
            have h1 : @LT.lt Nat _ (L + 3) I3 := hI3 (L + 3, oW) (.head _)
            simp only [List.mem_cons] at hq
            rcases hq with rfl | rfl | rfl | rfl | hq
            · exact Nat.lt_trans (by show @LT.lt Nat _ 88 (L + 3); omega) h1
            · show @LT.lt Nat _ 88 (L + 3); omega
            · show @LT.lt Nat _ 88 (L + 2); omega
            · exact Nat.lt_trans (by show @LT.lt Nat _ 88 (L + 3); omega) hlv
            · rcases htl2 q hq with e | e
              · rw [e]; show @LT.lt Nat _ 88 (L + 1); omega
              · exact Nat.lt_trans (by show @LT.lt Nat _ 88 (L + 3); omega) e
          have hbt : ∀ q ∈ vs1.flatMap (Vr.block w) ++ rest, q ∈ bas := fun q hq => by rw [hbas]; exact .tail _ (.tail _ (.tail _ (.tail _ hq)))
          refine' (cc_law w p dp lc ln lv a1 a2 a3 k9 cv nl9 t _ its hcs (by omega) (by omega) rr (by omega) (by omega) vs1 hv4 (by omega) (by omega) bas (hbt _ (List.mem_append_right _ r2)) (hbt _ (List.mem_append_right _ r3)) (hbt _ (List.mem_append_right _ r4)) (by rw [hbas]; exact .tail _ (.tail _ (.tail _ (.head _)))) (fun v hv q hq => hbt _ (List.mem_append_left _ (List.mem_flatMap.mpr ⟨v, hv, hq⟩))) h88b p1 p2 p3 hp1 hp2 hp3)
            _ _ _ _ _ _ _ _ _ _ _ _ _ _ _ _ _ _ _ _ B F30 X (fun q hq => N30 q (by rw [hbas] at hq; exact mem_sw16 hq)) T₀ XB TB ?cK ?cD ?cU hG29 ?_
          case cK => exact rfl
          case cD => ktr_room
          case cU => ktr_units
          intro v31 nw31 s31 hA31 F31 N31 hP31
          obtain ⟨Dt, out, ct, recs, q1, q2, q3, rfl, rfl, hq1, hq2, hq3, hperm, hne, hrz, hall⟩ := hP31
          have hG31 := hA31.gens hG29
          k_steps
          refine Held.mk ?_
          rename Fr _ _ _ _ => F32
          rename News _ _ _ _ => N32
          have htz : out.size ≠ 0 := fun q => by
            have h1 := hperm.length_eq
            rw [Array.length_toList, List.length_map, q] at h1
            exact hne (List.length_eq_zero_iff.mp h1.symm)
          refine for_C (c := L + 3) F32 rfl rfl rfl ?_
          k_steps
          refine Held.mk ?_
          refine iterL_K F32 N32 (.head _) ?_
          intro I5 h33 F33 N33 l33 st33 lI33
          have hDt5 : Dt < I5 := l33 _ (.head _)
          have mtl : ∀ q ∈ vs1.flatMap (Vr.block w) ++ rest, q ∈ (Dt, listOf out ct) :: (52, tabObj q1) :: (80, tabObj q2) :: (88, tabObj q3) :: (I3, oI4) :: (L + 2, oc2) :: (lv, listOf (vrA vs1) cv) :: (rcLed w recs ++ (vs1.flatMap (Vr.block w) ++ rest)) := fun q hq => .tail _ (.tail _ (.tail _ (.tail _ (.tail _ (.tail _ (.tail _ (List.mem_append_right _ hq)))))))
          have N33' : News h₀ L h33 ((L + 3, ow) :: ([(I5, litO Dt 0)] ++ (Dt, listOf out ct) :: (52, tabObj q1) :: (80, tabObj q2) :: (88, tabObj q3) :: (I3, oI4) :: (L + 2, oc2) :: (lv, listOf (vrA vs1) cv) :: (rcLed w recs ++ (vs1.flatMap (Vr.block w) ++ rest)))) := fun q hq => N33 q (by rw [hbas]; exact mem_sw17 hq)
          refine Held.mk ⟨Option Value, fun st => map1 (Str.ofString "left") _ st, fun _ => (Dt, listOf out ct) :: (52, tabObj q1) :: (80, tabObj q2) :: (88, tabObj q3) :: (I3, oI4) :: (L + 2, oc2) :: (lv, listOf (vrA vs1) cv) :: (rcLed w recs ++ (vs1.flatMap (Vr.block w) ++ rest)), fun _ _ => True, out.size, [I5, Dt], [I5], fun (j : Nat) v => out[j]? = some v, (fun j h => h.IsListIter I5 Dt j ∧ h.IsList Dt out), I5, [(I5, litO Dt 0)], _, ow, vw, rfl, Walks.list rfl I5 Dt (Nat.ne_of_lt hDt5) out, ?hO, ?hsrc, ?hcf, st33, ⟨rfl, id, Nat.le_refl _⟩, map1_begin (Str.ofString "left") F33, N33', how, rfl, trivial, ?hdis3, ?turn3, ?fin3⟩
          case hO =>
            rintro j h ⟨⟨o, ho, _⟩, _⟩ b hb
            rw [List.mem_singleton.mp hb]
            exact ⟨o, ho⟩
          case hsrc =>
            intro b hb
            rcases List.mem_cons.mp hb with rfl | hb
            · exact .inl (.head _)
            · rw [List.mem_singleton.mp hb]; exact .inr ⟨_, fun _ _ _ => .head _⟩
          case hcf =>
            intro q
            rcases List.mem_cons.mp q with q | q
            · exact Nat.ne_of_lt (l33 (L + 3, ow) (by rw [hbas]; exact .tail _ (List.mem_append_right _ (.tail _ (.tail _ (.tail _ (.tail _ (.head _)))))))) q
            · exact cell_ne N33' (.head _) how (.tail _ (.tail _ (.head _))) (fun v h => nomatch h) (List.mem_singleton.mp q).symm
          case hdis3 =>
            intro q hq
            refine ⟨fun z => Nat.ne_of_lt (l33 q (by rw [hbas]; exact mem_sw18 hq)) (List.mem_singleton.mp z), ?_⟩
            rcases List.mem_cons.mp hq with rfl | hq
            · exact cell_ne N33' (.head _) how (.tail _ (.tail _ (.head _))) (fun v h => nomatch h)
            rcases List.mem_cons.mp hq with rfl | hq
            · exact Nat.ne_of_lt (by show @LT.lt Nat _ 52 (L + 3); omega)
            rcases List.mem_cons.mp hq with rfl | hq
            · exact Nat.ne_of_lt (by show @LT.lt Nat _ 80 (L + 3); omega)
            rcases List.mem_cons.mp hq with rfl | hq
            · exact Nat.ne_of_lt (by show @LT.lt Nat _ 88 (L + 3); omega)
            rcases List.mem_cons.mp hq with rfl | hq
            · exact Nat.ne_of_gt (hI3 (L + 3, oW) (.head _))
            rcases List.mem_cons.mp hq with rfl | hq
            · exact Nat.ne_of_lt (by show @LT.lt Nat _ (L + 2) (L + 3); omega)
            rcases List.mem_cons.mp hq with rfl | hq
            · exact Nat.ne_of_gt hlv
            rcases List.mem_append.mp hq with hq' | hq
            · refine cell_ne N33' (.head _) how (.tail _ (.tail _ (.tail _ (.tail _ (.tail _ (.tail _ (.tail _ (.tail _ (.tail _ (List.mem_append_left _ hq')))))))))) ?_
              obtain ⟨rc, _, rfl | rfl⟩ := mem_rcLed.mp hq'
              · exact fun v h => nomatch h
              · exact fun v h => nomatch h
            · rcases htl2 q hq with e | e
              · rw [e]; exact Nat.ne_of_lt (by show @LT.lt Nat _ (L + 1) (L + 3); omega)
              · exact Nat.ne_of_gt e
          case turn3 =>
            rintro j x le own oc s34 hj hx _ hA34 hown hoc F34 N34 hd34
            obtain ⟨oI6, rfl⟩ := own_one hown
            have hG34 := hA34.gens hG31
            obtain ⟨rc, hrc, rfl⟩ : ∃ rc ∈ recs, x = .ref rc.x := by
              have h1 : x ∈ out.toList := List.mem_of_getElem? (by rw [Array.getElem?_toList]; exact hx)
              obtain ⟨rc, hrc, e⟩ := List.mem_map.mp (hperm.mem_iff.mp h1)
              exact ⟨rc, hrc, e.symm⟩
            obtain ⟨hrsm, hrlen, hrmax⟩ := hall rc hrc
            have hr5 : rc.cv.length ≤ 4 := by omega
            obtain ⟨tl3, htl3⟩ : ∃ tl3, tl3 = rcLed w recs ++ (vs1.flatMap (Vr.block w) ++ rest) := ⟨_, rfl⟩
            have b1 : (rc.x, csO w rc.dx rc.ep rc.cv) ∈ tl3 := htl3 ▸ List.mem_append_left _ (mem_rcLed.mpr ⟨rc, hrc, .inl rfl⟩)
            have b5 : (D, listOf (edA es) c) ∈ tl3 := htl3 ▸ List.mem_append_right _ (List.mem_append_right _ r5)
            rw [← htl3] at N34 hd34
            dsimp only [List.cons_append, List.nil_append] at N34
            dsimp only at F34 hd34
            k_steps
            refine Held.mk ?_
            refine comp_oneA F34 (by rfl) rfl rfl rfl (by with_unfolding_all rfl) (by decide) rfl (by decide) ?_
            k_steps
            refine Held.mk ?_
            refine iterL_K F34 N34 (.tail _ (.tail _ (.tail _ (.tail _ (.tail _ (.tail _ (.tail _ (.tail _ (.tail _ b5))))))))) ?_
            intro I6 h35 F35 N35 l35 st35 lI35
            have hD6 : D < I6 := l35 _ (.tail _ (.tail _ (.tail _ (.tail _ (.tail _ (.tail _ (.tail _ (.tail _ (.tail _ b5)))))))))
            have hez6 : (edA es).size = es.length := by simp [edA]
            refine Held.mk ⟨Unit, fun _ => _, fun j2 _ ys => j2 ≤ es.length ∧ ys = edA ((es.take j2).filter (fun e => !hits (rc.cv.map (·.1)) e.e)), (edA es).size, [I6, D], [I6], _, (fun j h => h.IsListIter I6 D j ∧ h.IsList D (edA es)), I6, [(I6, litO D 0)], (), rfl, fun C hC => Pull.name (Walks.list rfl I6 D (Nat.ne_of_lt hD6) (edA es)) (lookup_relabel_local rfl) rfl hC, ?hO4, ?hfp4, ?hsrc4, st35, ⟨rfl, id, Nat.le_refl _⟩, F35, N35, rfl, ⟨Nat.zero_le _, rfl⟩, ?hdis4, ?hsz4, ?turn4, ?fin4⟩
            case hO4 =>
              rintro j h ⟨⟨o, ho, _⟩, _⟩ b hb
              rw [List.mem_singleton.mp hb]
              exact ⟨o, ho⟩
            case hfp4 =>
              intro b hb
              rcases List.mem_cons.mp hb with rfl | hb
              · exact lI35
              · rw [List.mem_singleton.mp hb]; exact Nat.lt_trans hD6 lI35
            case hsrc4 =>
              intro b hb
              rcases List.mem_cons.mp hb with rfl | hb
              · exact .inl (.head _)
              · rw [List.mem_singleton.mp hb]; exact .inr ⟨_, fun _ _ _ _ => .tail _ (.tail _ (.tail _ (.tail _ (.tail _ (.tail _ (.tail _ (.tail _ (.tail _ b5))))))))⟩
            case hdis4 => exact fun q hq z => Nat.ne_of_lt (l35 q hq) (List.mem_singleton.mp z)
            case hsz4 =>
              rintro j2 _ ys ⟨hj2, rfl⟩
              have h1 := List.length_filter_le (fun e : Er => !hits (rc.cv.map (·.1)) e.e) (es.take j2)
              have h2 : (edA ((es.take j2).filter (fun e => !hits (rc.cv.map (·.1)) e.e))).size = ((es.take j2).filter (fun e => !hits (rc.cv.map (·.1)) e.e)).length := by simp [edA]
              rw [List.length_take] at h1
              omega
            case turn4 =>
              rintro j2 _ ys c2 D2 C own2 oC m₁ m₂ s36 hj2 hB2 ⟨hjl, rfl⟩ hA36 hown2 hns F36 N36 hd36 hDw hDC
              obtain ⟨oI7, rfl⟩ := own_one hown2
              obtain ⟨v, hv, hm2⟩ := hB2
              have hjv : j2 < es.length := by omega
              obtain ⟨r4', hr4'⟩ : ∃ r, es[j2] = r := ⟨_, rfl⟩
              have hrm4 : r4' ∈ es := hr4' ▸ List.getElem_mem hjv
              have hvr : v = .ref r4'.T := by
                simp only [edA, List.getElem?_toArray, List.getElem?_map, List.getElem?_eq_getElem hjv, Option.map_some, hr4'] at hv
                exact (Option.some.inj hv).symm
              subst hvr
              have hp2 : m₂ (Str.ofString "edge") = some (.ref r4'.T) := by rw [hm2]; rfl
              clear hm2
              have htk : es.take (j2 + 1) = es.take j2 ++ [r4'] := by rw [List.take_succ_eq_append_getElem hjv, hr4']
              have b2 : (r4'.T, edO r4') ∈ tl3 := htl3 ▸ List.mem_append_right _ (List.mem_append_right _ (r6 r4' hrm4))
              dsimp only [edO] at b2
              have hrv4 := hes r4' hrm4
              have b1' : (rc.x, csO w rc.dx rc.ep rc.cv) ∈ (C, oC) :: (I6, oI7) :: (D2, listOf (edA ((es.take j2).filter (fun e => !hits (rc.cv.map (·.1)) e.e))) c2) :: (L + 3, oc) :: (I5, oI6) :: (Dt, listOf out ct) :: (52, tabObj q1) :: (80, tabObj q2) :: (88, tabObj q3) :: (I3, oI4) :: (L + 2, oc2) :: (lv, listOf (vrA vs1) cv) :: tl3 := .tail _ (.tail _ (.tail _ (.tail _ (.tail _ (.tail _ (.tail _ (.tail _ (.tail _ (.tail _ (.tail _ (.tail _ b1)))))))))))
              dsimp only [List.cons_append, List.nil_append] at N36
              refine wpAny_tests_one ?_
              k_steps
              refine Held.mk ?_
              have hhit := has_hits rc.cv r4'.e
              have hcl4 : ∀ ys' : Array Value, (∀ p ∈ (D2, listOf ys' c2) :: (L + 3, oc) :: (I5, oI6) :: (Dt, listOf out ct) :: (52, tabObj q1) :: (80, tabObj q2) :: (88, tabObj q3) :: (I3, oI4) :: (L + 2, oc2) :: (lv, listOf (vrA vs1) cv) :: tl3, p.1 ∉ [I6] ∧ p.1 ≠ C) := fun ys' p hp => by
                rcases List.mem_cons.mp hp with rfl | hp
                · exact ⟨hDw, hDC⟩
                · exact ⟨(hd36 p hp).1, (hd36 p hp).2.1⟩
              rename Fr _ _ _ _ => F37
              rename News _ _ _ _ => N37
              refine notIn_set (setLike75 (X.keeps F37.keep) (N37 _ b1').1) (N37 _ b1').1 hrsm (by omega) ?_
              cases hh1 : has rc.cv r4'.e.1 with
              | true =>
                dsimp only [Bool.not_true]
                k_steps
                refine Held.mk ⟨(), ⟨hjv, ?_⟩, ⟨⟨rfl, id, Nat.le_refl _⟩, F37, ⟨oC, m₂, trivial, hns, N37⟩, hcl4 _⟩, fun p hp => (hd36 p hp).2.2⟩
                rw [htk]
                simp [List.filter_append, hhit, hh1]
              | false =>
                dsimp only [Bool.not_false]
                k_steps
                refine Held.mk ?_
                rename Fr _ _ _ _ => F38
                rename News _ _ _ _ => N38
                refine notIn_set (setLike75 (X.keeps F38.keep) (N38 _ b1').1) (N38 _ b1').1 hrsm (by omega) ?_
                cases hh2 : has rc.cv r4'.e.2 with
                | true =>
                  dsimp only [Bool.not_true]
                  k_steps
                  refine Held.mk ⟨(), ⟨hjv, ?_⟩, ⟨⟨rfl, id, Nat.le_refl _⟩, F38, ⟨oC, m₂, trivial, hns, N38⟩, hcl4 _⟩, fun p hp => (hd36 p hp).2.2⟩
                  rw [htk]
                  simp [List.filter_append, hhit, hh1, hh2]
                | false =>
                  dsimp only [Bool.not_false]
                  k_steps
                  refine Held.mk ⟨(), ⟨hjv, ?_⟩, ⟨⟨rfl, id, Nat.le_refl _⟩, F38, ⟨oC, m₂, trivial, hns, N38⟩, hcl4 _⟩, fun p hp => (hd36 p hp).2.2⟩
                  rw [htk]
                  simp [List.filter_append, hhit, hh1, hh2, edA]
            case fin4 =>
              rintro D2 c2 _ ys s37 ⟨_, rfl⟩ hA37 F37 N37 hd37 hnew37 s38 hA38 F38 N38
              clear F37 N37
              rw [hez6, List.take_length] at N38
              have hG38 : AllBare _ := hA38.gens (hA37.gens hG34)
              have hrmm : rr ≤ mm := by omega
              have hwin := win_iff hr23 (vs1 := vs1) (es := es) (by omega) hv2 hes hv4 hR hrmm hrlen (by rw [← hcz]; exact hrmax)
              k_steps
              refine Held.mk ?_
              rename Fr _ _ _ _ => F39
              rename News _ _ _ _ => N39
              refine nameX_C N39 (c := L + 3) rfl (.tail _ (.head _)) hoc ?_
              k_steps
              refine Held.mk ?_
              refine len_csK F39 X N39 (.tail _ (.tail _ (.tail _ (.tail _ (.tail _ (.tail _ (.tail _ (.tail _ (.tail _ (.tail _ b1)))))))))) hr5 ?_
              intro t40 tk40
              rw [hrlen]
              k_steps
              · exfalso; omega
              refine Held.mk ?_
              rename News _ _ _ _ => N41
              refine eq_nil N41 (.tail _ (.head _)) (.head _) (by ktr_units) ?_
              k_steps
              · exfalso
                rename (_ != _) = true => hbad
                rw [same_dec hwin] at hbad
                cases hbad
              rename Fr _ _ _ _ => F42
              rename News _ _ _ _ => N42
              refine Held.mk ⟨rfl, some (.ref D2), oc, _, trivial, ⟨hA38.os.trans hA37.os, fun G => hA38.gens (hA37.gens G), Nat.le_trans hA37.size hA38.size⟩, map1_set F42, fun q hq => N42 q (.tail _ (.tail _ (by rw [htl3]; exact hq))), hoc, by rw [htl3] at hd34; exact hd34⟩
          case fin3 =>
            intro le oc3 v3 s40 _ hA40 F40 N40 hoc3 hd40
            dsimp only at F40 N40 hd40
            have hoz : out.size ≤ 1000 := by
              have h1 := hperm.length_eq
              rw [Array.length_toList, List.length_map] at h1
              omega
            have hoz0 : (out.size : Int) ≠ 0 := by omega
            k_steps
            · exfalso; omega
            rename Fr _ _ _ _ => F43
            rename News _ _ _ _ => N43
            refine Held.mk ⟨rfl, ⟨some (.int (rr : Int) t), some (.ref Dt), le, oc3, q1, q2, q3⟩, ⟨hq1, hq2, hq3, v3, hoc3⟩, ⟨hA40.os.trans hA31.os, fun G => hA40.gens (hA31.gens G), Nat.le_trans hA31.size hA40.size⟩, map3_end F43, fun q hq => N43 q (mem_sw19 hq), fun q hq => ?_⟩
            rcases List.mem_cons.mp hq with rfl | hq
            · exact hd29 (L + 3, ow) (.head _)
            rcases List.mem_cons.mp hq with rfl | hq
            · exact hd29 (52, tabObj p1) (.tail _ (.head _))
            rcases List.mem_cons.mp hq with rfl | hq
            · exact hd29 (80, tabObj p2) (.tail _ (.tail _ (.head _)))
            rcases List.mem_cons.mp hq with rfl | hq
            · exact hd29 (88, tabObj p3) (.tail _ (.tail _ (.tail _ (.head _))))
            · exact hd29 q (.tail _ (.tail _ (.tail _ (.tail _ hq))))
        case fin =>
          rintro ⟨ss, tt, ll, ow, p1, p2, p3⟩ s44 ⟨hp1, hp2, hp3, vw, how⟩ hA44 F44 N44
          dsimp only at F44 N44 hp1 hp2 hp3
          k_steps
          rename Fr _ _ _ _ => F45
          rename News _ _ _ _ => N45
          exact hret _ p1 p2 p3 ⟨hA44.os.trans (hA24.os.trans (hA12.os.trans (hA9.os.trans (hA6.os.trans hA.os)))), fun G => hA44.gens (hA24.gens (hA12.gens (hA9.gens (hA6.gens (hA.gens G))))), Nat.le_trans hA.size (Nat.le_trans hA6.size (Nat.le_trans hA9.size (Nat.le_trans hA12.size (Nat.le_trans hA24.size hA44.size))))⟩ F45.keep (N45 _ (.tail _ (.head _))).1 (N45 _ (.tail _ (.tail _ (.head _)))).1 (N45 _ (.tail _ (.tail _ (.tail _ (.head _))))).1 hp1 hp2 hp3
end
-- S71
section
set_option maxHeartbeats 0
abbrev lawTabs : List (Addr × Addr) := [(56, 52), (84, 80), (92, 88)]
theorem law_tabs {w : World} {h : Heap} (X : (kf.heap_1 w.params).In h) (t1 : h.get? 52 = some (tabObj #[])) (t2 : h.get? 80 = some (tabObj #[])) (t3 : h.get? 88 = some (tabObj #[])) : TabsAt lawTabs h :=
  List.forall_mem_cons.mpr ⟨⟨codeHd_of_K (c := 56) (P := 52) X (by kernel_rfl), t1⟩, List.forall_mem_cons.mpr ⟨⟨codeHd_of_K (c := 84) (P := 80) X (by kernel_rfl), t2⟩,
    List.forall_mem_cons.mpr ⟨⟨codeHd_of_K (c := 92) (P := 88) X (by kernel_rfl), t3⟩, fun _ h => nomatch h⟩⟩⟩
theorem old_of {h h' : Heap} (hT : TabsAt lawTabs h) (hk : ∀ b o, (ghostOf h lawTabs).get? b = some o → h'.get? b = some o)
    (hg : ∀ q ∈ lawTabs, ∃ ps, h'.get? q.2 = some (tabObj ps)) : OldK h h' := by
  have keep : ∀ b o, b ∉ lawTabs.map (·.2) → h.get? b = some o → h'.get? b = some o := fun b o hb e => hk b o (ghost_ne e hb)
  have grown : ∀ b o, b ∈ lawTabs.map (·.2) → h.get? b = some o → isCodeTable h b ∧ o = tabObj #[] ∧ ∃ ps, h'.get? b = some (tabObj ps) := fun b o hb e => by
    obtain ⟨q, hq, rfl⟩ := List.mem_map.mp hb
    have e2 := (hT q hq).2
    rw [e] at e2
    exact ⟨((hT q hq).1.tab (hT q hq).2).isCodeTable, Option.some.inj e2, hg q hq⟩
  refine ⟨fun b o e => ?_, fun b o e => ?_⟩
  · by_cases hb : b ∈ lawTabs.map (·.2)
    · obtain ⟨ht, rfl, ps, hP⟩ := grown b o hb e
      exact .inr (.inl ⟨ht, rfl, #[], ps, rfl, by rw [Array.empty_append]; exact hP⟩)
    · exact .inl (keep b o hb e)
  · by_cases hb : b ∈ lawTabs.map (·.2)
    · obtain ⟨_, _, ps, hP⟩ := grown b o hb e
      exact ⟨_, hP⟩
    · exact ⟨o, keep b o hb e⟩
theorem law_go (p : Program) (lo : List Str) (w : World) (s₁ : Shared) (mg mb : Str → Option Value) (mean mean' : ExcName → Option Value) (cl : Str → Option Addr) (c : ClaimW) (args : List WData)
    (script : Addr) (nS : Nat) (vs : List Value) (ns : List Int) (hI : IntsAre vs ns) (hlen : ns.length ≤ 63)
    (X : (kf.heap_1 w.params).In s₁.heap) (T : Top p lo mean mg mb s₁.heap) (t1 : s₁.heap.get? 52 = some (tabObj #[])) (t2 : s₁.heap.get? 80 = some (tabObj #[])) (t3 : s₁.heap.get? 88 = some (tabObj #[]))
    (hS : s₁.heap.get? script = some (listOf vs.toArray nS)) (hg : s₁.gens = #[])
    (hr : ∀ x, c.raises args x = false) (d : WData) (hd : ReadsW c.records cl s₁.heap (.bool true) d []) (hd' : ∀ h : Heap, ReadsW c.records cl h (.bool true) d []) (hp : c.post args d args = true) :
    codeAny (model prog w) callerA (.call (.ref 732) ⟨[.ref script], []⟩) (GoodWG c cl mean' args s₁) s₁ := by
  have hT : TabsAt lawTabs s₁.heap := law_tabs X t1 t2 t3
  have X' := ghost_K hT X (by kernel_rfl)
  have T' := ghost_top hT T
  have hk : ∀ b o, (ghostOf s₁.heap lawTabs).get? b = some o → s₁.heap.get? b = some o := fun b o e => of_hideAll _ e
  refine law_ok w _ mean mg mb s₁ (ghostOf s₁.heap lawTabs) (ghostOf s₁.heap lawTabs) script nS vs ns hI hlen _ (ghost_below hT) X' T' X' T' hk (hideAll_size _ _) ?_ ?_ ?_ ?_
  · intro q hq
    rcases List.mem_cons.mp hq with rfl | hq
    · exact ⟨t1, hideAll_none _ (by decide)⟩
    rcases List.mem_cons.mp hq with rfl | hq
    · exact ⟨t2, hideAll_none _ (by decide)⟩
    rcases List.mem_cons.mp hq with rfl | hq
    · exact ⟨t3, hideAll_none _ (by decide)⟩
    cases hq
  · exact ghost_get hT hS (fun q => by cases q)
  · rw [hg]; exact AllBare.empty
  · intro s' p1 p2 p3 A K q1 q2 q3 _ _ _
    refine ⟨.inl ⟨_, d, [], rfl, hr, hd' _, hp, fun _ => ⟨List.nodup_nil, fun a ha => by cases ha⟩⟩, old_of hT K ?_, A.os, A.gens (by rw [hg]; exact AllBare.empty)⟩
    exact List.forall_mem_cons.mpr ⟨⟨p1, q1⟩, List.forall_mem_cons.mpr ⟨⟨p2, q2⟩, List.forall_mem_cons.mpr ⟨⟨p3, q3⟩, fun _ h => nomatch h⟩⟩⟩
end
end
section
open PySem.Spec PySem.Calls
theorem sub_in {K K' : Frag} {h : Heap} (e : K.map (fun q => K'.lookup q.1) = K.map (fun q => some q.2)) (X : K'.In h) : K.In h := fun a o hl =>
  X a o (List.map_inj_left.mp e (a, o) (mem_of_lookupK hl))
theorem hd52 (p : Params) : (hd.heap_668 p).lookup 52 = some (tabObj #[]) := by kernel_rfl
theorem hd80 (p : Params) : (hd.heap_668 p).lookup 80 = some (tabObj #[]) := by kernel_rfl
theorem hd88 (p : Params) : (hd.heap_668 p).lookup 88 = some (tabObj #[]) := by kernel_rfl
theorem at_law (p : Params) : nsIn (kf.heap_1 p) mainGlobals (Str.ofString "law") = some (some (.ref 732)) := by kernel_rfl
end
end Mine
open PySem.Spec PySem.Calls
theorem PySem.Challenge.cw_bb0002_01_holds : PySem.Challenge.rw_bb0002_01.Holds := by
  exact Mine.hd (by
    intro w s₀ s₁ mg mb G Y fa o pm cd doc dV kV ho hd hcd hD hmg hg args vals as L hpre hlay hrd hwl hlo
    clear hD hcd hd ho
    have KI := (z_facts (fun P => by kernel_rfl) Y).2.1
    have KZ : (Mine.hd.heap_668 w.params).In s₁.heap := PySem.W.InK.keeps w s₀.heap s₁.heap KI L.keeps
    have KX := Mine.sub_in (Mine.kf_sub w.params) KZ
    have t1 := KZ _ _ (Mine.hd52 w.params)
    have t2 := KZ _ _ (Mine.hd80 w.params)
    have t3 := KZ _ _ (Mine.hd88 w.params)
    refine Ground.open G ?_
    intro T B D TE TW
    have e1 := hmg.symm.trans (mg_of KX T.g (Mine.at_law w.params))
    have hfa : fa = 732 := Value.ref.inj (Option.some.inj e1)
    subst hfa
    clear G Y B D TE TW hmg
    wrow_args hpre hlay hrd hwl hlo
    rename_i hc _
    rename Heap.IsList _ _ _ => hL
    rename IntsAre _ _ => hI
    refine enter_call ?_
    refine Mine.law_go _ _ w s₁ mg mb _ _ _ _ _ _ _ _ _ hI (by omega) KX T t1 t2 t3 (script_obj L hL) hg (fun _ => rfl) _ (ReadsW.bool true) (fun _ => ReadsW.bool true) ?_
    first | rfl | wrow_post)
