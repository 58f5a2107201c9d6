import PyProof.Rows.All
import Wide.All
import OpenK.AllK
import Wide.FinOn
import Lean
import PySem.Challenge.RW_qh0094_01
open PySem PySem.W PyProof.Rows
set_option Elab.async false
set_option rowWalk.seconds 0
namespace Mine
set_option maxRecDepth 100000

set_option maxHeartbeats 8000000
theorem ws : PySem.Challenge.rw_qh0094_01.wellSaid = true := by
  unfold OpenLaw.wellSaid OpenRow.wellSaid OpenRow.partSaid looksOpen
  repeat' with_reducible refine look_both ?_ ?_
  all_goals decide +kernel
local macro_rules | `(tactic| o_law) => `(tactic| refine holds_law ws fun _ => ?_)
open_top hd for PySem.Challenge.rw_qh0094_01

set_option maxHeartbeats 8000000

section
variable {w : World} {A : Around} {s : Shared} {p : Program} {loose : List Str} {mean : ExcName → Option Value} {mg mb : Str → Option Value}
  {name qual : Str} {params : Arguments} {body : List Stmt} {scope : Scope} {dV kV doc pm cdv ct oc : Value} {an od : Option Addr} {osl : Array (Option Value)} {f : Addr} {pos : List Value} {kw : List (Str × Value)} {binds : List (Str × Value)}
theorem enter_def {Q E : Value → Shared → Prop} (X : (hd.heap_1 w.params).In s.heap) (T : Top p loose mean mg mb s.heap)
    (ho : (hd.heap_1 w.params).lookup f = some ⟨oc, od, .func (fnOf name qual params body scope dV kV doc pm an cdv ct), osl⟩) (hcd : codeIn (hd.heap_1 w.params) cdv qual = true) (hroom : A.depth < recursionLimit)
    (hbind : BindsTo s (fnOf name qual params body scope dV kV doc pm an cdv ct) ⟨pos, kw⟩ binds) (hloc : ∀ y ∈ binds, scope.names.lookup y.1 = some .local)
    (h : ∀ L h₁ tk, Fr s.heap L h₁ (fun y => binds.reverse.lookup y) → News s.heap L h₁ [] →
      wpAny (model PySem.Challenge.rw_qh0094_01.row.prog w) (A.deeper (envOf qual scope L f cdv)) (execs body (envOf qual scope L f cdv))
        (fun fl s' => Q (match fl with | .ret v => v | _ => .none) s') (fun _ _ => False) { s with heap := h₁, toks := tk })
    (hco : scope.isCoroutine = false) (hgen : scope.isGenerator = false) (hk : scope.kind = .function)
    (hcell : ∀ x ∈ scope.names, x.2 ≠ .cell) : wpAny (model PySem.Challenge.rw_qh0094_01.row.prog w) A (call (.ref f) pos kw) Q E s := by
  refine wpAny_call ?_
  refine codeAny_call_def (fd := fnOf name qual params body scope dV kV doc pm an cdv ct) (body := body) (binds := binds) hroom (X _ _ ho) rfl T.nolimit (codeRec_of X hcd) rfl hbind hcell hloc (fun h₁ hns hk₁ => ?_) hco hgen hk
  exact wpAny_mono (h s.heap.objs.size h₁ _ ⟨hns, hk₁, Nat.le_refl _⟩ News.nil) (fun _ _ x => x) (fun _ _ x => x.elim)
end

/-- the machine's surroundings of a call, written out -/
noncomputable abbrev Ar (dp un : Nat) (fr : Option (List Env)) (gd : Option (List Code)) : Around := { handled := none, depth := dp, frames := fr, guards := gd, units := un }

noncomputable def lawBody : List Stmt := match PySem.Challenge.pw_qh0094_01.main.body.getLast? with
  | some (.FunctionDef _ _ b _ _ _ _ _ _ _) => b
  | _ => []
noncomputable def lawScope : Scope := match PySem.Challenge.pw_qh0094_01.main.body.getLast? with
  | some (.FunctionDef _ _ _ _ _ _ s _ _ _) => s
  | _ => default
/-- the names of law -/
noncomputable def lawM (sc nu pi to fr fi le gi pl oc wr on en pa du at_ sz st : Option Value) : Str → Option Value := fun q =>
  if q = Str.ofString "state" then st else if q = Str.ofString "size" then sz else if q = Str.ofString "at" then at_ else if q = Str.ofString "due" then du else if q = Str.ofString "parts" then pa else if q = Str.ofString "ends" then en
  else if q = Str.ofString "ones" then on else if q = Str.ofString "written" then wr else if q = Str.ofString "octets" then oc else if q = Str.ofString "pile" then pl else if q = Str.ofString "given" then gi else if q = Str.ofString "letters" then le
  else if q = Str.ofString "first" then fi else if q = Str.ofString "free" then fr else if q = Str.ofString "total" then to else if q = Str.ofString "pieces" then pi else if q = Str.ofString "numbers" then nu else if q = Str.ofString "script" then sc else none
/-- where law stands: its frame, its cells (alphabets, noted, pair, taken, way), its table of lambdas -/
inductive LawAt (g : Heap) (L : Addr) (h : Heap) (m : Str → Option Value) (ca cn cp ct cw : Option Value) (ps : Array Value) : Prop
  | mk (ow ot op on oa : Obj) (F : Fr g L h m) (N : News g L h [(L + 1 + 1 + 1 + 1 + 1, ow), (L + 1 + 1 + 1 + 1, ot), (L + 1 + 1 + 1, op), (L + 1 + 1, on), (L + 1, oa), (248, tabObj ps)]) (d1 : ow.data = .cell cw) (d2 : ot.data = .cell ct) (d3 : op.data = .cell cp) (d4 : on.data = .cell cn) (d5 : oa.data = .cell ca)
noncomputable abbrev lawEnv (L fa : Addr) : Env := envOfC (Str.ofString "law") lawScope L fa (.ref 250)
/-- what stands fast while law runs -/
structure LawC where
  w : World
  p : Program
  loose : List Str
  mean : ExcName → Option Value
  mg : Str → Option Value
  mb : Str → Option Value
  dp : Nat
  un : Nat
  gd : Option (List Code)
  g : Heap
  L : Addr
  fa : Addr
  gens : Array GenState
  drawn : Drawn
  os : OsState
  E : Value → Shared → Prop
/-- law ends and hands back True -/
noncomputable def LawSays (c : LawC) : Prop := ∀ (s0 : Heap) (toks : Nat) (Q : Flow → Shared → Prop) (sa : Addr) (vs : List Value) (ns : List Int), (hd.heap_1 c.w.params).In c.g → Top c.p c.loose c.mean c.mg c.mb c.g → CodeHd c.g 250 248 → c.g.IsList sa vs.toArray → IntsAre vs ns → ns.length ≤ 63 →
  c.dp + 40 < recursionLimit → c.un + 8 * 40 < cLine → @LT.lt Nat _ 248 c.L → LawAt c.g c.L s0 (lawM (some (.ref sa)) none none none none none none none none none none none none none none none none none) none none none none none #[] →
  (∀ h' tk' m' news', Fr c.g c.L h' m' → News c.g c.L h' news' → (∃ ps, h'.get? 248 = some (tabObj ps)) → Q (.ret (.bool true)) ⟨h', c.gens, c.drawn, tk', c.os⟩) →
  wpAny (model PySem.Challenge.rw_qh0094_01.row.prog c.w) (Ar c.dp c.un (some [lawEnv c.L c.fa]) c.gd) (execs lawBody (lawEnv c.L c.fa)) Q c.E ⟨s0, c.gens, c.drawn, toks, c.os⟩
theorem lawC_any : Nonempty LawC := ⟨⟨⟨fun _ _ => 0, { strHash := fun _ => 0, shareClass := id, mergeTok := id, idOf := fun _ => 0, idOfShared := fun _ _ => 0, followText := fun _ => false, idOfImm := fun _ => 0 }⟩, default, [], fun _ => none, fun _ => none, fun _ => none, 0, 0, none, default, 0, 0, #[], {}, default, fun _ _ => False⟩⟩
/-- a failing point of LawSays, if there is one: what holds at it holds at all -/
@[irreducible] noncomputable def C00 : LawC := @Classical.epsilon LawC lawC_any fun c => ¬ LawSays c
theorem law_of (h : LawSays C00) (c : LawC) : LawSays c := by
  refine Classical.byContradiction fun hn => ?_
  have := @Classical.epsilon_spec LawC (fun c => ¬ LawSays c) ⟨c, hn⟩
  unfold C00 at h
  exact this h
@[irreducible] noncomputable def w : World := C00.w
@[irreducible] noncomputable def p : Program := C00.p
@[irreducible] noncomputable def loose : List Str := C00.loose
@[irreducible] noncomputable def mean : ExcName → Option Value := C00.mean
@[irreducible] noncomputable def mg : Str → Option Value := C00.mg
@[irreducible] noncomputable def mb : Str → Option Value := C00.mb
@[irreducible] noncomputable def dp : Nat := C00.dp
@[irreducible] noncomputable def un : Nat := C00.un
@[irreducible] noncomputable def gd : Option (List Code) := C00.gd
@[irreducible] noncomputable def g : Heap := C00.g
@[irreducible] noncomputable def L : Addr := C00.L
@[irreducible] noncomputable def fa : Addr := C00.fa
@[irreducible] noncomputable def fr : Option (List Env) := some [lawEnv L fa]
theorem fr_eq : fr = some [lawEnv L fa] := by unfold fr; rfl
@[irreducible] noncomputable def gens : Array GenState := C00.gens
@[irreducible] noncomputable def drawn : Drawn := C00.drawn
@[irreducible] noncomputable def os : OsState := C00.os
@[irreducible] noncomputable def E : Value → Shared → Prop := C00.E
/-- the contract of a def: it keeps the heap it meets and hands back what `post` says -/
noncomputable def Spec (f : Addr) (pos : List Value) (kw : List (Str × Value)) (k : Nat) (pre : Heap → Prop) (post : Value → Heap → Prop) : Prop :=
  ∀ (dp un : Nat) (fr : Option (List Env)) (gd : Option (List Code)) (hs : Heap) (gens : Array GenState) (drawn : Drawn) (toks : Nat) (os : OsState) (Q E : Value → Shared → Prop), (hd.heap_1 w.params).In hs → Top p loose mean mg mb hs → pre hs → dp + k < recursionLimit → un + 8 * k < cLine →
    (∀ v h' tk', hs.StaysIn h' → post v h' → Q v ⟨h', gens, drawn, tk', os⟩) → wpAny (model PySem.Challenge.rw_qh0094_01.row.prog w) (Ar dp un fr gd) (call (.ref f) pos kw) Q E ⟨hs, gens, drawn, toks, os⟩

theorem Fr.stays {h₀ h h' : Heap} {L : Addr} {m : Str → Option Value} (F : Fr h₀ L h m) (k : h.StaysIn h') : Fr h₀ L h' m := by
  obtain ⟨oL, a1, a2, hL, a3⟩ := F.ns
  exact ⟨⟨oL, a1, a2, k _ _ hL, a3⟩, fun b o e => k _ _ (F.keep b o e), F.above⟩
theorem News.stays {h₀ h h' : Heap} {L : Addr} {news : List (Addr × Obj)} (N : News h₀ L h news) (k : h.StaysIn h') : News h₀ L h' news :=
  fun p hp => ⟨k _ _ (N p hp).1, (N p hp).2⟩

theorem use_spec {f : Addr} {pos : List Value} {kw : List (Str × Value)} {k : Nat} {pre : Heap → Prop} {post : Value → Heap → Prop}
    {dp un : Nat} {fr : Option (List Env)} {gd : Option (List Code)} {s : Shared} {Q E : Value → Shared → Prop} {h₀ : Heap} {L : Addr} {m : Str → Option Value} {news : List (Addr × Obj)}
    (C : Spec f pos kw k pre post) (F : Fr h₀ L s.heap m) (N : News h₀ L s.heap news) (X : (hd.heap_1 w.params).In h₀) (T : Top p loose mean mg mb h₀)
    (hp : pre s.heap) (hd : dp + k < recursionLimit) (hu : un + 8 * k < cLine)
    (h : ∀ v h' tk', Fr h₀ L h' m → News h₀ L h' news → s.heap.StaysIn h' → post v h' → Q v { s with heap := h', toks := tk' }) :
    wpAny (model PySem.Challenge.rw_qh0094_01.row.prog w) (Ar dp un fr gd) (call (.ref f) pos kw) Q E s :=
  C dp un fr gd s.heap s.gens s.drawn s.toks s.os Q E (X.keeps F.keep) (T.keeps F.keep) hp hd hu fun v h' tk' st hq => h v h' tk' (Fr.stays F st) (News.stays N st) st hq
section
variable {M : Model} {A : Around} {E : Value → Shared → Prop} {s : Shared} {h₀ : Heap} {L a : Addr} {m : Str → Option Value} {cn : Str} {cs : Scope} {ccd : Value} {cl : List (Str × Addr)} {x y : Str} {v u : Value} {p1 p2 p3 : Pos} {op : Operator} {co : CmpOp} {k : Int} {kk : Nat}
theorem binNC {Q : Value → Shared → Prop} (F : Fr h₀ L s.heap m) (hv : m x = some v) (h : wpAny M A (binaryOp op v (.int k s.toks)) Q E { s with toks := s.toks + 1 }) (hk : cs.kind = .function) (hx : (envX cn cs L a ccd cl).kindOf x = some .local) (hd : (x == ("__debug__" : Str)) = false) :
    wpAny M A (eval (.BinOp (.Name x p1) op (.Constant (.int k) kk p2) p3) (envX cn cs L a ccd cl)) Q E s := wpAny_BinOp (nameX_L F hv (wpAny_Constant_int h) hk hx hd)
theorem binNN {Q : Value → Shared → Prop} (F : Fr h₀ L s.heap m) (hv : m x = some v) (hu : m y = some u) (h : wpAny M A (binaryOp op v u) Q E s) (hk : cs.kind = .function) (hx : (envX cn cs L a ccd cl).kindOf x = some .local) (hy : (envX cn cs L a ccd cl).kindOf y = some .local) (hd : (x == ("__debug__" : Str)) = false) (he : (y == ("__debug__" : Str)) = false) :
    wpAny M A (eval (.BinOp (.Name x p1) op (.Name y p2) p3) (envX cn cs L a ccd cl)) Q E s := wpAny_BinOp (nameX_L F hv (nameX_L F hu h hk hy he) hk hx hd)
theorem isNC {Q : Bool → Shared → Prop} {whole : Sem Value} (F : Fr h₀ L s.heap m) (hv : m x = some v) (h : wpAny M A (compareOp co v (.int k s.toks)) (fun c s₃ => wpAny M A (truthy c) Q E s₃) E { s with toks := s.toks + 1 }) (hk : cs.kind = .function) (hx : (envX cn cs L a ccd cl).kindOf x = some .local) (hd : (x == ("__debug__" : Str)) = false)
    (hm : behindInMarks co (.Constant (.int k) kk p2) = false) : wpAny M A (isTrue (.Compare (.Name x p1) [co] [.Constant (.int k) kk p2] p3) (envX cn cs L a ccd cl) whole) Q E s := wpAny_isTrue_Compare1 (nameX_L F hv (wpAny_Constant_int h) hk hx hd) hm
end
theorem keep_none {h₀ h : Heap} {a : Addr} (k : ∀ b o, h₀.get? b = some o → h.get? b = some o) (e : h.get? a = none) : h₀.get? a = none := by
  cases e2 : h₀.get? a with
  | none => rfl
  | some o => rw [k a o e2] at e; cases e
theorem some_ne {h : Heap} {a b : Addr} {o : Obj} (e : h.get? a = none) (k : h.get? b = some o) : a ≠ b := fun q => by rw [q, k] at e; cases e
theorem by_no {P : Prop} (h : ¬P → False) : P := Classical.byContradiction h

theorem mx0 (z : Int) : (max 0 z).toNat = z.toNat := by
  rcases Int.le_total 0 z with h | h
  · rw [Int.max_eq_right h]
  · rw [Int.max_eq_left h, Int.toNat_of_nonpos h]; rfl
theorem clip_neg (n k : Nat) (hk : -(k : Int) < 0) : clipAt n (-(k : Int)) = n - k := by
  unfold clipAt
  rw [if_pos hk, mx0, Int.min_eq_left (Int.le_trans (Int.add_le_add_right (Int.le_of_lt hk) n) (Int.le_of_eq (Int.zero_add _))), Int.add_comm, ← Int.sub_eq_add_neg, Int.toNat_sub]
theorem clip_m4 (n : Nat) : clipAt n (-4) = n - 4 := clip_neg n 4 (by decide)
theorem clip_pos (n k : Nat) (hk : k ≤ n) : clipAt n (k : Int) = k := by
  unfold clipAt
  rw [if_neg (Int.not_lt.mpr (Int.natCast_nonneg k)), mx0, Int.min_eq_left (Int.ofNat_le.mpr hk), Int.toNat_natCast]
theorem fd_nat (n k : Nat) : (n : Int).fdiv (k : Int) = ((n / k : Nat) : Int) := Int.fdiv_eq_ediv_of_nonneg _ (Int.natCast_nonneg k)
theorem clip_w (n : Nat) : clipAt n ((n : Int).fdiv 4 * 4) = n / 4 * 4 := by
  rw [show (n : Int).fdiv 4 = ((n / 4 : Nat) : Int) from fd_nat n 4]
  exact clip_pos n (n / 4 * 4) (Nat.div_mul_le_self n 4)
theorem seq_at {i n : Nat} (h : i < n) : seqIndex? (i : Int) n = some i := by
  unfold seqIndex?
  rw [if_neg (Int.not_lt.mpr (Int.natCast_nonneg i))]
  exact if_pos (Bool.and_eq_true_iff.mpr ⟨decide_eq_true (Int.natCast_nonneg i), decide_eq_true (Int.ofNat_lt.mpr h)⟩)
theorem seq_neg {k n : Nat} (hk : -(k : Int) < 0) (h : k ≤ n) : seqIndex? (-(k : Int)) n = some (n - k) := by
  unfold seqIndex?
  rw [if_pos hk, Int.add_comm, ← Int.sub_eq_add_neg, ← Int.ofNat_sub h]
  exact if_pos (Bool.and_eq_true_iff.mpr ⟨decide_eq_true (Int.natCast_nonneg _), decide_eq_true (Int.ofNat_lt.mpr (Nat.sub_lt_of_pos_le (Int.natCast_pos.mp (Int.neg_lt_zero_iff.mp hk)) h))⟩)

local macro_rules | `(tactic| omega) => `(tactic| first | k_extra "om" | omega (config := {}))
local macro_rules | `(tactic| k_steps) => `(tactic| repeat' (first | (k_unfold; (try dsimp only)) | (k_end; wrow_close) | (k_extra "guard"; first | walk1 | (dsimp only; walk1) | (leave1; walk_say "STEP leave1"; try dsimp only)) | fail "no step"))
local macro_rules | `(tactic| walk_at $s:str) => `(tactic| k_extra $s)
theorem begin_B1 : True := by
  w_on
  w_top off
  k_with_none
  k_with "om" => (law_clear; first | with_reducible assumption | (law_purse 20000 => grind))
  k_with "guard" => skip
  trivial
set_option maxHeartbeats 8000000
noncomputable def b64v (c : Int) : Int := if 65 ≤ c ∧ c ≤ 90 then c - 65 else if 97 ≤ c ∧ c ≤ 122 then c - 71 else if 48 ≤ c ∧ c ≤ 57 then c + 4 else if c = 43 then 62 else if c = 47 then 63 else 64
noncomputable def hexv (c : Int) : Int := if 48 ≤ c ∧ c ≤ 57 then c - 48 else if 65 ≤ c ∧ c ≤ 70 then c - 55 else if 97 ≤ c ∧ c ≤ 102 then c - 87 else 16

theorem int_eq {x y : Int} {t : Tok} (e : x = y) : Value.int x t = Value.int y t := by rw [e]

theorem kw_B1_1 : True := by
  k_with_none
  k_with "om" => (law_clear; first | with_reducible assumption | (law_purse 20000 => grind))
  k_with "eval BinOp" => (k_here; (with_reducible show wpAny _ _ (eval (Expr.BinOp (Expr.Name _ _) _ (Expr.Constant (Const.int _) _ _) _) _) _ _ _); k_dflt (refine binNC (by k_asm) (by rfl) ?_ (by rfl) (by rfl) (by decide)); (try dsimp only))
  k_with "eval BinOp" => (k_here; (with_reducible show wpAny _ _ (eval (Expr.BinOp (Expr.Name _ _) _ (Expr.Name _ _) _) _) _ _ _); k_dflt (refine binNN (by k_asm) (by rfl) (by rfl) ?_ (by rfl) (by rfl) (by rfl) (by decide) (by decide)); (try dsimp only))
  k_with "isTrue Compare" => (k_here; (with_reducible show wpAny _ _ (isTrue (Expr.Compare (Expr.Name _ _) [_] [Expr.Constant (Const.int _) _ _] _) _ _) _ _ _); k_dflt (refine isNC (by k_asm) (by rfl) ?_ (by rfl) (by rfl) (by decide) (by with_unfolding_all rfl)); (try dsimp only))
  k_with "guard" => skip
  k_with "call type:type" => (refine call_type_of (Tx := "bytes") (by exact rfl) (by decide +kernel) ?_)
  k_with "call type:type" => (refine call_type_of (Tx := "bool") (by exact rfl) (by decide +kernel) ?_)
  trivial
theorem sp_b64_value  (c : Int) (t : Tok) : Spec 101 [.int c t] [] 1 (fun _ => True) (fun v _ => ∃ t', v = .int (b64v c) t') := by
  intro dp un fr gd h₀ gens drawn toks os Q E X T hp hd hu hret
  revert X; k_fill; intro X
  try dsimp only at hp hret
  k_dflt (refine' enter_def ?k1 ?k2 ?k6 ?k7 ?k8 ?k9 ?kB ?_ ?c2 ?c3 ?c4 ?c5; (case k1 => exact X); (case k2 => exact T); (case k6 => k_is); (case k7 => k_is); (case k8 => (show dp < _; omega)); (case k9 => first | exact BindsTo.of_eq rfl | exact binds_K X rfl (by k_is) rfl rfl rfl); (case kB => exact locs rfl); (case c2 => exact rfl); (case c3 => exact rfl); (case c4 => exact rfl); (case c5 => decide))
  intro L h₁ tk F N
  dsimp only at F N ⊢
  k_fold
  k_steps
  all_goals (refine hret _ _ _ (Fr.keep (by assumption)) ⟨_, int_eq ?_⟩; simp only [b64v, decide_eq_true_eq, decide_eq_false_iff_not] at *; (repeat' split) <;> omega)

theorem sp_hex_value  (c : Int) (t : Tok) : Spec 133 [.int c t] [] 1 (fun _ => True) (fun v _ => ∃ t', v = .int (hexv c) t') := by
  intro dp un fr gd h₀ gens drawn toks os Q E X T hp hd hu hret
  revert X; k_fill; intro X
  try dsimp only at hp hret
  k_dflt (refine' enter_def ?k1 ?k2 ?k6 ?k7 ?k8 ?k9 ?kB ?_ ?c2 ?c3 ?c4 ?c5; (case k1 => exact X); (case k2 => exact T); (case k6 => k_is); (case k7 => k_is); (case k8 => (show dp < _; omega)); (case k9 => first | exact BindsTo.of_eq rfl | exact binds_K X rfl (by k_is) rfl rfl rfl); (case kB => exact locs rfl); (case c2 => exact rfl); (case c3 => exact rfl); (case c4 => exact rfl); (case c5 => decide))
  intro L h₁ tk F N
  dsimp only at F N ⊢
  k_fold
  k_steps
  all_goals (refine hret _ _ _ (Fr.keep (by assumption)) ⟨_, int_eq ?_⟩; simp only [hexv, decide_eq_true_eq, decide_eq_false_iff_not] at *; (repeat' split) <;> omega)

theorem sp_ascii  (b : Array UInt8) (t : Tok) : Spec 80 [.bytes b t] [] 1 (fun _ => True) (fun v _ => v = .bytes b t) := by
  intro dp un fr gd h₀ gens drawn toks os Q E X T hp hd hu hret
  revert X; k_fill; intro X
  try dsimp only at hp hret
  k_dflt (refine' enter_def ?k1 ?k2 ?k6 ?k7 ?k8 ?k9 ?kB ?_ ?c2 ?c3 ?c4 ?c5; (case k1 => exact X); (case k2 => exact T); (case k6 => k_is); (case k7 => k_is); (case k8 => (show dp < _; omega)); (case k9 => first | exact BindsTo.of_eq rfl | exact binds_K X rfl (by k_is) rfl rfl rfl); (case kB => exact locs rfl); (case c2 => exact rfl); (case c3 => exact rfl); (case c4 => exact rfl); (case c5 => decide))
  intro L h₁ tk F N
  dsimp only at F N ⊢
  k_fold
  k_steps
  all_goals exact hret _ _ _ (Fr.keep (by assumption)) rfl

theorem sp_buffer  (b : Array UInt8) (t : Tok) : Spec 87 [.bytes b t] [] 1 (fun _ => True) (fun v _ => v = .bytes b t) := by
  intro dp un fr gd h₀ gens drawn toks os Q E X T hp hd hu hret
  revert X; k_fill; intro X
  try dsimp only at hp hret
  k_dflt (refine' enter_def ?k1 ?k2 ?k6 ?k7 ?k8 ?k9 ?kB ?_ ?c2 ?c3 ?c4 ?c5; (case k1 => exact X); (case k2 => exact T); (case k6 => k_is); (case k7 => k_is); (case k8 => (show dp < _; omega)); (case k9 => first | exact BindsTo.of_eq rfl | exact binds_K X rfl (by k_is) rfl rfl rfl); (case kB => exact locs rfl); (case c2 => exact rfl); (case c3 => exact rfl); (case c4 => exact rfl); (case c5 => decide))
  intro L h₁ tk F N
  dsimp only at F N ⊢
  k_fold
  k_steps
  all_goals exact hret _ _ _ (Fr.keep (by assumption)) rfl

theorem sp_truth  (b : Bool) : Spec 94 [.bool b] [] 1 (fun _ => True) (fun v _ => v = .bool b) := by
  cases b
  · intro dp un fr gd h₀ gens drawn toks os Q E X T hp hd hu hret
    revert X; k_fill; intro X
    try dsimp only at hp hret
    k_dflt (refine' enter_def ?k1 ?k2 ?k6 ?k7 ?k8 ?k9 ?kB ?_ ?c2 ?c3 ?c4 ?c5; (case k1 => exact X); (case k2 => exact T); (case k6 => k_is); (case k7 => k_is); (case k8 => (show dp < _; omega)); (case k9 => first | exact BindsTo.of_eq rfl | exact binds_K X rfl (by k_is) rfl rfl rfl); (case kB => exact locs rfl); (case c2 => exact rfl); (case c3 => exact rfl); (case c4 => exact rfl); (case c5 => decide))
    intro L h₁ tk F N
    dsimp only at F N ⊢
    k_fold
    k_steps
    all_goals exact hret _ _ _ (Fr.keep (by assumption)) rfl
  · intro dp un fr gd h₀ gens drawn toks os Q E X T hp hd hu hret
    revert X; k_fill; intro X
    try dsimp only at hp hret
    k_dflt (refine' enter_def ?k1 ?k2 ?k6 ?k7 ?k8 ?k9 ?kB ?_ ?c2 ?c3 ?c4 ?c5; (case k1 => exact X); (case k2 => exact T); (case k6 => k_is); (case k7 => k_is); (case k8 => (show dp < _; omega)); (case k9 => first | exact BindsTo.of_eq rfl | exact binds_K X rfl (by k_is) rfl rfl rfl); (case kB => exact locs rfl); (case c2 => exact rfl); (case c3 => exact rfl); (case c4 => exact rfl); (case c5 => decide))
    intro L h₁ tk F N
    dsimp only at F N ⊢
    k_fold
    k_steps
    all_goals exact hret _ _ _ (Fr.keep (by assumption)) rfl

theorem begin_B2 : True := by
  w_on
  w_top off
  k_with_none
  k_with "om" => (law_clear; first | with_reducible assumption | (law_purse 20000 => grind))
  k_with "guard" => skip
  trivial
set_option maxHeartbeats 8000000
theorem and_shift (a b k : Nat) (h : b < 2 ^ k) : (a * 2 ^ k) &&& b = 0 := by
  refine Nat.eq_of_testBit_eq fun i => ?_
  rw [Nat.testBit_and, Nat.zero_testBit, Nat.testBit_mul_two_pow]
  by_cases hi : k ≤ i
  · have : b.testBit i = false := Nat.testBit_lt_two_pow (Nat.lt_of_lt_of_le h (Nat.pow_le_pow_right (by decide) hi))
    simp [this]
  · simp [hi]
theorem bor_add {x y : Int} (k : Nat) (a : Int) (hx : x = a * 2 ^ k) (ha : 0 ≤ a) (hy : 0 ≤ y) (h : y < 2 ^ k) : Builtin.bitOr x y = x + y := by
  have e : Builtin.bitAnd x y = 0 := by
    obtain ⟨n, rfl⟩ := Int.eq_ofNat_of_zero_le ha
    obtain ⟨m, rfl⟩ := Int.eq_ofNat_of_zero_le hy
    have hx0 : 0 ≤ x := by rw [hx]; exact Int.mul_nonneg ha (by exact_mod_cast Nat.zero_le (2 ^ k))
    have hx1 : x.toNat = n * 2 ^ k := by rw [hx]; exact_mod_cast Int.toNat_natCast (n * 2 ^ k)
    have hm : m < 2 ^ k := by exact_mod_cast h
    unfold Builtin.bitAnd
    simp only [hx0, hy, decide_true, hx1, Int.toNat_natCast]
    rw [and_shift n m k hm]; rfl
  have := bitOr_and x y
  omega

theorem begin_B3 : True := by
  w_on
  w_top off
  k_with_none
  k_with "om" => (law_clear; first | with_reducible assumption | (law_purse 20000 => grind))
  k_with "guard" => skip
  trivial
set_option maxHeartbeats 8000000
theorem al1 {α : Type} {P : α → Prop} {a : α} (h : P a) : ∀ p ∈ [a], P p := List.forall_mem_cons.mpr ⟨h, List.forall_mem_nil _⟩
theorem al2 {α : Type} {P : α → Prop} {a b : α} (h : P a) (h2 : P b) : ∀ p ∈ [a, b], P p := List.forall_mem_cons.mpr ⟨h, al1 h2⟩
theorem al3 {α : Type} {P : α → Prop} {a b c : α} (h : P a) (h2 : P b) (h3 : P c) : ∀ p ∈ [a, b, c], P p := List.forall_mem_cons.mpr ⟨h, al2 h2 h3⟩
theorem al4 {α : Type} {P : α → Prop} {a b c d : α} (h : P a) (h2 : P b) (h3 : P c) (h4 : P d) : ∀ p ∈ [a, b, c, d], P p := List.forall_mem_cons.mpr ⟨h, al3 h2 h3 h4⟩
theorem ne2a {z a b : Str} {v u : Value} (h : ∀ p ∈ [(a, v), (b, u)], z ≠ p.1) : z ≠ a := h _ (.head _)
theorem ne2b {z a b : Str} {v u : Value} (h : ∀ p ∈ [(a, v), (b, u)], z ≠ p.1) : z ≠ b := h _ (.tail _ (.head _))
theorem ne4a {z a b c d : Str} {v u x y : Value} (h : ∀ p ∈ [(a, v), (b, u), (c, x), (d, y)], z ≠ p.1) : z ≠ a := h _ (.head _)
theorem ne4b {z a b c d : Str} {v u x y : Value} (h : ∀ p ∈ [(a, v), (b, u), (c, x), (d, y)], z ≠ p.1) : z ≠ b := h _ (.tail _ (.head _))
theorem ne4c {z a b c d : Str} {v u x y : Value} (h : ∀ p ∈ [(a, v), (b, u), (c, x), (d, y)], z ≠ p.1) : z ≠ c := h _ (.tail _ (.tail _ (.head _)))
theorem ne4d {z a b c d : Str} {v u x y : Value} (h : ∀ p ∈ [(a, v), (b, u), (c, x), (d, y)], z ≠ p.1) : z ≠ d := h _ (.tail _ (.tail _ (.tail _ (.head _))))
/-- what a turn hands on: the post of a turn, as a word -/
noncomputable def LoopO {σ : Type} (h₀ : Heap) (L : Addr) (Led : σ → List (Addr × Obj)) (ps : σ → List (Str × Value)) (x : Str) (stored : List Str) (m₀ : Str → Option Value) (Pn : σ → Prop) (own : List (Addr × Obj)) (adr : List Addr) (s : Shared) (QB : Flow → Shared → Prop) : Prop :=
  ∀ (c' : σ) h' tk' m' news' f, (f = .next ∨ f = .cont) → Fr h₀ L h' m' → News h₀ L h' news' → (∀ p ∈ Led c', p ∈ news') → (∀ p ∈ own, p ∈ news') → (Led c').map (·.1) = adr → (∀ p ∈ ps c', m' p.1 = some p.2) → (∀ z, z ≠ x → (∀ p ∈ ps c', z ≠ p.1) → stored.contains z = false → m' z = m₀ z) → Pn c' → QB f { s with heap := h', toks := tk' }
theorem loopO {σ : Type} {h₀ : Heap} {L : Addr} {Led : σ → List (Addr × Obj)} {ps : σ → List (Str × Value)} {x : Str} {stored : List Str} {m₀ : Str → Option Value} {P : List Int → σ → Prop} {pre : List Int} {own : List (Addr × Obj)} {adr : List Addr} {s : Shared} {Q : Flow → Shared → Prop} :
    LoopO h₀ L Led ps x stored m₀ (P pre) own adr s (InvPostN h₀ L (KstS Led ps (fun _ => True) x stored m₀ P pre) own adr s Q) := fun c' h' tk' m' news' f hf F2 N2 a b e k oth p => by
  rcases hf with rfl | rfl <;> exact ⟨h', tk', m', news', Led c', rfl, F2, N2, a, b, e, c', rfl, trivial, k, oth, p⟩
theorem kst_bytesO {prog : Program} {w : World} {A : Around} {E : Value → Shared → Prop} {s : Shared} {env : Env} {h₀ : Heap} {x : Str} {body : List Stmt} {Q : Flow → Shared → Prop} {σ : Type} {b : Array UInt8} {ks : List Int} {tb : Tok} {m₀ : Str → Option Value} (Led : σ → List (Addr × Obj)) (ps : σ → List (Str × Value)) (P : List Int → σ → Prop) (c₀ : σ)
    (hb : KBw.bInts b = ks) (hh : A.handled = none) (F : Fr h₀ env.locals s.heap m₀) (N : News h₀ env.locals s.heap (Led c₀)) (hk : ∀ p ∈ ps c₀, m₀ p.1 = some p.2) (hp : P [] c₀)
    (turn : ∀ (c : σ) (pre : List Int) (n : Int) t h tk own (QB : Flow → Shared → Prop), pre.length < ks.length → 0 ≤ n → n < 256 → OwnOff own ((Led c₀).map (·.1)) → P pre c → LoopO h₀ env.locals Led ps x [] m₀ (P (pre ++ [n])) own ((Led c₀).map (·.1)) { s with heap := h, toks := tk } QB →
      Fr h₀ env.locals h (fun y => if y = x then some (.int n t) else kstB m₀ (ps c) y) → News h₀ env.locals h (Led c ++ own) →
      wpAny (model prog w) A (execs body env) QB E { s with heap := h, toks := tk })
    (done : ∀ (c : σ) (u : Str → Option Value) h tk, P ks c → Fr h₀ env.locals h (fun y => if y = x then u y else kstB m₀ (ps c) y) → News h₀ env.locals h (Led c) → Q .next { s with heap := h, toks := tk }) :
    wpAny (model prog w) A (pyIter (.bytes b tb)) (fun it s₂ => LoopAtV prog w A h₀ env x body Q E it s₂) E s :=
  KStb.kst_bytes Led ps (fun _ => True) [] P c₀ hb rfl hh F N trivial hk hp
    (fun c pre post n t u h tk own _ h2 h3 h4 h5 _ h7 F' N' => turn c pre n t h tk own _ h2 h3 h4 h5 h7 loopO (by simpa only [List.contains_nil, Bool.false_eq_true, if_false] using F') N')
    (fun c u h tk _ _ h7 F' N' => done c u h tk h7 (by simpa only [List.contains_nil, Bool.false_eq_true, if_false] using F') N')
theorem kst_rangeO {prog : Program} {w : World} {A : Around} {E : Value → Shared → Prop} {s : Shared} {env : Env} {h₀ : Heap} {x : Str} {body : List Stmt} {Q : Flow → Shared → Prop} {σ : Type} {r : Addr} {a₀ b₀ : Int} {t₀ u₀ v₀ : Tok} {n : Nat} {m₀ : Str → Option Value} (Led : σ → List (Addr × Obj)) (ps : σ → List (Str × Value)) (stored : List Str) (P : List Int → σ → Prop) (c₀ : σ)
    (hh : A.handled = none) (hr : IsRange s.heap r a₀ b₀ 1 t₀ u₀ v₀) (hsmall : Builtin.Range.small a₀ b₀ 1 = true) (hn : Builtin.Range.rangeSize a₀ b₀ 1 = (n : Int)) (F : Fr h₀ env.locals s.heap m₀) (N : News h₀ env.locals s.heap (Led c₀)) (hk : ∀ p ∈ ps c₀, m₀ p.1 = some p.2) (hp : P [] c₀)
    (turn : ∀ (c : σ) (pre : List Int) (k : Int) t (u : Str → Option Value) h tk own (QB : Flow → Shared → Prop), k = a₀ + (pre.length : Int) → pre.length < n → OwnOff own ((Led c₀).map (·.1)) → P pre c → LoopO h₀ env.locals Led ps x stored m₀ (P (pre ++ [k])) own ((Led c₀).map (·.1)) { s with heap := h, toks := tk } QB →
      Fr h₀ env.locals h (fun y => if y = x then some (.int k t) else kstB (fun z => if stored.contains z then u z else m₀ z) (ps c) y) → News h₀ env.locals h (Led c ++ own) →
      wpAny (model prog w) A (execs body env) QB E { s with heap := h, toks := tk })
    (done : ∀ (c : σ) (u : Str → Option Value) h tk, P (rangeKs a₀ n) c → Fr h₀ env.locals h (fun y => if y = x then u y else kstB (fun z => if stored.contains z then u z else m₀ z) (ps c) y) → News h₀ env.locals h (Led c) → Q .next { s with heap := h, toks := tk }) :
    wpAny (model prog w) A (pyIter (.ref r)) (fun it s₂ => LoopAtV prog w A h₀ env x body Q E it s₂) E s :=
  kst_range Led ps (fun _ => True) stored P c₀ hh hr hsmall hn F N trivial hk hp
    (fun c pre k t u h tk own h1 h2 h3 _ h5 F' N' => turn c pre k t u h tk own _ h1 h2 h3 h5 loopO F' N')
    (fun c u h tk _ h5 F' N' => done c u h tk h5 F' N')
/-- the post of a while's turn, as a word -/
noncomputable def WhileO {σ : Type} (h₀ : Heap) (L : Addr) (s : Shared) (Led : σ → List (Addr × Obj)) (ps : σ → List (Str × Value)) (stored : List Str) (m₀ : Str → Option Value) (P : σ → Prop) (n : Nat) (μ : σ → Nat) (QB : Flow → Shared → Prop) : Prop :=
  ∀ (c' : σ) h' tk' m' news' f, (f = .next ∨ f = .cont) → Fr h₀ L h' m' → News h₀ L h' news' → (∀ p ∈ Led c', p ∈ news') → (∀ p ∈ ps c', m' p.1 = some p.2) → (∀ z, (∀ p ∈ ps c', z ≠ p.1) → stored.contains z = false → m' z = m₀ z) → P c' → μ c' < n → QB f { s with heap := h', toks := tk' }
theorem ksw_whileO {prog : Program} {w : World} {A : Around} {E : Value → Shared → Prop} {Q : Flow → Shared → Prop} {s : Shared} {env : Env} {h₀ : Heap} {L : Addr} {σ : Type} {test : Expr} {body : List Stmt} {pos : Pos} {m₀ : Str → Option Value} (Led : σ → List (Addr × Obj)) (ps : σ → List (Str × Value)) (stored : List Str) (P : σ → Prop) (μ : σ → Nat) (c₀ : σ)
    (hL : env.locals = L) (F : Fr h₀ L s.heap m₀) (N : News h₀ L s.heap (Led c₀)) (hk : ∀ p ∈ ps c₀, m₀ p.1 = some p.2) (hp : P c₀)
    (turn : ∀ (c : σ) (u : Str → Option Value) h tk (QB : Flow → Shared → Prop), P c → WhileO h₀ L s Led ps stored m₀ P (μ c) μ QB → Fr h₀ L h (kstB (fun z => if stored.contains z then u z else m₀ z) (ps c)) → News h₀ L h (Led c) →
      wpAny (model prog w) A (isTrue test env (eval test env)) (fun b s₂ =>
        if b = true then wpAny (model prog w) A (execs body env) QB E s₂ else Q .next s₂) E { s with heap := h, toks := tk })
    (hE : PassesOwn (model prog w) A env E) :
    wpAny (model prog w) A (exec (.While test body [] pos) env) Q E s := by
  subst hL
  exact ksw_while Led ps (fun _ => True) stored P μ c₀ F N trivial hk hp (fun c u h tk _ h2 F' N' => turn c u h tk _ h2 (fun c' h' tk' m' news' f hf F2 N2 a k oth p q => by
    rcases hf with rfl | rfl <;> exact ⟨c', h', tk', m', news', rfl, F2, N2, a, trivial, k, oth, p, q⟩) F' N') hE
noncomputable def b2aI (d out lb lc : Value) : Str → Option Value := fun y => if y = Str.ofString "leftchar" then some lc else if y = Str.ofString "leftbits" then some lb else if y = Str.ofString "out" then some out else if y = Str.ofString "newline" then some (.bool false) else if y = Str.ofString "bin_data" then some d else List.lookup y [(Str.ofString "newline", .bool false), (Str.ofString "data", d)]
structure B2aSt where
  vs : List Value
  n : Nat
  lb : Int
  t1 : Tok
  lc : Int
  t2 : Tok
noncomputable abbrev B64arr : Array UInt8 := #[65, 66, 67, 68, 69, 70, 71, 72, 73, 74, 75, 76, 77, 78, 79, 80, 81, 82, 83, 84, 85, 86, 87, 88, 89, 90, 97, 98, 99, 100, 101, 102, 103, 104, 105, 106, 107, 108, 109, 110, 111, 112, 113, 114, 115, 116, 117, 118, 119, 120, 121, 122, 48, 49, 50, 51, 52, 53, 54, 55, 56, 57, 43, 47]
noncomputable def sg (i : Int) : Int := (KBw.bInts B64arr).getD i.toNat 0
noncomputable def b2aStep : (List Int × Int × Int) → Int → (List Int × Int × Int)
  | (o, lb, lc), b =>
    let l := (lc * 256 + b) % 65536
    if lb = 0 then (o ++ [sg (l / 4 % 64)], 2, l)
    else if lb = 2 then (o ++ [sg (l / 16 % 64)], 4, l)
    else (o ++ [sg (l / 64 % 64), sg (l % 64)], 0, l)
noncomputable def b2aEnd : (List Int × Int × Int) → List Int
  | (o, lb, lc) => if lb = 2 then o ++ [sg (lc % 4 * 16), 61, 61] else if lb = 4 then o ++ [sg (lc % 16 * 4), 61] else o
noncomputable def b2aL (ks : List Int) : List Int := b2aEnd (ks.foldl b2aStep ([], 0, 0))
noncomputable def B2aP (pre : List Int) (c : B2aSt) : Prop := (∃ o, pre.foldl b2aStep ([], 0, 0) = (o, c.lb, c.lc) ∧ IntsAre c.vs o) ∧ (c.lb = 0 ∨ c.lb = 2 ∨ c.lb = 4) ∧ 0 ≤ c.lc ∧ c.lc < 65536 ∧ c.vs.length ≤ 2 * pre.length ∧ ∀ o, IntsAre c.vs o → KBa.In o

theorem sg_in (i : Int) : 0 ≤ sg i ∧ sg i < 256 := KBw.getD_in (ks := KBw.bInts B64arr) (j := i.toNat) fun _ hk => KBw.ints_in hk
theorem ints_uniq {vs : List Value} {a b : List Int} (ha : IntsAre vs a) (hb : IntsAre vs b) : a = b := ha.nums.symm.trans hb.nums
theorem ints_one (n : Int) (t : Tok) : IntsAre [.int n t] [n] := .cons _ _ .nil
theorem in_app {a b : List Int} (ha : KBa.In a) (hb : KBa.In b) : KBa.In (a ++ b) := fun n hn => (List.mem_append.mp hn).elim (ha n) (hb n)
theorem in_one {x : Int} (h : 0 ≤ x ∧ x < 256) : KBa.In [x] := fun n hn => by rw [List.mem_singleton.mp hn]; exact h

section
variable {pre : List Int} {o : List Int} {lc n : Int} {vs : List Value} {k : Nat} {t t' t1 t2 : Tok}
theorem b2aP_0 {x lb l : Int} (hfold : pre.foldl b2aStep ([], 0, 0) = (o, 0, lc)) (hints : IntsAre vs o) (hlen : vs.length ≤ 2 * pre.length) (hin : KBa.In o)
    (hlb : lb = 2) (hl : l = (lc * 256 + n) % 65536) (hx : x = sg (l / 4 % 64)) : B2aP (pre ++ [n]) ⟨vs ++ [.int x t], k, lb, t1, l, t2⟩ := by
  subst hlb hx
  have hi : IntsAre (vs ++ [.int (sg (l / 4 % 64)) t]) (o ++ [sg (l / 4 % 64)]) := hints.append (ints_one _ _)
  refine ⟨⟨o ++ [sg (l / 4 % 64)], ?_, hi⟩, .inr (.inl rfl), by dsimp only; omega, by dsimp only; omega, by simp; omega, fun o' h' => ?_⟩
  · rw [List.foldl_append, hfold]; simp only [List.foldl_cons, List.foldl_nil, b2aStep, if_true, ← hl]
  · rw [ints_uniq h' hi]; exact in_app hin (in_one (sg_in _))
theorem b2aP_2 {x lb l : Int} (hfold : pre.foldl b2aStep ([], 0, 0) = (o, 2, lc)) (hints : IntsAre vs o) (hlen : vs.length ≤ 2 * pre.length) (hin : KBa.In o)
    (hlb : lb = 4) (hl : l = (lc * 256 + n) % 65536) (hx : x = sg (l / 16 % 64)) : B2aP (pre ++ [n]) ⟨vs ++ [.int x t], k, lb, t1, l, t2⟩ := by
  subst hlb hx
  have hi : IntsAre (vs ++ [.int (sg (l / 16 % 64)) t]) (o ++ [sg (l / 16 % 64)]) := hints.append (ints_one _ _)
  refine ⟨⟨o ++ [sg (l / 16 % 64)], ?_, hi⟩, .inr (.inr rfl), by dsimp only; omega, by dsimp only; omega, by simp; omega, fun o' h' => ?_⟩
  · rw [List.foldl_append, hfold]; simp [b2aStep, ← hl]
  · rw [ints_uniq h' hi]; exact in_app hin (in_one (sg_in _))
theorem b2aP_4 {x y lb l : Int} (hfold : pre.foldl b2aStep ([], 0, 0) = (o, 4, lc)) (hints : IntsAre vs o) (hlen : vs.length ≤ 2 * pre.length) (hin : KBa.In o)
    (hlb : lb = 0) (hl : l = (lc * 256 + n) % 65536) (hx : x = sg (l / 64 % 64)) (hy : y = sg (l % 64)) : B2aP (pre ++ [n]) ⟨(vs ++ [.int x t]) ++ [.int y t'], k, lb, t1, l, t2⟩ := by
  subst hlb hx hy
  have hi : IntsAre ((vs ++ [.int (sg (l / 64 % 64)) t]) ++ [.int (sg (l % 64)) t']) ((o ++ [sg (l / 64 % 64)]) ++ [sg (l % 64)]) := (hints.append (ints_one _ _)).append (ints_one _ _)
  refine ⟨⟨(o ++ [sg (l / 64 % 64)]) ++ [sg (l % 64)], ?_, hi⟩, .inl rfl, by dsimp only; omega, by dsimp only; omega, by simp; omega, fun o' h' => ?_⟩
  · rw [List.foldl_append, hfold]; simp [b2aStep, ← hl]
  · rw [ints_uniq h' hi]; exact in_app (in_app hin (in_one (sg_in _))) (in_one (sg_in _))
end
theorem lc_next {lc n : Int} (h0 : 0 ≤ lc) (hn0 : 0 ≤ n) (hn1 : n < 256) : Builtin.bitAnd (Builtin.bitOr (lc * 2 ^ Int.toNat 8) n) 65535 = (lc * 256 + n) % 65536 := by
  rw [bitAnd_m16, bor_add (x := lc * 2 ^ Int.toNat 8) 8 lc rfl h0 hn0 (by simpa using hn1)]; rfl
theorem sg_sh (X : Int) (k : Nat) : sg (Builtin.bitAnd (X.fdiv (2 ^ k)) 63) = sg (X / 2 ^ k % 64) := by
  rw [bitAnd_m6, Int.fdiv_eq_ediv_of_nonneg]
  exact_mod_cast Nat.zero_le (2 ^ k)
theorem sg_sh2 (X : Int) : sg (Builtin.bitAnd (X.fdiv (2 ^ Int.toNat (0 + 8 - 6))) 63) = sg (X / 4 % 64) := sg_sh X 2
theorem sg_sh4 (X : Int) : sg (Builtin.bitAnd (X.fdiv (2 ^ Int.toNat (2 + 8 - 6))) 63) = sg (X / 16 % 64) := sg_sh X 4
theorem sg_sh6 (X : Int) : sg (Builtin.bitAnd (X.fdiv (2 ^ Int.toNat (4 + 8 - 6))) 63) = sg (X / 64 % 64) := sg_sh X 6
theorem sg_sh0 (X : Int) : sg (Builtin.bitAnd (X.fdiv (2 ^ Int.toNat (4 + 8 - 6 - 6))) 63) = sg (X % 64) := (sg_sh X 0).trans (by simp)
theorem shl_mask {prog : Program} {w : World} {A : Around} {E : Value → Shared → Prop} {s : Shared} {a m n : Int} {t u : Tok} {Q : Value → Shared → Prop} (hm : 0 ≤ m) (hm2 : m < 256) (hn : 0 ≤ n) (hn2 : n ≤ 1000000)
    (h : Q (.int (Builtin.bitAnd a m * 2 ^ n.toNat) s.toks) { s with toks := s.toks + 1 }) : wpAny (model prog w) A (binaryOp .LShift (.int (Builtin.bitAnd a m) t) (.int n u)) Q E s :=
  lshift_int_small hn hn2 (by have := bitAnd_range a hm; omega) h

theorem b64_item {prog : Program} {w : World} {A : Around} {E : Value → Shared → Prop} {s : Shared} {value slice : PySem.Expr} {t ui : Tok} {i : Int} {Q : Value → Shared → Prop} (h0 : 0 ≤ i) (h1 : i < 64)
    (h : ∀ t' k, Q (.int (sg i) t') { s with toks := k })
    (hs : subscripted slice false (.bytes B64arr t) (.int i ui) = operate [.bytes B64arr t, .int i ui] (getItem (.bytes B64arr t) (.int i ui)) := by with_unfolding_all rfl)
    (ht : ∀ r, letTemporaryGo value (.bytes B64arr t) r = pure () := by intro _; with_unfolding_all rfl) : wpAny (model prog w) A (subscriptTail value slice (.bytes B64arr t) (.int i ui)) Q E s :=
  KBw.item_K (ks := KBw.bInts B64arr) rfl (by decide) h0 h1 (fun t' k _ _ => h t' k) hs ht

theorem kw_B3_1 : True := by
  k_with_none
  k_with "om" => (law_clear; first | with_reducible assumption | (law_purse 20000 => grind))
  k_with "eval BinOp" => (k_here; (with_reducible show wpAny _ _ (eval (Expr.BinOp (Expr.Name _ _) _ (Expr.Constant (Const.int _) _ _) _) _) _ _ _); k_dflt (refine binNC (by k_asm) (by rfl) ?_ (by rfl) (by rfl) (by decide)); (try dsimp only))
  k_with "eval BinOp" => (k_here; (with_reducible show wpAny _ _ (eval (Expr.BinOp (Expr.Name _ _) _ (Expr.Name _ _) _) _) _ _ _); k_dflt (refine binNN (by k_asm) (by rfl) (by rfl) ?_ (by rfl) (by rfl) (by rfl) (by decide) (by decide)); (try dsimp only))
  k_with "isTrue Compare" => (k_here; (with_reducible show wpAny _ _ (isTrue (Expr.Compare (Expr.Name _ _) [_] [Expr.Constant (Const.int _) _ _] _) _ _) _ _ _); k_dflt (refine isNC (by k_asm) (by rfl) ?_ (by rfl) (by rfl) (by decide) (by with_unfolding_all rfl)); (try dsimp only))
  k_with "guard" => ((fail_if_success (with_reducible show wpAny _ _ (pyIter _) _ _ _)))
  k_with "call ref" => ((k_here; k_dflt (refine use_spec (sp_buffer _ _) (by k_asm) (by k_asm) (by k_asm) (by k_asm) (by trivial) (by (dsimp only [Around.deeper]; omega)) (by (dsimp only [Around.deeper]; omega)) ?_; k_whole); intro v' h' tk' F' N' st' hv'; subst hv'; clear st'); (try (revert h' tk' F' N'; intros)))
  k_with "call ref" => ((k_here; k_dflt (refine use_spec (sp_truth _) (by k_asm) (by k_asm) (by k_asm) (by k_asm) (by trivial) (by (dsimp only [Around.deeper]; omega)) (by (dsimp only [Around.deeper]; omega)) ?_; k_whole); intro v' h' tk' F' N' st' hv'; subst hv'; clear st'); (try (revert h' tk' F' N'; intros)))
  k_with "subscriptTail" => ((k_here; (with_reducible show wpAny _ _ (subscriptTail _ _ (Value.bytes _ _) (Value.int (Builtin.bitAnd _ 63) _)) _ _ _); k_dflt (refine' b64_item (bitAnd_range _ (by decide)).1 (Int.lt_of_le_of_lt (bitAnd_range _ (by decide)).2 (by decide)) ?_); intro tb' kb'); (try (revert tb' kb'; intros)))
  k_with "binaryOp LShift int int" => (k_here; (with_reducible show wpAny _ _ (binaryOp _ (Value.int (Builtin.bitAnd _ _) _) _) _ _ _); k_dflt (refine' shl_mask (by decide) (by decide) (by decide) (by decide) ?_))
  k_with "subscriptTail" => ((k_here; (with_reducible show wpAny _ _ (subscriptTail _ _ (Value.bytes _ _) (Value.int (Builtin.bitAnd _ 3 * _) _)) _ _ _); k_dflt (refine' b64_item (by rw [bitAnd_m2]; simp; omega) (by rw [bitAnd_m2]; simp; omega) ?_); intro tb' kb'); (try (revert tb' kb'; intros)))
  k_with "subscriptTail" => ((k_here; (with_reducible show wpAny _ _ (subscriptTail _ _ (Value.bytes _ _) (Value.int (Builtin.bitAnd _ 15 * _) _)) _ _ _); k_dflt (refine' b64_item (by rw [bitAnd_m4]; simp; omega) (by rw [bitAnd_m4]; simp; omega) ?_); intro tb' kb'); (try (revert tb' kb'; intros)))
  trivial
theorem out_bytes {prog : Program} {w : World} {A : Around} {E : Value → Shared → Prop} {s : Shared} {h₀ : Heap} {L D : Addr} {m : PySem.Str → Option Value} {news : List (Addr × Obj)} {vs : List Value} {n : Nat} {ns : List Int} {Q : Value → Shared → Prop} (F : Fr h₀ L s.heap m) (N : News h₀ L s.heap news) (hh : A.handled = none)
    (hl : (D, listOf vs.toArray n) ∈ news) (hi : IntsAre vs ns) (hr : KBa.In ns) (hn : ns.length ≤ 16777216)
    (h : ∀ h' t' k, Fr h₀ L h' m → KBw.bInts (byteArr ns) = ns → Q (.bytes (byteArr ns) t') { s with heap := h', toks := k }) : wpAny (model prog w) A (call (.type "bytes") [.ref D]) Q E s :=
  KBa.make_K F N hh (News.isList N hl) hi hr hn fun h' t' k F' _ hr => h h' t' k F' (KBa.ints_make hr)
theorem sp_b2a  (b : Array UInt8) (t : Tok) (ks : List Int) (hb : KBw.bInts b = ks) (hz : ks.length ≤ 100000) : Spec 117 [.bytes b t] [(Str.ofString "newline", .bool false)] 2 (fun _ => True) (fun v _ => ∃ r t', v = .bytes r t' ∧ KBw.bInts r = b2aL ks) := by
  intro dp un fr gd h₀ gens drawn toks os Q E X T hp hd hu hret
  revert X; k_fill; intro X
  try dsimp only at hp hret
  k_dflt (refine' enter_def ?k1 ?k2 ?k6 ?k7 ?k8 ?k9 ?kB ?_ ?c2 ?c3 ?c4 ?c5; (case k1 => exact X); (case k2 => exact T); (case k6 => k_is); (case k7 => k_is); (case k8 => (show dp < _; omega)); (case k9 => first | exact BindsTo.of_eq rfl | exact binds_K X rfl (by k_is) rfl rfl rfl); (case kB => exact locs rfl); (case c2 => exact rfl); (case c3 => exact rfl); (case c4 => exact rfl); (case c5 => decide))
  intro L h₁ tk F N
  dsimp only at F N ⊢
  k_fold
  k_steps
  rename Fr _ _ _ _ => F1
  rename News _ _ _ _ => N1
  replace F1 : Fr h₀ L _ (b2aI (.bytes b t) (.ref _) (.int 0 _) (.int 0 _)) := F1
  with_unfolding_all refine' kst_bytesO (σ := B2aSt) (fun c => [(_, listOf c.vs.toArray c.n)]) (fun c => [(Str.ofString "leftbits", .int c.lb c.t1), (Str.ofString "leftchar", .int c.lc c.t2)]) B2aP ⟨[], 0, 0, _, 0, _⟩ hb rfl F1 N1 (al2 rfl rfl) ⟨⟨[], rfl, .nil⟩, .inl rfl, by dsimp only; omega, by dsimp only; omega, Nat.zero_le _, fun o h => by cases h; exact fun _ hx => (nomatch hx)⟩ ?turn ?done
  case turn =>
    intro c pre n tn h tk own QB hlt hn0 hn1 hoff hP hnx F' N'
    refine @by_no _ fun hNo9 => ?_
    obtain ⟨vs, nn, lb, t1, lc, t2⟩ := c
    clear F1 N1
    refine hNo9 ?_
    clear hNo9
    dsimp only [envOf] at hnx F' N' ⊢
    simp only [List.cons_append, List.nil_append] at N'
    simp only [List.map_cons, List.map_nil] at hoff
    simp only [kstB] at F'
    refine @by_no _ fun hno => ?_
    refine @by_no _ fun hNo9 => ?_
    obtain ⟨⟨o, hfold, hints⟩, hlb, hlc0, hlc1, hlen, hin⟩ := hP
    replace hin := hin _ hints
    dsimp only at hfold hints hlb hlc0 hlc1 hlen
    refine hNo9 ?_
    clear hNo9
    refine hno ?_
    clear hno
    rcases hlb with rfl | rfl | rfl
    · k_steps
      rename Fr _ _ _ _ => F2
      rename News _ _ _ _ => N2
      simp only [List.push_toArray] at N2
      with_unfolding_all refine' hnx ⟨(vs ++ [_]), _, _, _, _, _⟩ _ _ _ _ _ (.inl rfl) F2 N2 (al1 (.head _)) (fun p hp => .tail _ hp) rfl (al2 rfl rfl) ?oth ?P
      case oth =>
        intro z h1 h2 _
        have h3 := ne2a h2
        have h4 := ne2b h2
        repeat (with_reducible (first | refine (if_neg h1).trans ?_ | refine (if_neg h3).trans ?_ | refine (if_neg h4).trans ?_))
        rfl
      case P =>
        exact b2aP_0 hfold hints hlen hin (by decide) (lc_next hlc0 hn0 hn1) (sg_sh2 _)
    · k_steps
      rename Fr _ _ _ _ => F2
      rename News _ _ _ _ => N2
      simp only [List.push_toArray] at N2
      with_unfolding_all refine' hnx ⟨(vs ++ [_]), _, _, _, _, _⟩ _ _ _ _ _ (.inl rfl) F2 N2 (al1 (.head _)) (fun p hp => .tail _ hp) rfl (al2 rfl rfl) ?oth ?P
      case oth =>
        intro z h1 h2 _
        have h3 := ne2a h2
        have h4 := ne2b h2
        repeat (with_reducible (first | refine (if_neg h1).trans ?_ | refine (if_neg h3).trans ?_ | refine (if_neg h4).trans ?_))
        rfl
      case P =>
        exact b2aP_2 hfold hints hlen hin (by decide) (lc_next hlc0 hn0 hn1) (sg_sh4 _)
    · k_steps
      rename Fr _ _ _ _ => F2
      rename News _ _ _ _ => N2
      simp only [List.push_toArray] at N2
      with_unfolding_all refine' hnx ⟨((vs ++ [_]) ++ [_]), _, _, _, _, _⟩ _ _ _ _ _ (.inl rfl) F2 N2 (al1 (.head _)) (fun p hp => .tail _ hp) rfl (al2 rfl rfl) ?oth ?P
      case oth =>
        intro z h1 h2 _
        have h3 := ne2a h2
        have h4 := ne2b h2
        repeat (with_reducible (first | refine (if_neg h1).trans ?_ | refine (if_neg h3).trans ?_ | refine (if_neg h4).trans ?_))
        rfl
      case P =>
        exact b2aP_4 hfold hints hlen hin (by decide) (lc_next hlc0 hn0 hn1) (sg_sh6 _) (sg_sh0 _)
  case done => 
    intro c u h tk hP F' N'
    refine @by_no _ fun hNo9 => ?_
    obtain ⟨vs, nn, lb, t1, lc, t2⟩ := c
    clear F1 N1
    refine hNo9 ?_
    clear hNo9
    dsimp only [envOf] at F' N' ⊢
    simp only [kstB] at F'
    refine @by_no _ fun hno => ?_
    refine @by_no _ fun hNo9 => ?_
    obtain ⟨⟨o, hfold, hints⟩, hlb, hlc0, hlc1, hlen, hin⟩ := hP
    replace hin := hin _ hints
    dsimp only at hfold hints hlb hlc0 hlc1 hlen
    refine hNo9 ?_
    clear hNo9
    refine hno ?_
    clear hno
    rcases hlb with rfl | rfl | rfl
    · k_steps
      refine hret _ _ _ (Fr.keep (by assumption)) ⟨_, _, rfl, (KBa.ints_make hin).trans ?_⟩
      simp only [b2aL, hfold, b2aEnd]
      rfl
    · k_steps
      rename Fr _ _ _ _ => F2
      rename News _ _ _ _ => N2
      (try simp only [List.push_toArray] at N2)
      k_dflt (refine' out_bytes F2 N2 rfl (.head _) (((hints.append (ints_one _ _)).append (ints_one _ _)).append (ints_one _ _)) (in_app (in_app (in_app hin (in_one (sg_in _))) (in_one (by decide))) (in_one (by decide))) ?_ ?_)
      · have := hints.length
        simp only [List.length_append, List.length_cons, List.length_nil]
        omega
      · intro h9 t9 k9 F9 e9
        refine hret _ _ _ F9.keep ⟨_, _, rfl, e9.trans ?_⟩
        simp only [b2aL, hfold, b2aEnd]
        simp [bitAnd_m2]
    · k_steps
      rename Fr _ _ _ _ => F2
      rename News _ _ _ _ => N2
      (try simp only [List.push_toArray] at N2)
      k_dflt (refine' out_bytes F2 N2 rfl (.head _) ((hints.append (ints_one _ _)).append (ints_one _ _)) (in_app (in_app hin (in_one (sg_in _))) (in_one (by decide))) ?_ ?_)
      · have := hints.length
        simp only [List.length_append, List.length_cons, List.length_nil]
        omega
      · intro h9 t9 k9 F9 e9
        refine hret _ _ _ F9.keep ⟨_, _, rfl, e9.trans ?_⟩
        simp only [b2aL, hfold, b2aEnd]
        simp [bitAnd_m4]

theorem begin_B4 : True := by
  w_on
  w_top off
  k_with_none
  k_with "om" => (law_clear; first | with_reducible assumption | (law_purse 20000 => grind))
  k_with "guard" => skip
  trivial
set_option maxHeartbeats 8000000
noncomputable def a2bI (d out q lc pd i : Value) : Str → Option Value := fun y => if y = Str.ofString "i" then some i else if y = Str.ofString "pads" then some pd else if y = Str.ofString "leftchar" then some lc else if y = Str.ofString "quad_pos" then some q else if y = Str.ofString "out" then some out else if y = Str.ofString "strict_mode" then some (.bool false) else if y = Str.ofString "ascii_data" then some d else List.lookup y [(Str.ofString "strict_mode", .bool false), (Str.ofString "data", d)]
structure A2bSt where
  vs : List Value
  n : Nat
  q : Int
  t1 : Tok
  lc : Int
  t2 : Tok
  pd : Int
  t3 : Tok
  i : Int
  t4 : Tok
noncomputable def a2bStep : (List Int × Int × Int × Int) → Int → (List Int × Int × Int × Int)
  | (o, q, lc, pd), c =>
    if c = 61 then (o, q, lc, pd + 1)
    else if 64 ≤ b64v c then (o, q, lc, pd)
    else if q = 0 then (o, 1, b64v c, 0)
    else if q = 1 then (o ++ [lc * 4 + b64v c / 16], 2, b64v c % 16, 0)
    else if q = 2 then (o ++ [lc * 16 + b64v c / 4], 3, b64v c % 4, 0)
    else (o ++ [lc * 64 + b64v c], 0, 0, 0)
noncomputable def a2bS (ks : List Int) : List Int × Int × Int × Int := ks.foldl a2bStep ([], 0, 0, 0)
noncomputable def Qok (q lc : Int) : Prop := (q = 0 ∧ lc = 0) ∨ (q = 1 ∧ lc < 64) ∨ (q = 2 ∧ lc < 16) ∨ (q = 3 ∧ lc < 4)
noncomputable def A2bP (pre : List Int) (c : A2bSt) : Prop := (∃ o, a2bS pre = (o, c.q, c.lc, c.pd) ∧ IntsAre c.vs o ∧ KBa.In o) ∧ Qok c.q c.lc ∧ 0 ≤ c.lc ∧ 0 ≤ c.pd ∧ c.pd ≤ pre.length ∧ c.vs.length ≤ pre.length ∧ 0 ≤ c.i ∧ c.i ≤ pre.length
theorem b64v_range (c : Int) : 0 ≤ b64v c ∧ b64v c ≤ 64 := by
  unfold b64v; (repeat' split) <;> omega
section
variable {pre : List Int} {o : List Int} {lc n q pd i i' : Int} {vs : List Value} {k : Nat} {t t' t1 t2 t3 t4 : Tok}
theorem a2bP_keep {q' lc' pd' : Int} (hfold : a2bS pre = (o, q, lc, pd)) (hints : IntsAre vs o) (hin : KBa.In o) (hq : Qok q lc) (hlc : 0 ≤ lc) (hpd : 0 ≤ pd) (hpd2 : pd ≤ pre.length) (hlen : vs.length ≤ pre.length) (hi0 : 0 ≤ i) (hi1 : i ≤ pre.length) (hi' : i' = i + 1)
    (hc : (n = 61 ∧ pd' = pd + 1) ∨ (n ≠ 61 ∧ 64 ≤ b64v n ∧ pd' = pd)) (hq' : q' = q) (hl' : lc' = lc) : A2bP (pre ++ [n]) ⟨vs, k, q', t1, lc', t2, pd', t3, i', t4⟩ := by
  subst hq' hl' hi'
  refine ⟨⟨o, ?_, hints, hin⟩, hq, hlc, ?_, ?_, ?_, ?_, ?_⟩
  · rw [a2bS, List.foldl_append]
    show a2bStep (a2bS pre) n = _
    rw [hfold]
    rcases hc with ⟨h1, h2⟩ | ⟨h1, h2, h3⟩
    · simp [a2bStep, h1, h2]
    · simp [a2bStep, h1, h2, h3]
  all_goals (simp only [List.length_append, List.length_cons, List.length_nil]; omega)
theorem a2bP_0 {q' lc' pd' : Int} (hfold : a2bS pre = (o, 0, lc, pd)) (hints : IntsAre vs o) (hin : KBa.In o) (hlen : vs.length ≤ pre.length) (hi0 : 0 ≤ i) (hi1 : i ≤ pre.length) (hi' : i' = i + 1)
    (hn : n ≠ 61) (hv : b64v n < 64) (hq' : q' = 1) (hl' : lc' = b64v n) (hp' : pd' = 0) : A2bP (pre ++ [n]) ⟨vs, k, q', t1, lc', t2, pd', t3, i', t4⟩ := by
  subst hq' hl' hp' hi'
  have := b64v_range n
  refine ⟨⟨o, ?_, hints, hin⟩, .inr (.inl ⟨rfl, hv⟩), this.1, Int.le_refl _, ?_, ?_, ?_, ?_⟩
  · rw [a2bS, List.foldl_append]
    show a2bStep (a2bS pre) n = _
    rw [hfold]
    simp [a2bStep, hn, Int.not_le.mpr hv]
  all_goals (simp only [List.length_append, List.length_cons, List.length_nil]; omega)
theorem a2bP_put {q' lc' pd' x x' : Int} (hfold : a2bS pre = (o, q, lc, pd)) (hints : IntsAre vs o) (hin : KBa.In o) (hlen : vs.length ≤ pre.length) (hi0 : 0 ≤ i) (hi1 : i ≤ pre.length) (hi' : i' = i + 1)
    (hn : n ≠ 61) (hv : b64v n < 64) (hs : a2bStep (o, q, lc, pd) n = (o ++ [x'], q', lc', pd')) (hx : x = x') (hxr : 0 ≤ x' ∧ x' < 256) (hq' : Qok q' lc') (hl0 : 0 ≤ lc') (hp' : pd' = 0) :
    A2bP (pre ++ [n]) ⟨vs ++ [.int x t], k, q', t1, lc', t2, pd', t3, i', t4⟩ := by
  subst hx hp' hi'
  refine ⟨⟨o ++ [x], ?_, hints.append (ints_one _ _), in_app hin (in_one hxr)⟩, hq', hl0, Int.le_refl _, ?_, ?_, ?_, ?_⟩
  · rw [a2bS, List.foldl_append]
    show a2bStep (a2bS pre) n = _
    rw [hfold, hs]
  all_goals (simp only [List.length_append, List.length_cons, List.length_nil]; omega)
theorem put_1 {q' lc' pd' x : Int} (hfold : a2bS pre = (o, 1, lc, pd)) (hints : IntsAre vs o) (hin : KBa.In o) (hlc : 0 ≤ lc) (hlc1 : lc < 64) (hlen : vs.length ≤ pre.length) (hi0 : 0 ≤ i) (hi1 : i ≤ pre.length) (hi' : i' = i + 1)
    (hn : n ≠ 61) (hv : b64v n < 64) (hq' : q' = 2) (hl : lc' = Builtin.bitAnd (b64v n) 15) (hp : pd' = 0) (hx : x = Builtin.bitOr (lc * 2 ^ Int.toNat 2) ((b64v n).fdiv (2 ^ Int.toNat 4))) : A2bP (pre ++ [n]) ⟨vs ++ [.int x t], k, q', t1, lc', t2, pd', t3, i', t4⟩ := by
  have hr := b64v_range n
  have e1 : (b64v n).fdiv (2 ^ Int.toNat 4) = b64v n / 16 := Int.fdiv_eq_ediv_of_nonneg _ (by decide)
  rw [bitAnd_m4] at hl
  rw [e1, bor_add (x := lc * 2 ^ Int.toNat 2) 2 lc rfl hlc (by omega) (by show _ < (4 : Int); omega)] at hx
  have hx' : x = lc * 4 + b64v n / 16 := hx
  subst hq' hl hp
  refine a2bP_put hfold hints hin hlen hi0 hi1 hi' hn hv (x' := lc * 4 + b64v n / 16) ?_ hx' (by omega) (.inr (.inr (.inl ⟨rfl, by omega⟩))) (by omega) rfl
  simp [a2bStep, hn, Int.not_le.mpr hv]
theorem put_2 {q' lc' pd' x : Int} (hfold : a2bS pre = (o, 2, lc, pd)) (hints : IntsAre vs o) (hin : KBa.In o) (hlc : 0 ≤ lc) (hlc1 : lc < 16) (hlen : vs.length ≤ pre.length) (hi0 : 0 ≤ i) (hi1 : i ≤ pre.length) (hi' : i' = i + 1)
    (hn : n ≠ 61) (hv : b64v n < 64) (hq' : q' = 3) (hl : lc' = Builtin.bitAnd (b64v n) 3) (hp : pd' = 0) (hx : x = Builtin.bitOr (lc * 2 ^ Int.toNat 4) ((b64v n).fdiv (2 ^ Int.toNat 2))) : A2bP (pre ++ [n]) ⟨vs ++ [.int x t], k, q', t1, lc', t2, pd', t3, i', t4⟩ := by
  have hr := b64v_range n
  have e1 : (b64v n).fdiv (2 ^ Int.toNat 2) = b64v n / 4 := Int.fdiv_eq_ediv_of_nonneg _ (by decide)
  rw [bitAnd_m2] at hl
  rw [e1, bor_add (x := lc * 2 ^ Int.toNat 4) 4 lc rfl hlc (by omega) (by show _ < (16 : Int); omega)] at hx
  have hx' : x = lc * 16 + b64v n / 4 := hx
  subst hq' hl hp
  refine a2bP_put hfold hints hin hlen hi0 hi1 hi' hn hv (x' := lc * 16 + b64v n / 4) ?_ hx' (by omega) (.inr (.inr (.inr ⟨rfl, by omega⟩))) (by omega) rfl
  simp [a2bStep, hn, Int.not_le.mpr hv]
theorem put_3 {q' lc' pd' x : Int} (hfold : a2bS pre = (o, 3, lc, pd)) (hints : IntsAre vs o) (hin : KBa.In o) (hlc : 0 ≤ lc) (hlc1 : lc < 4) (hlen : vs.length ≤ pre.length) (hi0 : 0 ≤ i) (hi1 : i ≤ pre.length) (hi' : i' = i + 1)
    (hn : n ≠ 61) (hv : b64v n < 64) (hq' : q' = 0) (hl : lc' = 0) (hp : pd' = 0) (hx : x = Builtin.bitOr (lc * 2 ^ Int.toNat 6) (b64v n)) : A2bP (pre ++ [n]) ⟨vs ++ [.int x t], k, q', t1, lc', t2, pd', t3, i', t4⟩ := by
  have hr := b64v_range n
  rw [bor_add (x := lc * 2 ^ Int.toNat 6) 6 lc rfl hlc (by omega) (by show _ < (64 : Int); omega)] at hx
  have hx' : x = lc * 64 + b64v n := hx
  subst hq' hl hp
  refine a2bP_put hfold hints hin hlen hi0 hi1 hi' hn hv (x' := lc * 64 + b64v n) ?_ hx' (by omega) (.inl ⟨rfl, rfl⟩) (by omega) rfl
  simp [a2bStep, hn, Int.not_le.mpr hv]
theorem a2bP_0' {q' lc' pd' : Int} (hfold : a2bS pre = (o, q, lc, pd)) (hints : IntsAre vs o) (hin : KBa.In o) (hlen : vs.length ≤ pre.length) (hi0 : 0 ≤ i) (hi1 : i ≤ pre.length) (hi' : i' = i + 1)
    (hn : n ≠ 61) (hv : b64v n < 64) (hq' : q' = 1) (hl' : lc' = b64v n) (hp' : pd' = 0) (hq : Qok q lc) (he : q = 0) : A2bP (pre ++ [n]) ⟨vs, k, q', t1, lc', t2, pd', t3, i', t4⟩ := by
  rcases hq with ⟨rfl, hh⟩ | ⟨h, _⟩ | ⟨h, _⟩ | ⟨h, _⟩
  · exact a2bP_0 hfold hints hin hlen hi0 hi1 hi' hn hv hq' hl' hp'
  · omega
  · omega
  · omega
theorem put_1' {q' lc' pd' x : Int} (hfold : a2bS pre = (o, q, lc, pd)) (hints : IntsAre vs o) (hin : KBa.In o) (hlc : 0 ≤ lc) (hlen : vs.length ≤ pre.length) (hi0 : 0 ≤ i) (hi1 : i ≤ pre.length) (hi' : i' = i + 1)
    (hn : n ≠ 61) (hv : b64v n < 64) (hq' : q' = 2) (hl : lc' = Builtin.bitAnd (b64v n) 15) (hp : pd' = 0) (hx : x = Builtin.bitOr (lc * 2 ^ Int.toNat 2) ((b64v n).fdiv (2 ^ Int.toNat 4))) (hq : Qok q lc) (he : q = 1) : A2bP (pre ++ [n]) ⟨vs ++ [.int x t], k, q', t1, lc', t2, pd', t3, i', t4⟩ := by
  rcases hq with ⟨h, _⟩ | ⟨rfl, hh⟩ | ⟨h, _⟩ | ⟨h, _⟩
  · omega
  · exact put_1 hfold hints hin hlc hh hlen hi0 hi1 hi' hn hv hq' hl hp hx
  · omega
  · omega
theorem put_2' {q' lc' pd' x : Int} (hfold : a2bS pre = (o, q, lc, pd)) (hints : IntsAre vs o) (hin : KBa.In o) (hlc : 0 ≤ lc) (hlen : vs.length ≤ pre.length) (hi0 : 0 ≤ i) (hi1 : i ≤ pre.length) (hi' : i' = i + 1)
    (hn : n ≠ 61) (hv : b64v n < 64) (hq' : q' = 3) (hl : lc' = Builtin.bitAnd (b64v n) 3) (hp : pd' = 0) (hx : x = Builtin.bitOr (lc * 2 ^ Int.toNat 4) ((b64v n).fdiv (2 ^ Int.toNat 2))) (hq : Qok q lc) (he : q = 2) : A2bP (pre ++ [n]) ⟨vs ++ [.int x t], k, q', t1, lc', t2, pd', t3, i', t4⟩ := by
  rcases hq with ⟨h, _⟩ | ⟨h, _⟩ | ⟨rfl, hh⟩ | ⟨h, _⟩
  · omega
  · omega
  · exact put_2 hfold hints hin hlc hh hlen hi0 hi1 hi' hn hv hq' hl hp hx
  · omega
theorem put_3' {q' lc' pd' x : Int} (hfold : a2bS pre = (o, q, lc, pd)) (hints : IntsAre vs o) (hin : KBa.In o) (hlc : 0 ≤ lc) (hlen : vs.length ≤ pre.length) (hi0 : 0 ≤ i) (hi1 : i ≤ pre.length) (hi' : i' = i + 1)
    (hn : n ≠ 61) (hv : b64v n < 64) (hq' : q' = 0) (hl : lc' = 0) (hp : pd' = 0) (hx : x = Builtin.bitOr (lc * 2 ^ Int.toNat 6) (b64v n)) (hq : Qok q lc) (e0 : q ≠ 0) (e1 : q ≠ 1) (e2 : q ≠ 2) : A2bP (pre ++ [n]) ⟨vs ++ [.int x t], k, q', t1, lc', t2, pd', t3, i', t4⟩ := by
  rcases hq with ⟨h, _⟩ | ⟨h, _⟩ | ⟨h, _⟩ | ⟨rfl, hh⟩
  · omega
  · omega
  · omega
  · exact put_3 hfold hints hin hlc hh hlen hi0 hi1 hi' hn hv hq' hl hp hx
end
theorem kw_B4_1 : True := by
  k_with_none
  k_with "om" => (law_clear; first | with_reducible assumption | (law_purse 20000 => grind))
  k_with "eval BinOp" => (k_here; (with_reducible show wpAny _ _ (eval (Expr.BinOp (Expr.Name _ _) _ (Expr.Constant (Const.int _) _ _) _) _) _ _ _); k_dflt (refine binNC (by k_asm) (by rfl) ?_ (by rfl) (by rfl) (by decide)); (try dsimp only))
  k_with "eval BinOp" => (k_here; (with_reducible show wpAny _ _ (eval (Expr.BinOp (Expr.Name _ _) _ (Expr.Name _ _) _) _) _ _ _); k_dflt (refine binNN (by k_asm) (by rfl) (by rfl) ?_ (by rfl) (by rfl) (by rfl) (by decide) (by decide)); (try dsimp only))
  k_with "isTrue Compare" => (k_here; (with_reducible show wpAny _ _ (isTrue (Expr.Compare (Expr.Name _ _) [_] [Expr.Constant (Const.int _) _ _] _) _ _) _ _ _); k_dflt (refine isNC (by k_asm) (by rfl) ?_ (by rfl) (by rfl) (by decide) (by with_unfolding_all rfl)); (try dsimp only))
  k_with "guard" => ((fail_if_success (with_reducible show wpAny _ _ (pyIter _) _ _ _)))
  k_with "call ref" => ((k_here; k_dflt (refine use_spec (sp_ascii _ _) (by k_asm) (by k_asm) (by k_asm) (by k_asm) (by trivial) (by (dsimp only [Around.deeper]; omega)) (by (dsimp only [Around.deeper]; omega)) ?_; k_whole); intro v' h' tk' F' N' st' hv'; subst hv'; clear st'); (try (revert h' tk' F' N'; intros)))
  k_with "call ref" => ((k_here; k_dflt (refine use_spec (sp_truth _) (by k_asm) (by k_asm) (by k_asm) (by k_asm) (by trivial) (by (dsimp only [Around.deeper]; omega)) (by (dsimp only [Around.deeper]; omega)) ?_; k_whole); intro v' h' tk' F' N' st' hv'; subst hv'; clear st'); (try (revert h' tk' F' N'; intros)))
  k_with "call ref" => ((k_here; k_dflt (refine use_spec (sp_b64_value _ _) (by k_asm) (by k_asm) (by k_asm) (by k_asm) (by trivial) (by (dsimp only [Around.deeper]; omega)) (by (dsimp only [Around.deeper]; omega)) ?_; k_whole); intro v' h' tk' F' N' st' hv'; obtain ⟨t', hv'⟩ := hv'; subst hv'; clear st'); (try (revert h' tk' F' N' t'; intros)))
  trivial
theorem sp_a2b  (b : Array UInt8) (t : Tok) (ks : List Int) (hb : KBw.bInts b = ks) (hz : ks.length ≤ 100000) (hfin : (a2bS ks).2.1 = 0 ∨ (2 ≤ (a2bS ks).2.1 ∧ 4 ≤ (a2bS ks).2.1 + (a2bS ks).2.2.2)) :
    Spec 109 [.bytes b t] [(Str.ofString "strict_mode", .bool false)] 2 (fun _ => True) (fun v _ => ∃ r t', v = .bytes r t' ∧ KBw.bInts r = (a2bS ks).1) := by
  intro dp un fr gd h₀ gens drawn toks os Q E X T hp hd hu hret
  revert X; k_fill; intro X
  try dsimp only at hp hret
  k_dflt (refine' enter_def ?k1 ?k2 ?k6 ?k7 ?k8 ?k9 ?kB ?_ ?c2 ?c3 ?c4 ?c5; (case k1 => exact X); (case k2 => exact T); (case k6 => k_is); (case k7 => k_is); (case k8 => (show dp < _; omega)); (case k9 => first | exact BindsTo.of_eq rfl | exact binds_K X rfl (by k_is) rfl rfl rfl); (case kB => exact locs rfl); (case c2 => exact rfl); (case c3 => exact rfl); (case c4 => exact rfl); (case c5 => decide))
  intro L h₁ tk F N
  dsimp only at F N ⊢
  k_fold
  k_steps
  rename Fr _ _ _ _ => F1
  rename News _ _ _ _ => N1
  replace F1 : Fr h₀ L _ (a2bI (.bytes b t) (.ref _) (.int 0 _) (.int 0 _) (.int 0 _) (.int 0 _)) := F1
  with_unfolding_all refine' kst_bytesO (σ := A2bSt) (fun c => [(_, listOf c.vs.toArray c.n)]) (fun c => [(Str.ofString "quad_pos", .int c.q c.t1), (Str.ofString "leftchar", .int c.lc c.t2), (Str.ofString "pads", .int c.pd c.t3), (Str.ofString "i", .int c.i c.t4)]) A2bP ⟨[], 0, 0, _, 0, _, 0, _, 0, _⟩ hb rfl F1 N1 (al4 rfl rfl rfl rfl) ⟨⟨[], rfl, .nil, fun _ hx => (nomatch hx)⟩, .inl ⟨rfl, rfl⟩, Int.le_refl _, Int.le_refl _, Int.le_refl _, Nat.le_refl _, Int.le_refl _, Int.le_refl _⟩ ?turn ?done
  case turn =>
    intro c pre n tn h tk own QB hlt hn0 hn1 hoff hP hnx F' N'
    refine @by_no _ fun hNo9 => ?_
    obtain ⟨vs, nn, q, t1, lc, t2, pd, t3, i, t4⟩ := c
    clear F1 N1
    refine hNo9 ?_
    clear hNo9
    dsimp only [envOf] at hnx F' N' ⊢
    simp only [List.cons_append, List.nil_append] at N'
    simp only [List.map_cons, List.map_nil] at hoff
    simp only [kstB] at F'
    refine @by_no _ fun hno => ?_
    refine @by_no _ fun hNo9 => ?_
    obtain ⟨⟨o, hfold, hints, hin⟩, hq, hlc0, hpd0, hpd1, hlen, hi0, hi1⟩ := hP
    dsimp only at hfold hints hq hlc0 hpd0 hpd1 hlen hi0 hi1
    have hvr := b64v_range n
    refine hNo9 ?_
    clear hNo9
    have hlcb : lc < 64 := by rcases hq with h | h | h | h <;> omega
    have hq03 : 0 ≤ q ∧ q < 4 := by rcases hq with h | h | h | h <;> omega
    refine hno ?_
    clear hno
    k_steps
    all_goals (
      rename Fr _ _ _ _ => F2
      rename News _ _ _ _ => N2
      (try simp only [List.push_toArray] at N2)
      with_unfolding_all refine' hnx ⟨_, _, _, _, _, _, _, _, _, _⟩ _ _ _ _ _ (by first | exact .inl rfl | exact .inr rfl) F2 N2 (al1 (.head _)) (fun p hp => .tail _ hp) rfl (al4 rfl rfl rfl rfl) ?oth ?P
      case oth =>
        intro z h1 h2 _
        have h3 := ne4a h2
        have h4 := ne4b h2
        have h5 := ne4c h2
        have h6 := ne4d h2
        repeat (with_reducible (first | refine (if_neg h1).trans ?_ | refine (if_neg h3).trans ?_ | refine (if_neg h4).trans ?_ | refine (if_neg h5).trans ?_ | refine (if_neg h6).trans ?_))
        rfl
      case P => first
        | exact a2bP_keep hfold hints hin hq hlc0 hpd0 hpd1 hlen hi0 hi1 rfl (by omega) rfl rfl
        | exact a2bP_0' hfold hints hin hlen hi0 hi1 rfl (by omega) (by omega) rfl rfl rfl hq (by omega)
        | exact put_1' hfold hints hin hlc0 hlen hi0 hi1 rfl (by omega) (by omega) rfl rfl rfl rfl hq (by omega)
        | exact put_2' hfold hints hin hlc0 hlen hi0 hi1 rfl (by omega) (by omega) rfl rfl rfl rfl hq (by omega)
        | exact put_3' hfold hints hin hlc0 hlen hi0 hi1 rfl (by omega) (by omega) rfl rfl rfl rfl hq (by omega) (by omega) (by omega))
  case done =>
    intro c u h tk hP F' N'
    refine @by_no _ fun hNo9 => ?_
    obtain ⟨vs, nn, q, t1, lc, t2, pd, t3, i, t4⟩ := c
    clear F1 N1
    refine hNo9 ?_
    clear hNo9
    dsimp only [envOf] at F' N' ⊢
    simp only [kstB] at F'
    refine @by_no _ fun hno => ?_
    refine @by_no _ fun hNo9 => ?_
    obtain ⟨⟨o, hfold, hints, hin⟩, hq, hlc0, hpd0, hpd1, hlen, hi0, hi1⟩ := hP
    dsimp only at hfold hints hq hlc0 hpd0 hpd1 hlen hi0 hi1
    rw [hfold] at hfin
    dsimp only at hfin
    refine hNo9 ?_
    clear hNo9
    refine hno ?_
    clear hno
    rcases hq with ⟨rfl, rfl⟩ | ⟨rfl, hlc1⟩ | ⟨rfl, hlc1⟩ | ⟨rfl, hlc1⟩
    · k_steps
      refine hret _ _ _ (Fr.keep (by assumption)) ⟨_, _, rfl, (KBa.ints_make hin).trans ?_⟩
      rw [hfold]
    · omega
    · k_steps
      refine hret _ _ _ (Fr.keep (by assumption)) ⟨_, _, rfl, (KBa.ints_make hin).trans ?_⟩
      rw [hfold]
    · k_steps
      refine hret _ _ _ (Fr.keep (by assumption)) ⟨_, _, rfl, (KBa.ints_make hin).trans ?_⟩
      rw [hfold]

open PySem.Calls PyProof.V PySem.Spec
theorem begin_B5 : True := by
  w_on
  w_top off
  k_with_none
  k_with "om" => (law_clear; first | with_reducible assumption | (law_purse 20000 => grind))
  k_with "guard" => skip
  trivial
set_option maxHeartbeats 4000000
namespace BM
open Builtin
theorem slot_translate : Slot "bytes" "translate" "bytes.translate" :=
  .of (owner := "bytes") (n := "translate") (by rw [typeLookup_type, builtinLookup_eq_fast]; kernel_rfl) (by decide +kernel) (by decide +kernel) (by decide +kernel)
    (by first | exact .inl (by decide +kernel) | exact .inr (by decide +kernel)) (by rw [isSubtype_type]; kernel_rfl)
theorem type_translate : typeOf (.builtin "bytes.translate") = pure (.type "method_descriptor") := by show builtinType _ = _; rw [builtinType_eq_fast]; kernel_rfl
theorem entry_translate : entryFor table "bytes.translate" = some Builtin.«bytes.translate» := entryFor_of_tree (by kernel_rfl)
theorem args_translate_2 (a b : Value) : argsOk "bytes.translate" ⟨[a, b], []⟩ := by
  unfold argsOk; rw [signature?_of (id := "bytes.translate") (n := "translate".toList.reverse) (o := ['s', 'e', 't', 'y', 'b']) (by kernel_rfl) FB.owner_bytes]; kernel_rfl
theorem slot_upper : Slot "bytes" "upper" "bytes.upper" :=
  .of (owner := "bytes") (n := "upper") (by rw [typeLookup_type, builtinLookup_eq_fast]; kernel_rfl) (by decide +kernel) (by decide +kernel) (by decide +kernel)
    (by first | exact .inl (by decide +kernel) | exact .inr (by decide +kernel)) (by rw [isSubtype_type]; kernel_rfl)
theorem type_upper : typeOf (.builtin "bytes.upper") = pure (.type "method_descriptor") := by show builtinType _ = _; rw [builtinType_eq_fast]; kernel_rfl
theorem entry_upper : entryFor table "bytes.upper" = some Builtin.«bytes.upper» := entryFor_of_tree (by kernel_rfl)
theorem args_upper_1 (a : Value) : argsOk "bytes.upper" ⟨[a], []⟩ := by
  unfold argsOk; rw [signature?_of (id := "bytes.upper") (n := "upper".toList.reverse) (o := ['s', 'e', 't', 'y', 'b']) (by kernel_rfl) FB.owner_bytes]; kernel_rfl
noncomputable def trans (tb b : Array UInt8) : Array UInt8 := b.map fun c => tb.getD c.toNat c
theorem meets_translate (b tb : Array UInt8) (t u : Tok) :
    Meets («bytes.translate» ⟨[.bytes b t, .bytes tb u], []⟩) (fun _ R s => tb.size = 256 ∧ b.size ≤ sizeLine ∧ ∀ t' k, R (.ok (.ret (.bytes (trans tb b) t'))) { s with toks := k }) := by
  refine .of_wp fun prog w A R s hS => ?_
  obtain ⟨h1, h2, h⟩ := hS
  show wpAny _ _ (Bytes.bytesLike _ (.bytes tb u) >>= fun t => _) _ _ _
  refine wpAny_bind (wpAny_of_eq KBd.like_eq ?_)
  rw [h1]
  show wpAny _ _ (Bytes.payload (.bytes b t) >>= fun b_1 => if (Array.map (fun c => tb.getD c.toNat c) (Array.filter (fun x => !(#[] : Array UInt8).contains x) b_1) == b_1) = true then (rule _ >>= fun _ => Bytes.Kind.bytes.same (.bytes b t) >>= fun r => ret r) else (Bytes.Kind.bytes.new (Array.map (fun c => tb.getD c.toNat c) (Array.filter (fun x => !(#[] : Array UInt8).contains x) b_1)) >>= fun r => ret r)) _ _ _
  refine wpAny_bind (wpAny_of_eq (a := b) rfl ?_)
  have e : (Array.map (fun c => tb.getD c.toNat c) (Array.filter (fun x => !#[].contains x) b)) = trans tb b := by
    rw [Array.filter_eq_self.mpr (by simp)]; rfl
  rw [e]
  by_cases hb : (trans tb b == b) = true
  · rw [if_pos hb]
    refine wpAny_bind (wpAny_rule ?_)
    have hb' : trans tb b = b := eq_of_beq hb
    rw [hb'] at h
    exact wpAny_bind (wpAny_of_eq (a := .bytes b t) rfl (wpAny_pure ⟨_, rfl, h _ _⟩))
  · rw [if_neg hb]
    exact wpAny_bind (wpAny_mkBytes (wpAny_pure ⟨_, rfl, h _ _⟩) (by simp only [trans, Array.size_map]; exact h2))
theorem meets_upper (b : Array UInt8) (t : Tok) :
    Meets («bytes.upper» ⟨[.bytes b t], []⟩) (fun _ R s => b.size ≤ sizeLine ∧ ∀ t' k, R (.ok (.ret (.bytes (b.toList.map Bytes.toUpper).toArray t'))) { s with toks := k }) := by
  refine .of_wp fun prog w A R s hS => ?_
  obtain ⟨h2, h⟩ := hS
  unfold «bytes.upper» Bytes.mappedM
  refine wpAny_bind (wpAny_of_eq (a := Value.bytes b t) rfl ?_)
  refine wpAny_bind (wpAny_of_eq (a := b) rfl ?_)
  exact wpAny_bind (wpAny_mkBytes (wpAny_pure ⟨_, rfl, h _ _⟩) (by simpa using h2))
section
variable {prog : Program} {w : World} {A : Around} {E : Value → Shared → Prop} {s : Shared} {t u : Tok} {b tb : Array UInt8}
theorem translate {Q : Value → Shared → Prop} (h1 : tb.size = 256) (h2 : b.size ≤ 16777216) (h : ∀ t' k, Q (.bytes (trans tb b) t') { s with toks := k }) :
    wpAny (model prog w) A (call (.builtin "bytes.translate") [.bytes b t, .bytes tb u]) Q E s :=
  call_meets slot_translate (typeIs_bytes _ _ _) entry_translate (args_translate_2 _ _) (meets_translate b tb t u) ⟨h1, by rw [sizeLine_eq]; exact h2, h⟩
theorem upper {Q : Value → Shared → Prop} (h2 : b.size ≤ 16777216) (h : ∀ t' k, Q (.bytes (b.toList.map Bytes.toUpper).toArray t') { s with toks := k }) :
    wpAny (model prog w) A (call (.builtin "bytes.upper") [.bytes b t]) Q E s :=
  call_meets slot_upper (typeIs_bytes _ _ _) entry_upper (args_upper_1 _) (meets_upper b t) ⟨by rw [sizeLine_eq]; exact h2, h⟩
theorem meth_translate {M : Model} {pl : Sem Bool} {Q : Value × List Value → Shared → Prop} (h : Q (.builtin "bytes.translate", [.bytes b t]) s) : wpAny M A (getMethod (.bytes b t) "translate" pl) Q E s := by
  with_reducible exact KBd.method_of (.bytes b t) (typeIs_bytes _ _ _) slot_translate type_translate KBd.noRef h
theorem meth_upper {M : Model} {pl : Sem Bool} {Q : Value × List Value → Shared → Prop} (h : Q (.builtin "bytes.upper", [.bytes b t]) s) : wpAny M A (getMethod (.bytes b t) "upper" pl) Q E s := by
  with_reducible exact KBd.method_of (.bytes b t) (typeIs_bytes _ _ _) slot_upper type_upper KBd.noRef h
theorem meth_hex {M : Model} {pl : Sem Bool} {Q : Value × List Value → Shared → Prop} (h : Q (.builtin "bytes.hex", [.bytes b t]) s) : wpAny M A (getMethod (.bytes b t) "hex" pl) Q E s := by
  with_reducible exact KBd.method_of (.bytes b t) (typeIs_bytes _ _ _) FB.slot_bytes_hex FB.type_bytes_hex KBd.noRef h
end
noncomputable def hexCps (l : List UInt8) : List Nat := l.flatMap fun c => [Bytes.hexDigit (c.toNat / 16), Bytes.hexDigit (c.toNat % 16)]
theorem hex_fold (l : List UInt8) (k : Nat) (acc : Array Nat) : (l.zipIdx k).foldl (fun (out : Array Nat) (x : UInt8 × Nat) => (out.push (Bytes.hexDigit (x.1.toNat / 16))).push (Bytes.hexDigit (x.1.toNat % 16))) acc = acc ++ (hexCps l).toArray := by
  induction l generalizing k acc with
  | nil => simp [hexCps]
  | cons c r ih =>
    rw [List.zipIdx_cons, List.foldl_cons, ih]
    simp [hexCps]
theorem meets_hex (b : Array UInt8) (t : Tok) :
    Meets («bytes.hex» ⟨[.bytes b t], []⟩) (fun _ R s => 2 * b.size ≤ sizeLine ∧ ∀ t' k, R (.ok (.ret (.str ⟨(hexCps b.toList).toArray⟩ t'))) { s with toks := k }) := by
  refine .of_wp fun prog w A R s hS => ?_
  obtain ⟨h2, h⟩ := hS
  unfold «bytes.hex» Bytes.hexM Bytes.hexOf
  refine wpAny_bind (wpAny_of_eq (a := [none, none]) (by first | rfl | kernel_rfl) ?_)
  show wpAny _ _ (Bytes.payload (.bytes b t) >>= fun b => retStr ⟨List.foldl (fun (out : Array Nat) (x : UInt8 × Nat) => (out.push (Bytes.hexDigit (x.1.toNat / 16))).push (Bytes.hexDigit (x.1.toNat % 16))) #[] b.toList.zipIdx⟩) _ _ _
  refine wpAny_bind (wpAny_of_eq (a := b) rfl ?_)
  rw [hex_fold]
  refine wpAny_bind (wpAny_mkStr (wpAny_pure ⟨_, rfl, ?_⟩) ?_)
  · simpa using h _ _
  · have e : ∀ l : List UInt8, (hexCps l).length = 2 * l.length := by
      intro l
      induction l with
      | nil => rfl
      | cons c r ih => rw [hexCps, List.flatMap_cons, List.length_append, List.length_cons, ← hexCps, ih]; simp; omega
    show (#[] ++ (hexCps b.toList).toArray).size ≤ sizeLine
    simp [e]; exact h2
theorem hex {prog : Program} {w : World} {A : Around} {E : Value → Shared → Prop} {s : Shared} {t : Tok} {b : Array UInt8} {Q : Value → Shared → Prop} (h2 : 2 * b.size ≤ 16777216) (h : ∀ t' k, Q (.str ⟨(hexCps b.toList).toArray⟩ t') { s with toks := k }) :
    wpAny (model prog w) A (call (.builtin "bytes.hex") [.bytes b t]) Q E s :=
  call_meets FB.slot_bytes_hex (typeIs_bytes _ _ _) FB.entry_bytes_hex (FB.args_bytes_hex_1 _) (meets_hex b t) ⟨by rw [sizeLine_eq]; exact h2, h⟩
theorem fold_app (l : List Nat) (acc : Array UInt8) : l.foldl (fun acc y => acc ++ ([y.toUInt8] : List UInt8).toArray) acc = acc ++ (l.map (·.toUInt8)).toArray := by
  induction l generalizing acc with
  | nil => simp
  | cons c r ih => rw [List.foldl_cons, ih]; simp
theorem forIn_two {β : Type} {f : Nat → β → Sem (ForInStep β)} {n : Nat} {a b : β} (hn : n ≠ 0) (h0 : ∀ x, f x a = pure (.yield b)) (h1 : ∀ x, f x b = pure (.done b)) : forIn [:n] a f = pure b := by
  rw [Std.Legacy.Range.forIn_eq_forIn_range']
  simp only [Std.Legacy.Range.size, Nat.sub_zero, Nat.add_sub_cancel, Nat.div_one]
  cases n with
  | zero => exact absurd rfl hn
  | succ n =>
    rw [List.range'_succ, List.forIn_cons, h0]
    show forIn (List.range' (0 + 1) n) b f = pure b
    cases n with
    | zero => rfl
    | succ n => rw [List.range'_succ, List.forIn_cons, h1]; rfl
theorem forIn_none {β : Type} {f : Nat → β → Sem (ForInStep β)} {a : β} : forIn [:0] a f = pure a := by
  rw [Std.Legacy.Range.forIn_eq_forIn_range']; rfl
theorem narrow_eq (id : String) (self : Value) (l : List Nat) (ha : ∀ c ∈ l, c < 128) (hz : l.length ≤ sizeLine) : _codecs.encodeNarrow id _codecs.asciiCodec none self ⟨l.toArray⟩ = pure (l.map (·.toUInt8)).toArray := by
  cases l with
  | nil => unfold _codecs.encodeNarrow; dsimp only; rw [show (⟨([] : List Nat).toArray⟩ : PySem.Str).length = 0 from rfl, forIn_none]; rfl
  | cons c r =>
    have hc : c < 128 := ha c (.head _)
    unfold _codecs.encodeNarrow
    dsimp only
    rw [forIn_two (b := ((c :: r).length, ((c :: r).map (·.toUInt8)).toArray, {})) (by simp [PySem.Str.length])]
    · rfl
    · intro x
      dsimp only
      rw [if_neg (show ¬ (#[] : Array UInt8).size > sizeLine from Nat.not_lt_zero _)]
      have hb : _codecs.asciiCodec.bad c = false := by simp [_codecs.asciiCodec]; omega
      show (if (!_codecs.asciiCodec.bad c) = true then _ else _) = _
      rw [hb, if_pos (show (!false) = true from rfl)]
      have hx : (c :: r).toArray.extract 0 (c :: r).toArray.size = (c :: r).toArray := by simp
      have hfind : Array.findIdx? _codecs.asciiCodec.bad (c :: r).toArray = none := by
        rw [Array.findIdx?_eq_none_iff]
        intro y hy
        have := ha y (by simpa using hy)
        simp [_codecs.asciiCodec]; omega
      have hf := fold_app (c :: r) #[]
      rw [hx, hfind, Option.getD_none, hx, List.foldl_toArray, Nat.zero_add]
      rw [show (fun (acc : Array UInt8) y => acc ++ (_codecs.asciiCodec.bytesOf y).toArray) = fun acc y => acc ++ ([y.toUInt8] : List UInt8).toArray from rfl, hf]
      simp
    · intro x
      dsimp only
      have hsz : ¬ ((c :: r).map (·.toUInt8)).toArray.size > sizeLine := by simpa using hz
      rw [if_neg hsz]
      have hn : (c :: r).toArray[(c :: r).length]? = none := by simp
      rw [hn]
theorem meets_encode (l : List Nat) (t u : Tok) (ha : ∀ c ∈ l, c < 128) (hz : l.length ≤ sizeLine) :
    Meets («str.encode» ⟨[.str ⟨l.toArray⟩ t, .str (PySem.Str.ofString "ascii") u], []⟩) (fun _ R s => ∀ t' k, R (.ok (.ret (.bytes (l.map (·.toUInt8)).toArray t'))) { s with toks := k }) := by
  refine .of_wp fun prog w A R s h => ?_
  unfold «str.encode»
  refine wpAny_bind (wpAny_of_eq (a := (Value.str ⟨l.toArray⟩ t, ⟨l.toArray⟩, [.str (PySem.Str.ofString "ascii") u])) (by first | rfl | kernel_rfl) ?_)
  refine wpAny_bind (wpAny_of_eq (a := [some (.str (PySem.Str.ofString "ascii") u), none]) (by first | rfl | kernel_rfl) ?_)
  refine wpAny_bind (wpAny_of_eq (a := some (PySem.Str.ofString "ascii")) (by first | rfl | kernel_rfl) ?_)
  refine wpAny_bind (wpAny_of_eq (a := none) (by first | rfl | kernel_rfl) ?_)
  have e : _codecs.encodeRoad "str.encode" (Value.str ⟨l.toArray⟩ t) ⟨l.toArray⟩ (PySem.Str.ofString "ascii") none = (_codecs.encodeNarrow "str.encode" _codecs.asciiCodec none (Value.str ⟨l.toArray⟩ t) ⟨l.toArray⟩ >>= fun b => mkBytes b) := by kernel_rfl
  show wpAny _ _ (_codecs.encodeRoad "str.encode" (Value.str ⟨l.toArray⟩ t) ⟨l.toArray⟩ (PySem.Str.ofString "ascii") none >>= fun v => ret v) _ _ _
  rw [e, narrow_eq _ _ _ ha hz]
  refine wpAny_bind (wpAny_bind (wpAny_pure ?_))
  exact wpAny_mkBytes (wpAny_pure ⟨_, rfl, h _ _⟩) (by simpa using hz)
section
variable {prog : Program} {w : World} {A : Around} {E : Value → Shared → Prop} {s : Shared} {t u : Tok} {x : PySem.Str}
theorem meth_encode {M : Model} {pl : Sem Bool} {Q : Value × List Value → Shared → Prop} (h : Q (.builtin "str.encode", [.str x t]) s) : wpAny M A (getMethod (.str x t) "encode" pl) Q E s :=
  getMethod_builtin (typeIs_str _ _ _) F.plainAttrs_str F.slot_str_encode F.type_str_encode (fun _ e => nomatch e) h
theorem encode {l : List Nat} {Q : Value → Shared → Prop} (ha : ∀ c ∈ l, c < 128) (hz : l.length ≤ 16777216) (h : ∀ t' k, Q (.bytes (l.map (·.toUInt8)).toArray t') { s with toks := k }) :
    wpAny (model prog w) A (call (.builtin "str.encode") [.str ⟨l.toArray⟩ t, .str (PySem.Str.ofString "ascii") u]) Q E s :=
  call_meets F.slot_str_encode (typeIs_str _ _ _) F.entry_str_encode (F.args_str_encode_2 _ _) (meets_encode l t u ha (by rw [sizeLine_eq]; exact hz)) h
end
theorem plain_mt : plainId "bytes.maketrans" = true := by decide +kernel
theorem entry_mt : entryFor table "bytes.maketrans" = some Builtin.«bytes.maketrans» := entryFor_of_tree (by kernel_rfl)
theorem check_mt (a b : Value) : checkBuiltinCall "bytes.maketrans" ⟨[a, b], []⟩ = pure () := by kernel_rfl
noncomputable def mtab (a b : Array UInt8) : Array UInt8 := (a.toList.zip b.toList).foldl (fun t (x : UInt8 × UInt8) => t.setIfInBounds x.1.toNat x.2) ((Array.range 256).map (·.toUInt8))
theorem mtab_size (a b : Array UInt8) : (mtab a b).size = 256 := by
  have : ∀ (l : List (UInt8 × UInt8)) (t : Array UInt8), (l.foldl (fun t (x : UInt8 × UInt8) => t.setIfInBounds x.1.toNat x.2) t).size = t.size := by
    intro l
    induction l with
    | nil => intro t; rfl
    | cons x r ih => intro t; rw [List.foldl_cons, ih]; simp
  rw [mtab, this]; simp
theorem meets_mt (a b : Array UInt8) (t u : Tok) (hs : a.size = b.size) :
    Meets («bytes.maketrans» ⟨[.bytes a t, .bytes b u], []⟩) (fun _ R s => ∀ t' k, R (.ok (.ret (.bytes (mtab a b) t'))) { s with toks := k }) := by
  refine .of_wp fun prog w A R s h => ?_
  unfold «bytes.maketrans» Bytes.maketransM
  refine wpAny_bind (wpAny_of_eq (a := ()) (by first | rfl | kernel_rfl) ?_)
  refine wpAny_bind (wpAny_of_eq (a := ()) (by first | rfl | kernel_rfl) ?_)
  refine wpAny_bind (m := Bytes.bytesLike _ (.bytes a t)) (wpAny_of_eq KBd.like_eq ?_)
  refine wpAny_bind (m := Bytes.bytesLike _ (.bytes b u)) (wpAny_of_eq KBd.like_eq ?_)
  rw [hs]
  dsimp only
  rw [if_neg (by simp)]
  exact wpAny_bind (wpAny_mkBytes (wpAny_pure ⟨_, rfl, h _ _⟩) (Nat.le_trans (Nat.le_of_eq (mtab_size a b)) (by decide)))
theorem getm_mt {prog : Program} {w : World} {A : Around} {E : Value → Shared → Prop} {s : Shared} {K : Frag} {h₀ : Heap} {L : Addr} {m : PySem.Str → Option Value} {pl : Sem Bool} {Q : Value × List Value → Shared → Prop} (F : Fr h₀ L s.heap m) (X₀ : K.In h₀)
    (h : Q (.builtin "bytes.maketrans", []) { s with toks := s.toks + 1 }) : wpAny (model prog w) A (getMethod (.type "bytes") (PySem.Str.ofString "maketrans") pl) Q E s := by
  have X := X₀.keeps F.keep
  have hstub : opaqueClassAbove (.type "bytes") = pure none := by unfold opaqueClassAbove; dsimp only; rw [show Manifest.isStub "bytes" = false by decide +kernel]; rfl
  have ht : typeOf (.type "bytes") = pure (.type "type") := by first | rfl | kernel_rfl
  have L0 : Looks (model prog w) s.heap (typeOf (.type "bytes")) (.type "type") := Looks.of_pure ht
  have hg : findIn K (.type "type") "__getattribute__" = some (some (.builtin "type.__getattribute__")) := type_tga
  have e : findCls K (.type "bytes") (.type "type") (PySem.Str.ofString "maketrans") = some (.val (.builtin "bytes.maketrans")) := by with_unfolding_all rfl
  unfold getMethod specialOf
  refine wpAny_bind (wpAny_bind (L0.here ((looks_findIn X hg).here ?_)))
  dsimp only
  rw [if_pos canon_tga]
  refine wpAny_bind (wpAny_mono (Q := fun v => Q (v, [])) (E := E) ?_ (fun _ _ z => wpAny_pure z) fun _ _ z => z)
  have LO : Looks (model prog w) s.heap (opaqueClassAbove (.type "bytes")) none := Looks.of_pure hstub
  refine cls_open X LO L0 hg (looks_hook X (r := none) (by rfl)) (by show subIn K _ _ = _; rfl) e ?_
  exact wpAny_pure (handed_on (by decide +kernel) h)
theorem maketrans {prog : Program} {w : World} {A : Around} {E : Value → Shared → Prop} {s : Shared} {a b : Array UInt8} {t u : Tok} {Q : Value → Shared → Prop} (hs : a.size = b.size) (h : ∀ t' k, Q (.bytes (mtab a b) t') { s with toks := k }) :
    wpAny (model prog w) A (call (.builtin "bytes.maketrans") [.bytes a t, .bytes b u]) Q E s :=
  wpAny_call (codeAny_call_builtin plain_mt entry_mt (by rw [check_mt]; exact wpAny_pure (meets_mt a b t u hs prog w A (wants Q E) s h)))
end BM

open Builtin Builtin.Re
theorem begin_B6 : True := by
  w_on
  w_top off
  k_with_none
  k_with "om" => (law_clear; first | with_reducible assumption | (law_purse 20000 => grind))
  k_with "guard" => skip
  trivial
set_option maxHeartbeats 4000000
namespace BM
theorem slot_search : Slot "re.Pattern" "search" "re.Pattern.search" :=
  .of (owner := "re.Pattern") (n := "search") (by rw [typeLookup_type, builtinLookup_eq_fast]; kernel_rfl) (by decide +kernel) (by decide +kernel) (by decide +kernel)
    (by first | exact .inl (by decide +kernel) | exact .inr (by decide +kernel)) (by rw [isSubtype_type]; kernel_rfl)
theorem type_search : typeOf (.builtin "re.Pattern.search") = pure (.type "method_descriptor") := by show builtinType _ = _; rw [builtinType_eq_fast]; kernel_rfl
theorem entry_search : entryFor table "re.Pattern.search" = some Builtin.«re.Pattern.search» := entryFor_of_tree (by kernel_rfl)
theorem args_search_2 (a b : Value) : argsOk "re.Pattern.search" ⟨[a, b], []⟩ := by unfold argsOk; kernel_rfl
theorem plainAttrs_pat : PlainAttrs "re.Pattern" :=
  ⟨⟨"object.__getattribute__", by rw [typeLookup_type, builtinLookup_eq_fast]; kernel_rfl, by decide +kernel⟩, by rw [typeLookup_type, builtinLookup_eq_fast]; kernel_rfl⟩
noncomputable abbrev pcode : Array Nat := #[14, 12, 4, 1, 1, 21, 22, 48, 57, 22, 65, 70, 0, 13, 9, 21, 22, 48, 57, 22, 65, 70, 0, 1]
noncomputable abbrev pvals : Array Value := #[.int 14 0, .int 12 0, .int 4 0, .int 1 0, .int 1 0, .int 21 0, .int 22 0, .int 48 0, .int 57 0, .int 22 0, .int 65 0, .int 70 0, .int 0 0, .int 13 0, .int 9 0, .int 21 0, .int 22 0, .int 48 0, .int 57 0, .int 22 0, .int 65 0, .int 70 0, .int 0 0, .int 1 0]
noncomputable def hexc (c : Nat) : Prop := (48 ≤ c ∧ c ≤ 57) ∨ (65 ≤ c ∧ c ≤ 70)
theorem inSet_hex {c : Nat} (hc : hexc c) (seen : Sre.Seen) : ∃ seen', Sre.inSet pcode c pcode.size 5 true seen = .ok (false, seen') := by
  show ∃ seen', Sre.inSet pcode c 24 5 true seen = .ok (false, seen')
  rcases hc with ⟨h1, h2⟩ | ⟨h1, h2⟩
  · exact ⟨_, by
      show (if (decide (48 ≤ c) && decide (c ≤ 57)) = true then Except.ok (false, _) else _) = _
      rw [if_pos (by simp [h1, h2])]⟩
  · exact ⟨_, by
      show (if (decide (48 ≤ c) && decide (c ≤ 57)) = true then Except.ok (false, _) else (if (decide (65 ≤ c) && decide (c ≤ 70)) = true then Except.ok (false, _) else _)) = _
      rw [if_neg (by simp; omega), if_pos (by simp [h1, h2])]⟩
theorem admitted_none {m : Sre.M} (hm : m.code = pcode) (ht : ∀ i, i < m.lim → hexc (m.text.getD i 0)) : ∀ (fuel s : Nat) (seen : Sre.Seen), ∃ seen', Sre.M.admitted m fuel s seen = .ok (none, seen') := by
  intro fuel
  induction fuel with
  | zero => intro s seen; exact ⟨seen, rfl⟩
  | succ n ih =>
    intro s seen
    unfold Sre.M.admitted
    by_cases hs : s ≥ m.lim
    · exact ⟨seen, by rw [if_pos hs]⟩
    · rw [if_neg hs, hm]
      obtain ⟨seen', e⟩ := inSet_hex (ht s (by omega)) seen
      obtain ⟨seen2, e2⟩ := ih (s + 1) seen'
      exact ⟨seen2, by rw [e]; exact e2⟩
theorem attempt_none {m : Sre.M} (hm : m.code = pcode) (ht : ∀ i, i < m.lim → hexc (m.text.getD i 0)) (s : Nat) (b : Bool) : (m.attemptFrom s b).answer = some false ∧ (m.attemptFrom s b).frames = m.frames ∧ (m.attemptFrom s b).outcome = m.outcome := by
  have hh : m.hasFirstSet = true := by unfold Sre.M.hasFirstSet; rw [hm]; rfl
  obtain ⟨seen', e⟩ := admitted_none hm ht (m.lim + 1 - s) s m.seen
  have ee : m.attemptFrom s b = { m with seen := seen' }.say false := by
    unfold Sre.M.attemptFrom
    rw [if_neg (by simp [hh]), e]
  rw [ee]
  exact ⟨rfl, rfl, rfl⟩
theorem search_m (text : Array Nat) (ht : ∀ i, i < text.size → hexc (text.getD i 0)) : (Sre.forSearch pcode text 0 0 text.size false).answer = some false ∧ (Sre.forSearch pcode text 0 0 text.size false).frames = [] ∧ (Sre.forSearch pcode text 0 0 text.size false).outcome = none := by
  unfold Sre.forSearch
  dsimp only
  have hh : (Sre.header pcode).1 = 1 := rfl
  by_cases h0 : text.size = 0
  · rw [if_pos (by rw [hh, h0]; simp)]
    exact ⟨rfl, rfl, rfl⟩
  · rw [if_neg (by rw [hh]; simp only [Bool.or_eq_true, decide_eq_true_eq]; omega)]
    exact attempt_none rfl ht 0 true
theorem drive_end (n : Nat) {m : Sre.M} (h1 : m.answer = some false) (h2 : m.frames = []) (h3 : m.outcome = none) : ∃ m', reDrive (n + 1) m = pure m' ∧ m'.outcome = some .failed := by
  have e : m.step = { m with outcome := some .failed } := by
    unfold Sre.M.step
    rw [if_neg (by simp [h3]), h1, h2]
    rfl
  have e2 : m.runFor reTurnSteps = { m with outcome := some .failed } := by
    show (if m.outcome.isSome = true then m else Sre.M.runFor 3 m.step) = _
    rw [if_neg (by simp [h3]), e]
    rfl
  refine ⟨{ m with outcome := some .failed }, ?_, rfl⟩
  unfold reDrive
  dsimp only
  rw [e2]
  rfl
theorem forIn_rules {s : Shared} {M : Model} {A : Around} {E : Value → Shared → Prop} {Q : PUnit → Shared → Prop} (seen : Sre.Seen) (h : Q ⟨⟩ s) : ∀ l : List Nat, wpAny M A (forIn l PUnit.unit fun i r => if seen.has i = true then (do rule (Sre.names.getD i ""); pure (ForInStep.yield PUnit.unit)) else pure (ForInStep.yield PUnit.unit)) Q E s
  | [] => by rw [List.forIn_nil]; exact wpAny_pure h
  | i :: r => by
    rw [List.forIn_cons]
    refine wpAny_bind ?_
    by_cases hi : seen.has i = true
    · rw [if_pos hi]
      exact wpAny_bind (wpAny_rule (wpAny_pure (forIn_rules seen h r)))
    · rw [if_neg hi]
      exact wpAny_pure (forIn_rules seen h r)
theorem run_end {s : Shared} {M : Model} {A : Around} {E : Value → Shared → Prop} {Q : Option Sre.M → Shared → Prop} {m : Sre.M} (h1 : m.answer = some false) (h2 : m.frames = []) (h3 : m.outcome = none) (h : Q none s) : wpAny M A (reRunToEnd m) Q E s := by
  obtain ⟨m', e, eo⟩ := drive_end (2 ^ 64 - 1) h1 h2 h3
  unfold reRunToEnd
  rw [show (2 ^ 64 : Nat) = (2 ^ 64 - 1) + 1 from by decide, e]
  refine wpAny_bind (wpAny_pure ?_)
  refine wpAny_bind (wpAny_mono (Q := fun _ s' => s' = s) (forIn_rules (s := s) m'.seen rfl _) (fun _ s' hs => ?_) fun _ _ x => x)
  subst hs
  rw [eo]
  exact wpAny_pure h
theorem meets_search (p q : Addr) (b : Array UInt8) (t u tu : Tok) (pat : Value) (n : Nat) (hb : ∀ c ∈ b, hexc c.toNat) :
    Meets («re.Pattern.search» ⟨[.ref p, .bytes b t], []⟩) (fun _ R s => (∃ o, s.heap.get? p = some o ∧ o.data = .fields #[pat, .int 0 u, .int 0 tu, .none, .none, .ref q, .int 1 0]) ∧ (∃ o, s.heap.get? q = some o ∧ o.data = .seq pvals n) ∧ b.size < 2 ^ 63 ∧ R (.ok (.ret .none)) s) := by
  refine .of_wp fun prog w A R s hS => ?_
  refine @by_no _ fun hNo9 => ?_
  obtain ⟨⟨o, ho, hd⟩, ⟨o2, ho2, hd2⟩, hz, h⟩ := hS
  refine hNo9 ?_
  clear hNo9
  unfold «re.Pattern.search»
  refine wpAny_bind ?_
  unfold reTarget
  refine wpAny_bind (m := reNamed _ _ _ _ _ _) (wpAny_of_eq (a := [some (.bytes b t), none, none]) (by first | rfl | kernel_rfl) ?_)
  refine wpAny_bind (m := pure (0 : Int)) (wpAny_pure ?_)
  refine wpAny_bind (m := pure (2 ^ 63 - 1 : Int)) (wpAny_pure ?_)
  refine wpAny_bind (wpAny_fieldsOf ho hd ?_)
  have et : reTextOf (.bytes b t) = pure (b.map (·.toNat), 1) := by
    unfold reTextOf
    rw [KBy.quiet_eq]
    rfl
  refine wpAny_bind (wpAny_of_eq et ?_)
  show wpAny _ _ (reNoCollectionInside (.bytes b t) 1 >>= fun _ => reRawItems (.ref q) >>= fun items => pure ({ pattern := Value.ref p, string := Value.bytes b t, code := Array.map (fun x => x.toNat) items, text := b.map (·.toNat), kind := 1, groups := 0, pos := min (0 : Int).toNat (b.map (·.toNat)).size, lim := min ((2 ^ 63 - 1 : Int)).toNat (b.map (·.toNat)).size } : ReTarget)) _ _ _
  refine wpAny_bind (wpAny_of_eq (a := ()) (by first | rfl | kernel_rfl) ?_)
  refine wpAny_bind ?_
  unfold reRawItems
  refine wpAny_bind (wpAny_seqItems ho2 hd2 (wpAny_pure ?_))
  refine wpAny_pure ?_
  have e1 : Array.map (fun (x : Int) => x.toNat) (((some pvals).getD #[]).map reRawOf) = pcode := by decide +kernel
  have e2 : min (0 : Int).toNat (b.map (·.toNat)).size = 0 := Nat.zero_min _
  have e3 : min ((2 ^ 63 - 1 : Int)).toNat (b.map (·.toNat)).size = (b.map (·.toNat)).size := Nat.min_eq_right (by rw [Array.size_map]; show b.size ≤ 2 ^ 63 - 1; omega)
  rw [e1, e2, e3]
  have ht : ∀ i, i < (b.map (·.toNat)).size → hexc ((b.map (·.toNat)).getD i 0) := by
    intro i hi
    rw [Array.size_map] at hi
    have : (b.map (·.toNat)).getD i 0 = (b[i]).toNat := by simp [hi]
    rw [this]
    exact hb _ (Array.getElem_mem hi)
  obtain ⟨f1, f2, f3⟩ := search_m _ ht
  unfold reAnswer
  exact wpAny_bind (run_end f1 f2 f3 (wpAny_pure ⟨_, rfl, h⟩))
section
variable {prog : Program} {w : World} {A : Around} {E : Value → Shared → Prop} {s : Shared} {b : Array UInt8} {t : Tok}
theorem meth_search {M : Model} {p : Addr} {o : Obj} {pl : Sem Bool} {Q : Value × List Value → Shared → Prop} (ho : s.heap.get? p = some o) (hc : o.cls = .type "re.Pattern") (hn : o.dict = none) (h : Q (.builtin "re.Pattern.search", [.ref p]) s) : wpAny M A (getMethod (.ref p) "search" pl) Q E s :=
  getMethod_builtin (T := "re.Pattern") ⟨o, ho, hc⟩ plainAttrs_pat slot_search type_search (fun _ e => by cases e; exact ⟨o, ho, hn⟩) h
theorem search {p q : Addr} {o o2 : Obj} {u tu : Tok} {pat : Value} {n : Nat} {Q : Value → Shared → Prop} (ho : s.heap.get? p = some o) (hc : o.cls = .type "re.Pattern") (hd : o.data = .fields #[pat, .int 0 u, .int 0 tu, .none, .none, .ref q, .int 1 0]) (ho2 : s.heap.get? q = some o2) (hd2 : o2.data = .seq pvals n)
    (hb : ∀ c ∈ b, hexc c.toNat) (hz : b.size < 2 ^ 63) (h : Q .none s) : wpAny (model prog w) A (call (.builtin "re.Pattern.search") [.ref p, .bytes b t]) Q E s :=
  call_meets slot_search (T := "re.Pattern") ⟨o, ho, hc⟩ entry_search (args_search_2 _ _) (meets_search p q b t u tu pat n hb) ⟨⟨o, ho, hd⟩, ⟨o2, ho2, hd2⟩, hz, h⟩
end
end BM

theorem begin_B7 : True := by
  w_on
  w_top off
  k_with_none
  k_with "om" => (law_clear; first | with_reducible assumption | (law_purse 20000 => grind))
  k_with "guard" => skip
  trivial
set_option maxHeartbeats 8000000
noncomputable def sw (a0 a1 b0 b1 x : Int) : Int := if x = a1 then b1 else if x = a0 then b0 else x
theorem u8_of {x : UInt8} {a : Int} (h : ((x.toNat : Nat) : Int) = a) : x.toNat = a.toNat := by omega
theorem mtab_get (a0 a1 b0 b1 c : UInt8) : (BM.mtab #[a0, a1] #[b0, b1]).getD c.toNat c = if c = a1 then b1 else if c = a0 then b0 else c := by
  have hsz : ((Array.range 256).map (·.toUInt8)).size = 256 := by simp
  have hc : c.toNat < 256 := c.toNat_lt
  have e : (BM.mtab #[a0, a1] #[b0, b1]) = (((Array.range 256).map (·.toUInt8)).setIfInBounds a0.toNat b0).setIfInBounds a1.toNat b1 := rfl
  rw [e, Array.getD_eq_getD_getElem?]
  rw [Array.getElem?_setIfInBounds, Array.getElem?_setIfInBounds]
  have h1 : (a1.toNat = c.toNat) ↔ c = a1 := by
    constructor
    · intro h; exact (UInt8.toNat_inj.mp h).symm
    · rintro rfl; rfl
  have h0 : (a0.toNat = c.toNat) ↔ c = a0 := by
    constructor
    · intro h; exact (UInt8.toNat_inj.mp h).symm
    · rintro rfl; rfl
  have hr : ((Array.range 256).map (·.toUInt8))[c.toNat]? = some c := by
    rw [Array.getElem?_map, Array.getElem?_range, if_pos hc]
    simp
  simp only [h1, h0, Array.size_setIfInBounds, hsz, hr]
  have a1l : a1.toNat < 256 := a1.toNat_lt
  have a0l : a0.toNat < 256 := a0.toNat_lt
  by_cases q1 : c = a1
  · simp [q1, a1l]
  · by_cases q0 : c = a0
    · subst q0; simp [a0l, q1]
    · simp [q0, q1]
theorem ints_trans {r : Array UInt8} {ks : List Int} {a0 a1 b0 b1 : UInt8} (hr : KBw.bInts r = ks) :
    KBw.bInts (BM.trans (BM.mtab #[a0, a1] #[b0, b1]) r) = ks.map (sw a0.toNat a1.toNat b0.toNat b1.toNat) := by
  subst hr
  unfold KBw.bInts BM.trans
  rw [Array.toList_map, List.map_map, List.map_map]
  refine List.map_congr_left fun c _ => ?_
  show (((BM.mtab #[a0, a1] #[b0, b1]).getD c.toNat c).toNat : Int) = sw _ _ _ _ ((c.toNat : Nat) : Int)
  rw [mtab_get]
  unfold sw
  have e1 : (((c.toNat : Nat) : Int) = ((a1.toNat : Nat) : Int)) ↔ c = a1 := by
    constructor
    · intro h; exact UInt8.toNat_inj.mp (by omega)
    · rintro rfl; rfl
  have e0 : (((c.toNat : Nat) : Int) = ((a0.toNat : Nat) : Int)) ↔ c = a0 := by
    constructor
    · intro h; exact UInt8.toNat_inj.mp (by omega)
    · rintro rfl; rfl
  simp only [e1, e0]
  split
  · rfl
  · split <;> rfl
theorem two_of {b : Array UInt8} {x y : Int} (h : KBw.bInts b = [x, y]) : ∃ p q : UInt8, b = #[p, q] ∧ x = p.toNat ∧ y = q.toNat := by
  have hl : b.toList.map (fun c => ((c.toNat : Nat) : Int)) = [x, y] := h
  match hb : b.toList, hl with
  | [p, q], hl =>
    simp only [List.map_cons, List.map_nil, List.cons.injEq, and_true] at hl
    exact ⟨p, q, by rw [← Array.toArray_toList (xs := b), hb], hl.1.symm, hl.2.symm⟩
theorem b2aLen (ks : List Int) : ∀ st : List Int × Int × Int, (ks.foldl b2aStep st).1.length ≤ st.1.length + 2 * ks.length := by
  induction ks with
  | nil => intro st; simp
  | cons k r ih =>
    intro ⟨o, lb, lc⟩
    rw [List.foldl_cons]
    refine Nat.le_trans (ih _) ?_
    have : (b2aStep (o, lb, lc) k).1.length ≤ o.length + 2 := by
      unfold b2aStep; dsimp only
      split
      · simp
      · split <;> simp
    simp only [List.length_cons]; omega
theorem b2aL_len (ks : List Int) : (b2aL ks).length ≤ 2 * ks.length + 3 := by
  have h := b2aLen ks ([], 0, 0)
  unfold b2aL
  generalize ks.foldl b2aStep ([], 0, 0) = st at h
  obtain ⟨o, lb, lc⟩ := st
  simp only [List.length_nil, Nat.zero_add] at h
  unfold b2aEnd; dsimp only
  split
  · simp; omega
  · split
    · simp; omega
    · omega
theorem kw_B7_1 : True := by
  k_with_none
  k_with "om" => (law_clear; first | with_reducible assumption | (law_purse 20000 => grind))
  k_with "eval BinOp" => (k_here; (with_reducible show wpAny _ _ (eval (Expr.BinOp (Expr.Name _ _) _ (Expr.Constant (Const.int _) _ _) _) _) _ _ _); k_dflt (refine binNC (by k_asm) (by rfl) ?_ (by rfl) (by rfl) (by decide)); (try dsimp only))
  k_with "eval BinOp" => (k_here; (with_reducible show wpAny _ _ (eval (Expr.BinOp (Expr.Name _ _) _ (Expr.Name _ _) _) _) _ _ _); k_dflt (refine binNN (by k_asm) (by rfl) (by rfl) ?_ (by rfl) (by rfl) (by rfl) (by decide) (by decide)); (try dsimp only))
  k_with "isTrue Compare" => (k_here; (with_reducible show wpAny _ _ (isTrue (Expr.Compare (Expr.Name _ _) [_] [Expr.Constant (Const.int _) _ _] _) _ _) _ _ _); k_dflt (refine isNC (by k_asm) (by rfl) ?_ (by rfl) (by rfl) (by decide) (by with_unfolding_all rfl)); (try dsimp only))
  k_with "guard" => skip
  k_with "getMethod bytes" => (k_here; (with_reducible refine BM.meth_translate ?_))
  k_with "getMethod bytes" => (k_here; (with_reducible refine BM.meth_upper ?_))
  k_with "getMethod bytes" => (k_here; (with_reducible refine BM.meth_hex ?_))
  k_with "getMethod str" => (k_here; (with_reducible refine BM.meth_encode ?_))
  k_with "getMethod type:bytes" => (k_here; k_dflt (refine BM.getm_mt (by k_asm) (by k_asm) ?_; k_whole))
  k_with "call builtin:bytes.maketrans" => ((k_here; k_dflt (refine' BM.maketrans rfl ?_); intro t' k'); (try (revert t' k'; intros)))
  trivial
-- _bytes_from_decode_data
theorem sp_decdata  (b : Array UInt8) (t : Tok) : Spec 60 [.bytes b t] [] 1 (fun _ => True) (fun v _ => v = .bytes b t) := by
  intro dp un fr gd h₀ gens drawn toks os Q E X T hp hd hu hret
  revert X; k_fill; intro X
  try dsimp only at hp hret
  k_dflt (refine' enter_def ?k1 ?k2 ?k6 ?k7 ?k8 ?k9 ?kB ?_ ?c2 ?c3 ?c4 ?c5; (case k1 => exact X); (case k2 => exact T); (case k6 => k_is); (case k7 => k_is); (case k8 => (show dp < _; omega)); (case k9 => first | exact BindsTo.of_eq rfl | exact binds_K X rfl (by k_is) rfl rfl rfl); (case kB => exact locs rfl); (case c2 => exact rfl); (case c3 => exact rfl); (case c4 => exact rfl); (case c5 => decide))
  intro L h₁ tk F N
  dsimp only at F N ⊢
  k_fold
  k_steps
  all_goals exact hret _ _ _ (Fr.keep (by assumption)) rfl
theorem kw_B7_2 : True := by
  k_with "call ref" => ((k_here; (with_reducible show wpAny _ _ (call (Value.ref 117) _ _) _ _ _); k_dflt (refine use_spec (sp_b2a _ _ _ (by assumption) (by omega)) (by k_asm) (by k_asm) (by k_asm) (by k_asm) (by trivial) (by (dsimp only [Around.deeper]; omega)) (by (dsimp only [Around.deeper]; omega)) ?_; k_whole); intro v' h' tk' F' N' st' hv'; obtain ⟨r', t', hv', hr'⟩ := hv'; subst hv'; clear st'); (try (revert h' tk' F' N' r' t' hr'; intros)))
  k_with "call builtin:bytes.translate" => ((k_here; k_dflt (refine BM.translate (BM.mtab_size _ _) (by (rw [← KBw.ints_length, (by assumption : KBw.bInts _ = _)]; exact Nat.le_trans (b2aL_len _) (by omega))) ?_); intro t' k'); (try (revert t' k'; intros)))
  trivial
theorem sp_b64e0  (b : Array UInt8) (t : Tok) (ks : List Int) (hb : KBw.bInts b = ks) (hz : ks.length ≤ 10000) : Spec 148 [.bytes b t] [] 3 (fun _ => True) (fun v _ => ∃ r t', v = .bytes r t' ∧ KBw.bInts r = b2aL ks) := by
  intro dp un fr gd h₀ gens drawn toks os Q E X T hp hd hu hret
  revert X; k_fill; intro X
  try dsimp only at hp hret
  k_dflt (refine' enter_def ?k1 ?k2 ?k6 ?k7 ?k8 ?k9 ?kB ?_ ?c2 ?c3 ?c4 ?c5; (case k1 => exact X); (case k2 => exact T); (case k6 => k_is); (case k7 => k_is); (case k8 => (show dp < _; omega)); (case k9 => first | exact BindsTo.of_eq rfl | exact binds_K X rfl (by k_is) rfl rfl rfl); (case kB => exact locs rfl); (case c2 => exact rfl); (case c3 => exact rfl); (case c4 => exact rfl); (case c5 => decide))
  intro L h₁ tk F N
  dsimp only at F N ⊢
  k_fold
  k_steps
  all_goals exact hret _ _ _ (Fr.keep (by assumption)) ⟨_, _, rfl, by assumption⟩
theorem sp_b64e2  (b : Array UInt8) (t : Tok) (ks : List Int) (hb : KBw.bInts b = ks) (hz : ks.length ≤ 10000) (x y : UInt8) (tp : Tok) : Spec 148 [.bytes b t, .bytes #[x, y] tp] [] 3 (fun _ => True) (fun v _ => ∃ r t', v = .bytes r t' ∧ KBw.bInts r = (b2aL ks).map (sw 43 47 x.toNat y.toNat)) := by
  intro dp un fr gd h₀ gens drawn toks os Q E X T hp hd hu hret
  revert X; k_fill; intro X
  try dsimp only at hp hret
  k_dflt (refine' enter_def ?k1 ?k2 ?k6 ?k7 ?k8 ?k9 ?kB ?_ ?c2 ?c3 ?c4 ?c5; (case k1 => exact X); (case k2 => exact T); (case k6 => k_is); (case k7 => k_is); (case k8 => (show dp < _; omega)); (case k9 => first | exact BindsTo.of_eq rfl | exact binds_K X rfl (by k_is) rfl rfl rfl); (case kB => exact locs rfl); (case c2 => exact rfl); (case c3 => exact rfl); (case c4 => exact rfl); (case c5 => decide))
  intro L h₁ tk F N
  dsimp only at F N ⊢
  k_fold
  have hpq : KBw.bInts #[x, y] = [(x.toNat : Int), (y.toNat : Int)] := rfl
  k_steps
  all_goals first | exact hret _ _ _ (Fr.keep (by assumption)) ⟨_, _, rfl, ints_trans (a0 := 43) (a1 := 47) (b0 := x) (b1 := y) (by assumption)⟩ | (exfalso; simp_all; done)
theorem kw_B7_3 : True := by
  k_with "call ref" => ((k_here; (with_reducible show wpAny _ _ (call (Value.ref 60) _ _) _ _ _); k_dflt (refine use_spec (sp_decdata _ _) (by k_asm) (by k_asm) (by k_asm) (by k_asm) (by trivial) (by (dsimp only [Around.deeper]; omega)) (by (dsimp only [Around.deeper]; omega)) ?_; k_whole); intro v' h' tk' F' N' st' hv'; subst hv'; clear st'); (try (revert h' tk' F' N'; intros)))
  k_with "call ref" => ((k_here; (with_reducible show wpAny _ _ (call (Value.ref 109) _ _) _ _ _); k_dflt (refine use_spec (sp_a2b _ _ _ (by assumption) (by omega) (by assumption)) (by k_asm) (by k_asm) (by k_asm) (by k_asm) (by trivial) (by (dsimp only [Around.deeper]; omega)) (by (dsimp only [Around.deeper]; omega)) ?_; k_whole); intro v' h' tk' F' N' st' hv'; obtain ⟨r', t', hv', hr'⟩ := hv'; subst hv'; clear st'); (try (revert h' tk' F' N' r' t' hr'; intros)))
  trivial
theorem sp_b64d0  (b : Array UInt8) (t : Tok) (ks : List Int) (hb : KBw.bInts b = ks) (hz : ks.length ≤ 10000) (hfin : (a2bS ks).2.1 = 0 ∨ (2 ≤ (a2bS ks).2.1 ∧ 4 ≤ (a2bS ks).2.1 + (a2bS ks).2.2.2)) : Spec 156 [.bytes b t] [] 3 (fun _ => True) (fun v _ => ∃ r t', v = .bytes r t' ∧ KBw.bInts r = (a2bS ks).1) := by
  intro dp un fr gd h₀ gens drawn toks os Q E X T hp hd hu hret
  revert X; k_fill; intro X
  try dsimp only at hp hret
  k_dflt (refine' enter_def ?k1 ?k2 ?k6 ?k7 ?k8 ?k9 ?kB ?_ ?c2 ?c3 ?c4 ?c5; (case k1 => exact X); (case k2 => exact T); (case k6 => k_is); (case k7 => k_is); (case k8 => (show dp < _; omega)); (case k9 => first | exact BindsTo.of_eq rfl | exact binds_K X rfl (by k_is) rfl rfl rfl); (case kB => exact locs rfl); (case c2 => exact rfl); (case c3 => exact rfl); (case c4 => exact rfl); (case c5 => decide))
  intro L h₁ tk F N
  dsimp only at F N ⊢
  k_fold
  k_steps
  all_goals exact hret _ _ _ (Fr.keep (by assumption)) ⟨_, _, rfl, by assumption⟩
theorem kw_B7_4 : True := by
  k_with "call ref" => ((k_here; (with_reducible show wpAny _ _ (call (Value.ref 109) _ _) _ _ _); k_dflt (refine use_spec (sp_a2b _ _ _ (ints_trans (by assumption)) (by rw [List.length_map]; omega) (by assumption)) (by k_asm) (by k_asm) (by k_asm) (by k_asm) (by trivial) (by (dsimp only [Around.deeper]; omega)) (by (dsimp only [Around.deeper]; omega)) ?_; k_whole); intro v' h' tk' F' N' st' hv'; obtain ⟨r', t', hv', hr'⟩ := hv'; subst hv'; clear st'); (try (revert h' tk' F' N' r' t' hr'; intros)))
  k_with "call builtin:bytes.translate" => ((k_here; k_dflt (refine BM.translate (BM.mtab_size _ _) (by (rw [← KBw.ints_length, (by assumption : KBw.bInts _ = _)]; omega)) ?_); intro t' k'); (try (revert t' k'; intros)))
  trivial
theorem sp_b64d2  (b : Array UInt8) (t : Tok) (ks : List Int) (hb : KBw.bInts b = ks) (hz : ks.length ≤ 10000) (x y : UInt8) (tp : Tok) (hfin : (a2bS (ks.map (sw x.toNat y.toNat 43 47))).2.1 = 0 ∨ (2 ≤ (a2bS (ks.map (sw x.toNat y.toNat 43 47))).2.1 ∧ 4 ≤ (a2bS (ks.map (sw x.toNat y.toNat 43 47))).2.1 + (a2bS (ks.map (sw x.toNat y.toNat 43 47))).2.2.2)) : Spec 156 [.bytes b t, .bytes #[x, y] tp] [] 3 (fun _ => True) (fun v _ => ∃ r t', v = .bytes r t' ∧ KBw.bInts r = (a2bS (ks.map (sw x.toNat y.toNat 43 47))).1) := by
  intro dp un fr gd h₀ gens drawn toks os Q E X T hp hd hu hret
  revert X; k_fill; intro X
  try dsimp only at hp hret
  k_dflt (refine' enter_def ?k1 ?k2 ?k6 ?k7 ?k8 ?k9 ?kB ?_ ?c2 ?c3 ?c4 ?c5; (case k1 => exact X); (case k2 => exact T); (case k6 => k_is); (case k7 => k_is); (case k8 => (show dp < _; omega)); (case k9 => first | exact BindsTo.of_eq rfl | exact binds_K X rfl (by k_is) rfl rfl rfl); (case kB => exact locs rfl); (case c2 => exact rfl); (case c3 => exact rfl); (case c4 => exact rfl); (case c5 => decide))
  intro L h₁ tk F N
  dsimp only at F N ⊢
  k_fold
  have hpq : KBw.bInts #[x, y] = [(x.toNat : Int), (y.toNat : Int)] := rfl
  k_steps
  all_goals first | exact hret _ _ _ (Fr.keep (by assumption)) ⟨_, _, rfl, by assumption⟩ | (exfalso; simp_all; done)
theorem kw_B7_5 : True := by
  k_with "call ref" => ((k_here; (with_reducible show wpAny _ _ (call (Value.ref 148) _ _) _ _ _); k_dflt (refine use_spec (sp_b64e0 _ _ _ (by assumption) (by omega)) (by k_asm) (by k_asm) (by k_asm) (by k_asm) (by trivial) (by (dsimp only [Around.deeper]; omega)) (by (dsimp only [Around.deeper]; omega)) ?_; k_whole); intro v' h' tk' F' N' st' hv'; obtain ⟨r', t', hv', hr'⟩ := hv'; subst hv'; clear st'); (try (revert h' tk' F' N' r' t' hr'; intros)))
  k_with "call builtin:bytes.translate" => ((k_here; k_dflt (refine BM.translate (by decide) (by (rw [← KBw.ints_length, (by assumption : KBw.bInts _ = _)]; exact Nat.le_trans (b2aL_len _) (by omega))) ?_); intro t' k'); (try (revert t' k'; intros)))
  trivial
theorem sp_std_e  (b : Array UInt8) (t : Tok) (ks : List Int) (hb : KBw.bInts b = ks) (hz : ks.length ≤ 10000) : Spec 163 [.bytes b t] [] 4 (fun _ => True) (fun v _ => ∃ r t', v = .bytes r t' ∧ KBw.bInts r = b2aL ks) := by
  intro dp un fr gd h₀ gens drawn toks os Q E X T hp hd hu hret
  revert X; k_fill; intro X
  try dsimp only at hp hret
  k_dflt (refine' enter_def ?k1 ?k2 ?k6 ?k7 ?k8 ?k9 ?kB ?_ ?c2 ?c3 ?c4 ?c5; (case k1 => exact X); (case k2 => exact T); (case k6 => k_is); (case k7 => k_is); (case k8 => (show dp < _; omega)); (case k9 => first | exact BindsTo.of_eq rfl | exact binds_K X rfl (by k_is) rfl rfl rfl); (case kB => exact locs rfl); (case c2 => exact rfl); (case c3 => exact rfl); (case c4 => exact rfl); (case c5 => decide))
  intro L h₁ tk F N
  dsimp only at F N ⊢
  k_fold
  k_steps
  all_goals exact hret _ _ _ (Fr.keep (by assumption)) ⟨_, _, rfl, by assumption⟩
theorem sp_url_e  (b : Array UInt8) (t : Tok) (ks : List Int) (hb : KBw.bInts b = ks) (hz : ks.length ≤ 10000) : Spec 177 [.bytes b t] [] 4 (fun _ => True) (fun v _ => ∃ r t', v = .bytes r t' ∧ KBw.bInts r = (b2aL ks).map (sw 43 47 45 95)) := by
  intro dp un fr gd h₀ gens drawn toks os Q E X T hp hd hu hret
  revert X; k_fill; intro X
  try dsimp only at hp hret
  k_dflt (refine' enter_def ?k1 ?k2 ?k6 ?k7 ?k8 ?k9 ?kB ?_ ?c2 ?c3 ?c4 ?c5; (case k1 => exact X); (case k2 => exact T); (case k6 => k_is); (case k7 => k_is); (case k8 => (show dp < _; omega)); (case k9 => first | exact BindsTo.of_eq rfl | exact binds_K X rfl (by k_is) rfl rfl rfl); (case kB => exact locs rfl); (case c2 => exact rfl); (case c3 => exact rfl); (case c4 => exact rfl); (case c5 => decide))
  intro L h₁ tk F N
  dsimp only at F N ⊢
  k_fold
  k_steps
  all_goals exact hret _ _ _ (Fr.keep (by assumption)) ⟨_, _, rfl, (congrArg (fun tb => KBw.bInts (BM.trans tb _)) (by kernel_rfl)).trans (ints_trans (a0 := 43) (a1 := 47) (b0 := 45) (b1 := 95) (by assumption))⟩
theorem kw_B7_6 : True := by
  k_with "call ref" => ((k_here; (with_reducible show wpAny _ _ (call (Value.ref 156) _ _) _ _ _); k_dflt (refine use_spec (sp_b64d0 _ _ _ (by assumption) (by omega) (by assumption)) (by k_asm) (by k_asm) (by k_asm) (by k_asm) (by trivial) (by (dsimp only [Around.deeper]; omega)) (by (dsimp only [Around.deeper]; omega)) ?_; k_whole); intro v' h' tk' F' N' st' hv'; obtain ⟨r', t', hv', hr'⟩ := hv'; subst hv'; clear st'); (try (revert h' tk' F' N' r' t' hr'; intros)))
  trivial
theorem sp_std_d  (b : Array UInt8) (t : Tok) (ks : List Int) (hb : KBw.bInts b = ks) (hz : ks.length ≤ 10000) (hfin : (a2bS ks).2.1 = 0 ∨ (2 ≤ (a2bS ks).2.1 ∧ 4 ≤ (a2bS ks).2.1 + (a2bS ks).2.2.2)) : Spec 170 [.bytes b t] [] 4 (fun _ => True) (fun v _ => ∃ r t', v = .bytes r t' ∧ KBw.bInts r = (a2bS ks).1) := by
  intro dp un fr gd h₀ gens drawn toks os Q E X T hp hd hu hret
  revert X; k_fill; intro X
  try dsimp only at hp hret
  k_dflt (refine' enter_def ?k1 ?k2 ?k6 ?k7 ?k8 ?k9 ?kB ?_ ?c2 ?c3 ?c4 ?c5; (case k1 => exact X); (case k2 => exact T); (case k6 => k_is); (case k7 => k_is); (case k8 => (show dp < _; omega)); (case k9 => first | exact BindsTo.of_eq rfl | exact binds_K X rfl (by k_is) rfl rfl rfl); (case kB => exact locs rfl); (case c2 => exact rfl); (case c3 => exact rfl); (case c4 => exact rfl); (case c5 => decide))
  intro L h₁ tk F N
  dsimp only at F N ⊢
  k_fold
  k_steps
  all_goals exact hret _ _ _ (Fr.keep (by assumption)) ⟨_, _, rfl, by assumption⟩
theorem url_tab {r : Array UInt8} {ks : List Int} {tb : Array UInt8} (hr : KBw.bInts r = ks) (e : tb = BM.mtab #[45, 95] #[43, 47]) : KBw.bInts (BM.trans tb r) = ks.map (sw 45 95 43 47) := by
  subst e
  exact ints_trans (a0 := 45) (a1 := 95) (b0 := 43) (b1 := 47) hr
theorem kw_B7_7 : True := by
  k_with "call ref" => ((k_here; (with_reducible show wpAny _ _ (call (Value.ref 156) _ _) _ _ _); k_dflt (refine use_spec (sp_b64d0 _ _ _ (url_tab (by assumption) (by kernel_rfl)) (by rw [List.length_map]; omega) (by assumption)) (by k_asm) (by k_asm) (by k_asm) (by k_asm) (by trivial) (by (dsimp only [Around.deeper]; omega)) (by (dsimp only [Around.deeper]; omega)) ?_; k_whole); intro v' h' tk' F' N' st' hv'; obtain ⟨r', t', hv', hr'⟩ := hv'; subst hv'; clear st'); (try (revert h' tk' F' N' r' t' hr'; intros)))
  k_with "call builtin:bytes.translate" => ((k_here; k_dflt (refine BM.translate (by decide) (by (rw [← KBw.ints_length, (by assumption : KBw.bInts _ = _)]; omega)) ?_); intro t' k'); (try (revert t' k'; intros)))
  trivial
theorem sp_url_d  (b : Array UInt8) (t : Tok) (ks : List Int) (hb : KBw.bInts b = ks) (hz : ks.length ≤ 10000) (hfin : (a2bS (ks.map (sw 45 95 43 47))).2.1 = 0 ∨ (2 ≤ (a2bS (ks.map (sw 45 95 43 47))).2.1 ∧ 4 ≤ (a2bS (ks.map (sw 45 95 43 47))).2.1 + (a2bS (ks.map (sw 45 95 43 47))).2.2.2)) : Spec 184 [.bytes b t] [] 4 (fun _ => True) (fun v _ => ∃ r t', v = .bytes r t' ∧ KBw.bInts r = (a2bS (ks.map (sw 45 95 43 47))).1) := by
  intro dp un fr gd h₀ gens drawn toks os Q E X T hp hd hu hret
  revert X; k_fill; intro X
  try dsimp only at hp hret
  k_dflt (refine' enter_def ?k1 ?k2 ?k6 ?k7 ?k8 ?k9 ?kB ?_ ?c2 ?c3 ?c4 ?c5; (case k1 => exact X); (case k2 => exact T); (case k6 => k_is); (case k7 => k_is); (case k8 => (show dp < _; omega)); (case k9 => first | exact BindsTo.of_eq rfl | exact binds_K X rfl (by k_is) rfl rfl rfl); (case kB => exact locs rfl); (case c2 => exact rfl); (case c3 => exact rfl); (case c4 => exact rfl); (case c5 => decide))
  intro L h₁ tk F N
  dsimp only at F N ⊢
  k_fold
  k_steps
  all_goals exact hret _ _ _ (Fr.keep (by assumption)) ⟨_, _, rfl, by assumption⟩

theorem begin_B8 : True := by
  w_on
  w_top off
  k_with_none
  k_with "om" => (law_clear; first | with_reducible assumption | (law_purse 20000 => grind))
  k_with "guard" => skip
  trivial
set_option maxHeartbeats 8000000
noncomputable def hdig (n : Int) : Int := if n < 10 then 48 + n else 55 + n
noncomputable def hexL (ks : List Int) : List Int := ks.flatMap fun k => [hdig (k / 16), hdig (k % 16)]
theorem up_dig : ∀ d : Nat, d < 16 → ((Builtin.Bytes.toUpper (Builtin.Bytes.hexDigit d).toUInt8).toNat : Int) = hdig d ∧ Builtin.Bytes.hexDigit d < 128 := by decide
theorem ints_hex {b : Array UInt8} {ks : List Int} (hb : KBw.bInts b = ks) : KBw.bInts (((BM.hexCps b.toList).map (·.toUInt8)).toArray.toList.map Builtin.Bytes.toUpper).toArray = hexL ks := by
  subst hb
  unfold KBw.bInts
  simp only [List.toList_toArray, List.map_map]
  generalize b.toList = l
  induction l with
  | nil => rfl
  | cons c r ih =>
    have hc : c.toNat < 256 := c.toNat_lt
    have h1 := (up_dig (c.toNat / 16) (by omega)).1
    have h2 := (up_dig (c.toNat % 16) (by omega)).1
    have e : BM.hexCps (c :: r) = [Builtin.Bytes.hexDigit (c.toNat / 16), Builtin.Bytes.hexDigit (c.toNat % 16)] ++ BM.hexCps r := rfl
    have e2 : hexL (((fun c : UInt8 => ((c.toNat : Nat) : Int)) c) :: List.map (fun c : UInt8 => ((c.toNat : Nat) : Int)) r) = [hdig ((c.toNat : Int) / 16), hdig ((c.toNat : Int) % 16)] ++ hexL (List.map (fun c : UInt8 => ((c.toNat : Nat) : Int)) r) := rfl
    rw [List.map_cons, e2, e, List.map_append, ih]
    congr 1
    show [((Builtin.Bytes.toUpper (Builtin.Bytes.hexDigit (c.toNat / 16)).toUInt8).toNat : Int), ((Builtin.Bytes.toUpper (Builtin.Bytes.hexDigit (c.toNat % 16)).toUInt8).toNat : Int)] = _
    rw [h1, h2]
    rfl
theorem cps_lt (l : List UInt8) : ∀ c ∈ BM.hexCps l, c < 128 := by
  intro c hc
  rw [BM.hexCps, List.mem_flatMap] at hc
  obtain ⟨x, _, hx⟩ := hc
  have hx' : x.toNat < 256 := x.toNat_lt
  simp only [List.mem_cons, List.not_mem_nil, or_false] at hx
  rcases hx with rfl | rfl
  · exact (up_dig _ (by omega)).2
  · exact (up_dig _ (by omega)).2
theorem cps_len (l : List UInt8) : (BM.hexCps l).length = 2 * l.length := by
  induction l with
  | nil => rfl
  | cons c r ih => rw [BM.hexCps, List.flatMap_cons, List.length_append, List.length_cons, ← BM.hexCps, ih]; simp; omega
theorem kw_B8_1 : True := by
  k_with_none
  k_with "om" => (law_clear; first | with_reducible assumption | (law_purse 20000 => grind))
  k_with "eval BinOp" => (k_here; (with_reducible show wpAny _ _ (eval (Expr.BinOp (Expr.Name _ _) _ (Expr.Constant (Const.int _) _ _) _) _) _ _ _); k_dflt (refine binNC (by k_asm) (by rfl) ?_ (by rfl) (by rfl) (by decide)); (try dsimp only))
  k_with "eval BinOp" => (k_here; (with_reducible show wpAny _ _ (eval (Expr.BinOp (Expr.Name _ _) _ (Expr.Name _ _) _) _) _ _ _); k_dflt (refine binNN (by k_asm) (by rfl) (by rfl) ?_ (by rfl) (by rfl) (by rfl) (by decide) (by decide)); (try dsimp only))
  k_with "isTrue Compare" => (k_here; (with_reducible show wpAny _ _ (isTrue (Expr.Compare (Expr.Name _ _) [_] [Expr.Constant (Const.int _) _ _] _) _ _) _ _ _); k_dflt (refine isNC (by k_asm) (by rfl) ?_ (by rfl) (by rfl) (by decide) (by with_unfolding_all rfl)); (try dsimp only))
  k_with "guard" => skip
  k_with "call type:type" => (refine call_type_of (Tx := "int") (by exact rfl) (by decide +kernel) ?_)
  k_with "getMethod bytes" => (k_here; (with_reducible refine BM.meth_upper ?_))
  k_with "getMethod bytes" => (k_here; (with_reducible refine BM.meth_hex ?_))
  k_with "getMethod str" => (k_here; (with_reducible refine BM.meth_encode ?_))
  k_with "call ref" => ((k_here; (with_reducible show wpAny _ _ (call (Value.ref 87) _ _) _ _ _); k_dflt (refine use_spec (sp_buffer _ _) (by k_asm) (by k_asm) (by k_asm) (by k_asm) (by trivial) (by (dsimp only [Around.deeper]; omega)) (by (dsimp only [Around.deeper]; omega)) ?_; k_whole); intro v' h' tk' F' N' st' hv'; subst hv'; clear st'); (try (revert h' tk' F' N'; intros)))
  k_with "call builtin:bytes.hex" => ((k_here; k_dflt (refine' BM.hex (by (rw [← KBw.ints_length]; omega)) ?_); intro t' k'); (try (revert t' k'; intros)))
  k_with "call builtin:str.encode" => ((k_here; k_dflt (refine' BM.encode (cps_lt _) (by rw [cps_len, Array.length_toList, ← KBw.ints_length]; omega) ?_); intro t' k'); (try (revert t' k'; intros)))
  k_with "compareOp Is ref ref" => (k_here; (refine wpAny_is_ref_self ?_))
  trivial
theorem sp_b2ahex  (b : Array UInt8) (t : Tok) (hz : (KBw.bInts b).length ≤ 10000) : Spec 126 [.bytes b t] [] 2 (fun _ => True) (fun v _ => ∃ t', v = .bytes ((BM.hexCps b.toList).map (·.toUInt8)).toArray t') := by
  intro dp un fr gd h₀ gens drawn toks os Q E X T hp hd hu hret
  revert X; k_fill; intro X
  try dsimp only at hp hret
  k_dflt (refine' enter_def ?k1 ?k2 ?k6 ?k7 ?k8 ?k9 ?kB ?_ ?c2 ?c3 ?c4 ?c5; (case k1 => exact X); (case k2 => exact T); (case k6 => k_is); (case k7 => k_is); (case k8 => (show dp < _; omega)); (case k9 => first | exact BindsTo.of_eq rfl | exact binds_K X rfl (by k_is) rfl rfl rfl); (case kB => exact locs rfl); (case c2 => exact rfl); (case c3 => exact rfl); (case c4 => exact rfl); (case c5 => decide))
  intro L h₁ tk F N
  dsimp only at F N ⊢
  k_fold
  k_steps
  all_goals exact hret _ _ _ (Fr.keep (by assumption)) ⟨_, rfl⟩
theorem kw_B8_2 : True := by
  k_with "call ref" => ((k_here; (with_reducible show wpAny _ _ (call (Value.ref 126) _ _) _ _ _); k_dflt (refine use_spec (sp_b2ahex _ _ (by assumption)) (by k_asm) (by k_asm) (by k_asm) (by k_asm) (by trivial) (by (dsimp only [Around.deeper]; omega)) (by (dsimp only [Around.deeper]; omega)) ?_; k_whole); intro v' h' tk' F' N' st' hv'; obtain ⟨t', hv'⟩ := hv'; subst hv'; clear st'); (try (revert h' tk' F' N' t'; intros)))
  k_with "call builtin:bytes.upper" => ((k_here; k_dflt (refine' BM.upper (by (rw [List.size_toArray, List.length_map, cps_len, Array.length_toList, ← KBw.ints_length]; omega)) ?_); intro t' k'); (try (revert t' k'; intros)))
  trivial
theorem sp_b16e  (b : Array UInt8) (t : Tok) (ks : List Int) (hb : KBw.bInts b = ks) (hz : ks.length ≤ 10000) : Spec 191 [.bytes b t] [] 3 (fun _ => True) (fun v _ => ∃ r t', v = .bytes r t' ∧ KBw.bInts r = hexL ks) := by
  intro dp un fr gd h₀ gens drawn toks os Q E X T hp hd hu hret
  revert X; k_fill; intro X
  try dsimp only at hp hret
  k_dflt (refine' enter_def ?k1 ?k2 ?k6 ?k7 ?k8 ?k9 ?kB ?_ ?c2 ?c3 ?c4 ?c5; (case k1 => exact X); (case k2 => exact T); (case k6 => k_is); (case k7 => k_is); (case k8 => (show dp < _; omega)); (case k9 => first | exact BindsTo.of_eq rfl | exact binds_K X rfl (by k_is) rfl rfl rfl); (case kB => exact locs rfl); (case c2 => exact rfl); (case c3 => exact rfl); (case c4 => exact rfl); (case c5 => decide))
  intro L h₁ tk F N
  dsimp only at F N ⊢
  k_fold
  have hz' : (KBw.bInts b).length ≤ 10000 := by rw [hb]; exact hz
  k_steps
  all_goals exact hret _ _ _ (Fr.keep (by assumption)) ⟨_, _, rfl, ints_hex hb⟩

noncomputable def a2hI (d al out i : Value) : Str → Option Value := fun y => if y = Str.ofString "i" then some i else if y = Str.ofString "out" then some out else if y = Str.ofString "arglen" then some al else if y = Str.ofString "argbuf" then some d else List.lookup y [(Str.ofString "hexstr", d)]
structure A2hSt where
  vs : List Value
  n : Nat
  i : Int
  t1 : Tok
noncomputable def unhex : List Int → List Int
  | a :: b :: r => (hexv a * 16 + hexv b) :: unhex r
  | _ => []
theorem take_two (ks : List Int) (j : Nat) (h : j + 1 < ks.length) : ks.take (j + 2) = ks.take j ++ [ks.getD j 0, ks.getD (j + 1) 0] := by
  have h0 : j < ks.length := by omega
  have e1 : ks.take (j + 1 + 1) = ks.take (j + 1) ++ [ks.getD (j + 1) 0] := by
    rw [List.take_add_one, List.getElem?_eq_getElem h, List.getD_eq_getElem?_getD, List.getElem?_eq_getElem h]; rfl
  have e2 : ks.take (j + 1) = ks.take j ++ [ks.getD j 0] := by
    rw [List.take_add_one, List.getElem?_eq_getElem h0, List.getD_eq_getElem?_getD, List.getElem?_eq_getElem h0]; rfl
  show ks.take (j + 1 + 1) = _
  rw [e1, e2, List.append_assoc]; rfl
theorem unhex_app (x y : Int) : ∀ (n : Nat) (a : List Int), a.length = 2 * n → unhex (a ++ [x, y]) = unhex a ++ [hexv x * 16 + hexv y]
  | 0, [], _ => rfl
  | n + 1, p :: q :: r, h => by
    rw [List.cons_append, List.cons_append, unhex, unhex, unhex_app x y n r (by simp at h; omega)]; rfl
noncomputable def A2hP (ks : List Int) (c : A2hSt) : Prop := ∃ k : Nat, c.i = 2 * k ∧ 2 * k ≤ ks.length ∧ IntsAre c.vs (unhex (ks.take (2 * k))) ∧ KBa.In (unhex (ks.take (2 * k))) ∧ c.vs.length = k
theorem kw_B8_3 : True := by
  k_with_none
  k_with "om" => (law_clear; first | with_reducible assumption | (law_purse 20000 => grind))
  k_with "eval BinOp" => (k_here; (with_reducible show wpAny _ _ (eval (Expr.BinOp (Expr.Name _ _) _ (Expr.Constant (Const.int _) _ _) _) _) _ _ _); k_dflt (refine binNC (by k_asm) (by rfl) ?_ (by rfl) (by rfl) (by decide)); (try dsimp only))
  k_with "eval BinOp" => (k_here; (with_reducible show wpAny _ _ (eval (Expr.BinOp (Expr.Name _ _) _ (Expr.Name _ _) _) _) _ _ _); k_dflt (refine binNN (by k_asm) (by rfl) (by rfl) ?_ (by rfl) (by rfl) (by rfl) (by decide) (by decide)); (try dsimp only))
  k_with "isTrue Compare" => (k_here; (with_reducible show wpAny _ _ (isTrue (Expr.Compare (Expr.Name _ _) [_] [Expr.Constant (Const.int _) _ _] _) _ _) _ _ _); k_dflt (refine isNC (by k_asm) (by rfl) ?_ (by rfl) (by rfl) (by decide) (by with_unfolding_all rfl)); (try dsimp only))
  k_with "guard" => ((fail_if_success (with_reducible show wpAny _ _ (pyIter _) _ _ _)); (fail_if_success (with_reducible show wpAny _ _ (exec (Stmt.While _ _ _ _) _) _ _ _)))
  k_with "call type:type" => (refine call_type_of (Tx := "int") (by exact rfl) (by decide +kernel) ?_)
  k_with "getMethod bytes" => (k_here; (with_reducible refine BM.meth_upper ?_))
  k_with "getMethod bytes" => (k_here; (with_reducible refine BM.meth_hex ?_))
  k_with "getMethod str" => (k_here; (with_reducible refine BM.meth_encode ?_))
  k_with "call ref" => ((k_here; (with_reducible show wpAny _ _ (call (Value.ref 87) _ _) _ _ _); k_dflt (refine use_spec (sp_buffer _ _) (by k_asm) (by k_asm) (by k_asm) (by k_asm) (by trivial) (by (dsimp only [Around.deeper]; omega)) (by (dsimp only [Around.deeper]; omega)) ?_; k_whole); intro v' h' tk' F' N' st' hv'; subst hv'; clear st'); (try (revert h' tk' F' N'; intros)))
  k_with "call builtin:bytes.hex" => ((k_here; k_dflt (refine' BM.hex (by (rw [← KBw.ints_length]; omega)) ?_); intro t' k'); (try (revert t' k'; intros)))
  k_with "call builtin:str.encode" => ((k_here; k_dflt (refine' BM.encode (cps_lt _) (by rw [cps_len, Array.length_toList, ← KBw.ints_length]; omega) ?_); intro t' k'); (try (revert t' k'; intros)))
  k_with "compareOp Is ref ref" => (k_here; (refine wpAny_is_ref_self ?_))
  k_with "call ref" => ((k_here; (with_reducible show wpAny _ _ (call (Value.ref 126) _ _) _ _ _); k_dflt (refine use_spec (sp_b2ahex _ _ (by assumption)) (by k_asm) (by k_asm) (by k_asm) (by k_asm) (by trivial) (by (dsimp only [Around.deeper]; omega)) (by (dsimp only [Around.deeper]; omega)) ?_; k_whole); intro v' h' tk' F' N' st' hv'; obtain ⟨t', hv'⟩ := hv'; subst hv'; clear st'); (try (revert h' tk' F' N' t'; intros)))
  k_with "call builtin:bytes.upper" => ((k_here; k_dflt (refine' BM.upper (by (rw [List.size_toArray, List.length_map, cps_len, Array.length_toList, ← KBw.ints_length]; omega)) ?_); intro t' k'); (try (revert t' k'; intros)))
  k_with "call ref" => ((k_here; (with_reducible show wpAny _ _ (call (Value.ref 80) _ _) _ _ _); k_dflt (refine use_spec (sp_ascii _ _) (by k_asm) (by k_asm) (by k_asm) (by k_asm) (by trivial) (by (dsimp only [Around.deeper]; omega)) (by (dsimp only [Around.deeper]; omega)) ?_; k_whole); intro v' h' tk' F' N' st' hv'; subst hv'; clear st'); (try (revert h' tk' F' N'; intros)))
  k_with "call ref" => ((k_here; (with_reducible show wpAny _ _ (call (Value.ref 133) _ _) _ _ _); k_dflt (refine use_spec (sp_hex_value _ _) (by k_asm) (by k_asm) (by k_asm) (by k_asm) (by trivial) (by (dsimp only [Around.deeper]; omega)) (by (dsimp only [Around.deeper]; omega)) ?_; k_whole); intro v' h' tk' F' N' st' hv'; obtain ⟨t', hv'⟩ := hv'; subst hv'; clear st'); (try (revert h' tk' F' N' t'; intros)))
  trivial
theorem sp_a2bhex  (b : Array UInt8) (t : Tok) (ks : List Int) (hb : KBw.bInts b = ks) (hz : ks.length ≤ 10000) (he : ks.length % 2 = 0) (hh : ∀ k ∈ ks, 0 ≤ hexv k ∧ hexv k < 16) : Spec 140 [.bytes b t] [] 2 (fun _ => True) (fun v _ => ∃ r t', v = .bytes r t' ∧ KBw.bInts r = unhex ks) := by
  have he2 : Int.fmod (ks.length : Int) 2 = 0 := by rw [Int.fmod_eq_emod_of_nonneg _ (by decide)]; omega
  intro dp un fr gd h₀ gens drawn toks os Q E X T hp hd hu hret
  revert X; k_fill; intro X
  try dsimp only at hp hret
  k_dflt (refine' enter_def ?k1 ?k2 ?k6 ?k7 ?k8 ?k9 ?kB ?_ ?c2 ?c3 ?c4 ?c5; (case k1 => exact X); (case k2 => exact T); (case k6 => k_is); (case k7 => k_is); (case k8 => (show dp < _; omega)); (case k9 => first | exact BindsTo.of_eq rfl | exact binds_K X rfl (by k_is) rfl rfl rfl); (case kB => exact locs rfl); (case c2 => exact rfl); (case c3 => exact rfl); (case c4 => exact rfl); (case c5 => decide))
  intro L h₁ tk F N
  dsimp only at F N ⊢
  k_fold
  k_steps

  rename Fr _ _ _ _ => F1
  rename News _ _ _ _ => N1
  replace F1 : Fr h₀ L _ (a2hI (.bytes b t) (.int _ _) (.ref _) (.int 0 _)) := F1
  with_unfolding_all refine' ksw_whileO (σ := A2hSt) (fun c => [(_, listOf c.vs.toArray c.n)]) (fun c => [(Str.ofString "i", .int c.i c.t1)]) [Str.ofString "top", Str.ofString "bot"] (A2hP ks) (fun c => ks.length - c.i.toNat) ⟨[], 0, 0, _⟩ rfl F1 N1 (al1 rfl) ⟨0, rfl, by omega, .nil, fun _ hx => (nomatch hx), rfl⟩ ?turn ?hE
  case hE => passes_own
  intro c u h tk QB hP hnx F' N'
  obtain ⟨vs, nn, i, t1⟩ := c
  clear F1 N1
  dsimp only at hnx F' N' ⊢
  simp only [kstB] at F'
  refine @by_no _ fun hno => ?_
  refine @by_no _ fun hNo9 => ?_
  obtain ⟨k, hi, hk, hints, hin, hlen⟩ := hP
  dsimp only at hi hints hlen
  subst hi
  refine hNo9 ?_
  clear hNo9
  refine hno ?_
  clear hno
  have hg : ∀ j : Nat, j < ks.length → 0 ≤ hexv (ks.getD j 0) ∧ hexv (ks.getD j 0) < 16 := fun j hj => hh _ (by rw [List.getD_eq_getElem?_getD, List.getElem?_eq_getElem hj]; exact List.getElem_mem hj)
  have hA : (2 * (k : Int) < ks.length) → 0 ≤ hexv (ks.getD (2 * (k : Int)).toNat 0) ∧ hexv (ks.getD (2 * (k : Int)).toNat 0) < 16 := fun h => hg _ (by omega)
  have hB : (2 * (k : Int) < ks.length) → 0 ≤ hexv (ks.getD (2 * (k : Int) + 1).toNat 0) ∧ hexv (ks.getD (2 * (k : Int) + 1).toNat 0) < 16 := fun h => hg _ (by omega)
  k_steps
  · rename Fr _ _ _ _ => F2
    rename News _ _ _ _ => N2
    simp only [List.push_toArray] at N2
    with_unfolding_all refine' hnx ⟨_, _, _, _⟩ _ _ _ _ _ (.inl rfl) F2 N2 (al1 (.head _)) (al1 rfl) ?oth ?P ?mu
    case oth =>
      intro z h2 h3
      have h4 := h2 _ (.head _)
      simp only [List.contains_cons, List.contains_nil, Bool.or_false, Bool.or_eq_false_iff, beq_eq_false_iff_ne, ne_eq] at h3
      dsimp only at h4
      simp [h3, h4]
    case mu => dsimp only; omega
    case P =>
      have h9 : 2 * k + 1 < ks.length := by omega
      have e2 : (2 * (k : Int)).toNat = 2 * k := by omega
      have e3 : (2 * (k : Int) + 1).toNat = 2 * k + 1 := by omega
      have et := take_two ks (2 * k) h9
      have eu := unhex_app (ks.getD (2 * k) 0) (ks.getD (2 * k + 1) 0) k (ks.take (2 * k)) (by rw [List.length_take]; omega)
      have hr := hg (2 * k) (by omega)
      have hr2 := hg (2 * k + 1) (by omega)
      refine ⟨k + 1, by dsimp only; omega, by omega, ?_, ?_, ?_⟩
      · show IntsAre (vs ++ [Value.int (hexv (ks.getD (2 * (k : Int)).toNat 0) * 16 + hexv (ks.getD (2 * (k : Int) + 1).toNat 0)) _]) (unhex (ks.take (2 * (k + 1))))
        rw [e2, e3, show 2 * (k + 1) = 2 * k + 2 from rfl, et, eu]
        exact hints.append (ints_one _ _)
      · rw [show 2 * (k + 1) = 2 * k + 2 from rfl, et, eu]
        exact in_app hin (in_one (by omega))
      · show (vs ++ [_]).length = k + 1
        rw [List.length_append, hlen]; rfl
  · refine hret _ _ _ (Fr.keep (by assumption)) ⟨_, _, rfl, (KBa.ints_make hin).trans ?_⟩
    rw [List.take_of_length_le (by omega)]

theorem hexc_of {k : Int} (h : 0 ≤ hexv k ∧ hexv k < 16) (hu : k < 97) : (48 ≤ k ∧ k ≤ 57) ∨ (65 ≤ k ∧ k ≤ 70) := by
  unfold hexv at h
  by_cases h1 : 48 ≤ k ∧ k ≤ 57
  · exact .inl h1
  · rw [if_neg h1] at h
    by_cases h2 : 65 ≤ k ∧ k ≤ 70
    · exact .inr h2
    · rw [if_neg h2] at h
      by_cases h3 : 97 ≤ k ∧ k ≤ 102
      · omega
      · rw [if_neg h3] at h; omega
theorem kw_B8_4 : True := by
  k_with "call ref" => ((k_here; (with_reducible show wpAny _ _ (call (Value.ref 140) _ _) _ _ _); k_dflt (refine use_spec (sp_a2bhex _ _ _ (by assumption) (by assumption) (by assumption) (by assumption)) (by k_asm) (by k_asm) (by k_asm) (by k_asm) (by trivial) (by (dsimp only [Around.deeper]; omega)) (by (dsimp only [Around.deeper]; omega)) ?_; k_whole); intro v' h' tk' F' N' st' hv'; obtain ⟨r', t', hv', hr'⟩ := hv'; subst hv'; clear st'); (try (revert h' tk' F' N' r' t' hr'; intros)))
  k_with "call ref" => ((k_here; (with_reducible show wpAny _ _ (call (Value.ref 60) _ _) _ _ _); k_dflt (refine use_spec (sp_decdata _ _) (by k_asm) (by k_asm) (by k_asm) (by k_asm) (by trivial) (by (dsimp only [Around.deeper]; omega)) (by (dsimp only [Around.deeper]; omega)) ?_; k_whole); intro v' h' tk' F' N' st' hv'; subst hv'; clear st'); (try (revert h' tk' F' N'; intros)))
  k_with "getMethod ref" => (k_here; k_dflt (refine BM.meth_search (by exact Frag.In.keeps (by k_asm) (Fr.keep (by k_asm)) _ _ (by k_is)) (by rfl) (by rfl) ?_))
  k_with "call builtin:re.Pattern.search" => (k_here; k_dflt (refine BM.search (by exact Frag.In.keeps (by k_asm) (Fr.keep (by k_asm)) _ _ (by k_is)) (by rfl) (by rfl) (by exact Frag.In.keeps (by k_asm) (Fr.keep (by k_asm)) _ _ (by k_is)) (by rfl) (by assumption) (by (rw [← KBw.ints_length, (by assumption : KBw.bInts _ = _)]; omega)) ?_))
  trivial
theorem sp_b16d  (b : Array UInt8) (t : Tok) (ks : List Int) (hb : KBw.bInts b = ks) (hz : ks.length ≤ 10000) (he : ks.length % 2 = 0) (hh : ∀ k ∈ ks, 0 ≤ hexv k ∧ hexv k < 16) (hu : ∀ k ∈ ks, k < 97) : Spec 199 [.bytes b t] [] 3 (fun _ => True) (fun v _ => ∃ r t', v = .bytes r t' ∧ KBw.bInts r = unhex ks) := by
  have hc : ∀ c ∈ b, BM.hexc c.toNat := by
    intro c hc
    have hm : ((c.toNat : Nat) : Int) ∈ ks := by
      rw [← hb]; exact List.mem_map.mpr ⟨c, by simpa using hc, rfl⟩
    have := hexc_of (hh _ hm) (hu _ hm)
    unfold BM.hexc; omega
  intro dp un fr gd h₀ gens drawn toks os Q E X T hp hd hu hret
  revert X; k_fill; intro X
  try dsimp only at hp hret
  k_dflt (refine' enter_def ?k1 ?k2 ?k6 ?k7 ?k8 ?k9 ?kB ?_ ?c2 ?c3 ?c4 ?c5; (case k1 => exact X); (case k2 => exact T); (case k6 => k_is); (case k7 => k_is); (case k8 => (show dp < _; omega)); (case k9 => first | exact BindsTo.of_eq rfl | exact binds_K X rfl (by k_is) rfl rfl rfl); (case kB => exact locs rfl); (case c2 => exact rfl); (case c3 => exact rfl); (case c4 => exact rfl); (case c5 => decide))
  intro L h₁ tk F N
  dsimp only at F N ⊢
  k_fold
  k_steps
  all_goals exact hret _ _ _ (Fr.keep (by assumption)) ⟨_, _, rfl, by assumption⟩

theorem begin_B9 : True := by
  w_on
  w_top off
  k_with_none
  k_with "om" => (law_clear; first | with_reducible assumption | (law_purse 20000 => grind))
  k_with "guard" => skip
  trivial
set_option maxHeartbeats 8000000
noncomputable def fin (ks : List Int) : Prop := (a2bS ks).2.1 = 0 ∨ (2 ≤ (a2bS ks).2.1 ∧ 4 ≤ (a2bS ks).2.1 + (a2bS ks).2.2.2)
noncomputable def encK (kind x y : Int) (ks : List Int) : List Int := if kind = 0 then b2aL ks else if kind = 1 then (b2aL ks).map (sw 43 47 45 95) else if kind = 2 then (b2aL ks).map (sw 43 47 x y) else hexL ks
noncomputable def decK (kind x y : Int) (ks : List Int) : List Int := if kind = 0 then (a2bS ks).1 else if kind = 1 then (a2bS (ks.map (sw 45 95 43 47))).1 else if kind = 2 then (a2bS (ks.map (sw x y 43 47))).1 else unhex ks
noncomputable def okK (kind x y : Int) (ks : List Int) : Prop := if kind = 0 then fin ks else if kind = 1 then fin (ks.map (sw 45 95 43 47)) else if kind = 2 then fin (ks.map (sw x y 43 47)) else (ks.length % 2 = 0 ∧ (∀ k ∈ ks, 0 ≤ hexv k ∧ hexv k < 16) ∧ ∀ k ∈ ks, k < 97)
theorem kw_B9_1 : True := by
  k_with_none
  k_with "om" => (law_clear; first | with_reducible assumption | (law_purse 20000 => grind))
  k_with "eval BinOp" => (k_here; (with_reducible show wpAny _ _ (eval (Expr.BinOp (Expr.Name _ _) _ (Expr.Constant (Const.int _) _ _) _) _) _ _ _); k_dflt (refine binNC (by k_asm) (by rfl) ?_ (by rfl) (by rfl) (by decide)); (try dsimp only))
  k_with "eval BinOp" => (k_here; (with_reducible show wpAny _ _ (eval (Expr.BinOp (Expr.Name _ _) _ (Expr.Name _ _) _) _) _ _ _); k_dflt (refine binNN (by k_asm) (by rfl) (by rfl) ?_ (by rfl) (by rfl) (by rfl) (by decide) (by decide)); (try dsimp only))
  k_with "isTrue Compare" => (k_here; (with_reducible show wpAny _ _ (isTrue (Expr.Compare (Expr.Name _ _) [_] [Expr.Constant (Const.int _) _ _] _) _ _) _ _ _); k_dflt (refine isNC (by k_asm) (by rfl) ?_ (by rfl) (by rfl) (by decide) (by with_unfolding_all rfl)); (try dsimp only))
  k_with "guard" => skip
  k_with "call ref" => ((k_here; (with_reducible show wpAny _ _ (call (Value.ref 163) _ _) _ _ _); k_dflt (refine use_spec (sp_std_e _ _ _ (by assumption) (by assumption)) (by k_asm) (by k_asm) (by k_asm) (by k_asm) (by trivial) (by (dsimp only [Around.deeper]; omega)) (by (dsimp only [Around.deeper]; omega)) ?_; k_whole); intro v' h' tk' F' N' st' hv'; obtain ⟨r', t', hv', hr'⟩ := hv'; subst hv'; clear st'); (try (revert h' tk' F' N' r' t' hr'; intros)))
  k_with "call ref" => ((k_here; (with_reducible show wpAny _ _ (call (Value.ref 177) _ _) _ _ _); k_dflt (refine use_spec (sp_url_e _ _ _ (by assumption) (by assumption)) (by k_asm) (by k_asm) (by k_asm) (by k_asm) (by trivial) (by (dsimp only [Around.deeper]; omega)) (by (dsimp only [Around.deeper]; omega)) ?_; k_whole); intro v' h' tk' F' N' st' hv'; obtain ⟨r', t', hv', hr'⟩ := hv'; subst hv'; clear st'); (try (revert h' tk' F' N' r' t' hr'; intros)))
  k_with "call ref" => ((k_here; (with_reducible show wpAny _ _ (call (Value.ref 148) _ _) _ _ _); k_dflt (refine use_spec (sp_b64e2 _ _ _ (by assumption) (by assumption) _ _ _) (by k_asm) (by k_asm) (by k_asm) (by k_asm) (by trivial) (by (dsimp only [Around.deeper]; omega)) (by (dsimp only [Around.deeper]; omega)) ?_; k_whole); intro v' h' tk' F' N' st' hv'; obtain ⟨r', t', hv', hr'⟩ := hv'; subst hv'; clear st'); (try (revert h' tk' F' N' r' t' hr'; intros)))
  k_with "call ref" => ((k_here; (with_reducible show wpAny _ _ (call (Value.ref 191) _ _) _ _ _); k_dflt (refine use_spec (sp_b16e _ _ _ (by assumption) (by assumption)) (by k_asm) (by k_asm) (by k_asm) (by k_asm) (by trivial) (by (dsimp only [Around.deeper]; omega)) (by (dsimp only [Around.deeper]; omega)) ?_; k_whole); intro v' h' tk' F' N' st' hv'; obtain ⟨r', t', hv', hr'⟩ := hv'; subst hv'; clear st'); (try (revert h' tk' F' N' r' t' hr'; intros)))
  k_with "call ref" => ((k_here; (with_reducible show wpAny _ _ (call (Value.ref 170) _ _) _ _ _); k_dflt (refine use_spec (sp_std_d _ _ _ (by assumption) (by assumption) (by assumption)) (by k_asm) (by k_asm) (by k_asm) (by k_asm) (by trivial) (by (dsimp only [Around.deeper]; omega)) (by (dsimp only [Around.deeper]; omega)) ?_; k_whole); intro v' h' tk' F' N' st' hv'; obtain ⟨r', t', hv', hr'⟩ := hv'; subst hv'; clear st'); (try (revert h' tk' F' N' r' t' hr'; intros)))
  k_with "call ref" => ((k_here; (with_reducible show wpAny _ _ (call (Value.ref 184) _ _) _ _ _); k_dflt (refine use_spec (sp_url_d _ _ _ (by assumption) (by assumption) (by assumption)) (by k_asm) (by k_asm) (by k_asm) (by k_asm) (by trivial) (by (dsimp only [Around.deeper]; omega)) (by (dsimp only [Around.deeper]; omega)) ?_; k_whole); intro v' h' tk' F' N' st' hv'; obtain ⟨r', t', hv', hr'⟩ := hv'; subst hv'; clear st'); (try (revert h' tk' F' N' r' t' hr'; intros)))
  k_with "call ref" => ((k_here; (with_reducible show wpAny _ _ (call (Value.ref 156) _ _) _ _ _); k_dflt (refine use_spec (sp_b64d2 _ _ _ (by assumption) (by assumption) _ _ _ (by assumption)) (by k_asm) (by k_asm) (by k_asm) (by k_asm) (by trivial) (by (dsimp only [Around.deeper]; omega)) (by (dsimp only [Around.deeper]; omega)) ?_; k_whole); intro v' h' tk' F' N' st' hv'; obtain ⟨r', t', hv', hr'⟩ := hv'; subst hv'; clear st'); (try (revert h' tk' F' N' r' t' hr'; intros)))
  k_with "call ref" => ((k_here; (with_reducible show wpAny _ _ (call (Value.ref 199) _ _) _ _ _); k_dflt (refine use_spec (sp_b16d _ _ _ (by assumption) (by assumption) (by assumption) (by assumption) (by assumption)) (by k_asm) (by k_asm) (by k_asm) (by k_asm) (by trivial) (by (dsimp only [Around.deeper]; omega)) (by (dsimp only [Around.deeper]; omega)) ?_; k_whole); intro v' h' tk' F' N' st' hv'; obtain ⟨r', t', hv', hr'⟩ := hv'; subst hv'; clear st'); (try (revert h' tk' F' N' r' t' hr'; intros)))
  trivial
theorem sp_write  (kind : Int) (tk : Tok) (hk : kind = 0 ∨ kind = 1 ∨ kind = 2 ∨ kind = 3) (x y : UInt8) (tp : Tok) (b : Array UInt8) (t : Tok) (ks : List Int) (hb : KBw.bInts b = ks) (hz : ks.length ≤ 10000) : Spec 213 [.int kind tk, .bytes #[x, y] tp, .bytes b t] [] 5 (fun _ => True) (fun v _ => ∃ r t', v = .bytes r t' ∧ KBw.bInts r = encK kind x.toNat y.toNat ks) := by
  rcases hk with rfl | rfl | rfl | rfl
  all_goals (
    intro dp un fr gd h₀ gens drawn toks os Q E X T hp hd hu hret
    revert X; k_fill; intro X
    try dsimp only at hp hret
    k_dflt (refine' enter_def ?k1 ?k2 ?k6 ?k7 ?k8 ?k9 ?kB ?_ ?c2 ?c3 ?c4 ?c5; (case k1 => exact X); (case k2 => exact T); (case k6 => k_is); (case k7 => k_is); (case k8 => (show dp < _; omega)); (case k9 => first | exact BindsTo.of_eq rfl | exact binds_K X rfl (by k_is) rfl rfl rfl); (case kB => exact locs rfl); (case c2 => exact rfl); (case c3 => exact rfl); (case c4 => exact rfl); (case c5 => decide))
    intro L h₁ tk F N
    dsimp only at F N ⊢
    k_fold
    k_steps
    all_goals exact hret _ _ _ (Fr.keep (by assumption)) ⟨_, _, rfl, by assumption⟩)
theorem sp_read  (kind : Int) (tk : Tok) (hk : kind = 0 ∨ kind = 1 ∨ kind = 2 ∨ kind = 3) (x y : UInt8) (tp : Tok) (b : Array UInt8) (t : Tok) (ks : List Int) (hb : KBw.bInts b = ks) (hz : ks.length ≤ 10000) (hok : okK kind x.toNat y.toNat ks) : Spec 220 [.int kind tk, .bytes #[x, y] tp, .bytes b t] [] 5 (fun _ => True) (fun v _ => ∃ r t', v = .bytes r t' ∧ KBw.bInts r = decK kind x.toNat y.toNat ks) := by
  rcases hk with rfl | rfl | rfl | rfl
  · have hf : fin ks := hok
    unfold fin at hf
    intro dp un fr gd h₀ gens drawn toks os Q E X T hp hd hu hret
    revert X; k_fill; intro X
    try dsimp only at hp hret
    k_dflt (refine' enter_def ?k1 ?k2 ?k6 ?k7 ?k8 ?k9 ?kB ?_ ?c2 ?c3 ?c4 ?c5; (case k1 => exact X); (case k2 => exact T); (case k6 => k_is); (case k7 => k_is); (case k8 => (show dp < _; omega)); (case k9 => first | exact BindsTo.of_eq rfl | exact binds_K X rfl (by k_is) rfl rfl rfl); (case kB => exact locs rfl); (case c2 => exact rfl); (case c3 => exact rfl); (case c4 => exact rfl); (case c5 => decide))
    intro L h₁ tk F N
    dsimp only at F N ⊢
    k_fold
    k_steps
    all_goals exact hret _ _ _ (Fr.keep (by assumption)) ⟨_, _, rfl, by assumption⟩
  · have hf : fin (ks.map (sw 45 95 43 47)) := hok
    unfold fin at hf
    intro dp un fr gd h₀ gens drawn toks os Q E X T hp hd hu hret
    revert X; k_fill; intro X
    try dsimp only at hp hret
    k_dflt (refine' enter_def ?k1 ?k2 ?k6 ?k7 ?k8 ?k9 ?kB ?_ ?c2 ?c3 ?c4 ?c5; (case k1 => exact X); (case k2 => exact T); (case k6 => k_is); (case k7 => k_is); (case k8 => (show dp < _; omega)); (case k9 => first | exact BindsTo.of_eq rfl | exact binds_K X rfl (by k_is) rfl rfl rfl); (case kB => exact locs rfl); (case c2 => exact rfl); (case c3 => exact rfl); (case c4 => exact rfl); (case c5 => decide))
    intro L h₁ tk F N
    dsimp only at F N ⊢
    k_fold
    k_steps
    all_goals exact hret _ _ _ (Fr.keep (by assumption)) ⟨_, _, rfl, by assumption⟩
  · have hf : fin (ks.map (sw x.toNat y.toNat 43 47)) := hok
    unfold fin at hf
    intro dp un fr gd h₀ gens drawn toks os Q E X T hp hd hu hret
    revert X; k_fill; intro X
    try dsimp only at hp hret
    k_dflt (refine' enter_def ?k1 ?k2 ?k6 ?k7 ?k8 ?k9 ?kB ?_ ?c2 ?c3 ?c4 ?c5; (case k1 => exact X); (case k2 => exact T); (case k6 => k_is); (case k7 => k_is); (case k8 => (show dp < _; omega)); (case k9 => first | exact BindsTo.of_eq rfl | exact binds_K X rfl (by k_is) rfl rfl rfl); (case kB => exact locs rfl); (case c2 => exact rfl); (case c3 => exact rfl); (case c4 => exact rfl); (case c5 => decide))
    intro L h₁ tk F N
    dsimp only at F N ⊢
    k_fold
    k_steps
    all_goals exact hret _ _ _ (Fr.keep (by assumption)) ⟨_, _, rfl, by assumption⟩
  · obtain ⟨h1, h2, h3⟩ : ks.length % 2 = 0 ∧ (∀ k ∈ ks, 0 ≤ hexv k ∧ hexv k < 16) ∧ ∀ k ∈ ks, k < 97 := hok
    intro dp un fr gd h₀ gens drawn toks os Q E X T hp hd hu hret
    revert X; k_fill; intro X
    try dsimp only at hp hret
    k_dflt (refine' enter_def ?k1 ?k2 ?k6 ?k7 ?k8 ?k9 ?kB ?_ ?c2 ?c3 ?c4 ?c5; (case k1 => exact X); (case k2 => exact T); (case k6 => k_is); (case k7 => k_is); (case k8 => (show dp < _; omega)); (case k9 => first | exact BindsTo.of_eq rfl | exact binds_K X rfl (by k_is) rfl rfl rfl); (case kB => exact locs rfl); (case c2 => exact rfl); (case c3 => exact rfl); (case c4 => exact rfl); (case c5 => decide))
    intro L h₁ tk F N
    dsimp only at F N ⊢
    k_fold
    k_steps
    all_goals exact hret _ _ _ (Fr.keep (by assumption)) ⟨_, _, rfl, by assumption⟩

theorem begin_B10 : True := by
  w_on
  w_top off
  k_with_none
  k_with "om" => (law_clear; first | with_reducible assumption | (law_purse 20000 => grind))
  k_with "guard" => skip
  trivial
set_option maxHeartbeats 8000000
noncomputable def wrI (r sg z pd told : Value) : Str → Option Value := fun y => if y = Str.ofString "told" then some told else if y = Str.ofString "padded" then some pd else List.lookup y [(Str.ofString "size", z), (Str.ofString "signs", sg), (Str.ofString "row", r)]
structure WrSt where
  vs : List Value
  n : Nat
noncomputable def wrIdx (size : Int) (ks : List Int) (k : Int) : Int := ((ks ++ [0]).getD ((size * k).fdiv 8).toNat 0 * 256 + (ks ++ [0]).getD ((size * k).fdiv 8 + 1).toNat 0).fdiv (2 ^ (16 - size - (size * k).fmod 8).toNat) |>.fmod (2 ^ size.toNat)
noncomputable def WrP (size : Int) (al ks : List Int) (pre : List Int) (c : WrSt) : Prop := IntsAre c.vs (pre.map fun k => al.getD (wrIdx size ks k).toNat 0) ∧ c.vs.length = pre.length
theorem kw_B10_1 : True := by
  k_with_none
  k_with "om" => (law_clear; first | with_reducible assumption | (law_purse 20000 => grind))
  k_with "eval BinOp" => (k_here; (with_reducible show wpAny _ _ (eval (Expr.BinOp (Expr.Name _ _) _ (Expr.Constant (Const.int _) _ _) _) _) _ _ _); k_dflt (refine binNC (by k_asm) (by rfl) ?_ (by rfl) (by rfl) (by decide)); (try dsimp only))
  k_with "eval BinOp" => (k_here; (with_reducible show wpAny _ _ (eval (Expr.BinOp (Expr.Name _ _) _ (Expr.Name _ _) _) _) _ _ _); k_dflt (refine binNN (by k_asm) (by rfl) (by rfl) ?_ (by rfl) (by rfl) (by rfl) (by decide) (by decide)); (try dsimp only))
  k_with "isTrue Compare" => (k_here; (with_reducible show wpAny _ _ (isTrue (Expr.Compare (Expr.Name _ _) [_] [Expr.Constant (Const.int _) _ _] _) _ _) _ _ _); k_dflt (refine isNC (by k_asm) (by rfl) ?_ (by rfl) (by rfl) (by decide) (by with_unfolding_all rfl)); (try dsimp only))
  k_with "guard" => ((fail_if_success (with_reducible show wpAny _ _ (pyIter _) _ _ _)); (fail_if_success (with_reducible show wpAny _ _ (call (Value.type "bytes") _) _ _ _)); (fail_if_success (with_reducible show wpAny _ _ (exec (Stmt.While _ _ _ _) _) _ _ _)))
  trivial
theorem pow2_ne (n : Nat) : (2 : Int) ^ n ≠ 0 := by exact_mod_cast (Nat.pos_iff_ne_zero.mp (Nat.two_pow_pos n))
theorem np2 {n : Nat} {a : Int} (h : n < 9000) : Builtin.divisionGoesByPylong a (2 ^ n) = false := by
  refine PyProof.noPylong_of_log2 ?_
  rw [Int.natAbs_pow]
  show (2 ^ n).log2 < 9000
  rw [Nat.log2_two_pow]; exact h
theorem kw_B10_2 : True := by
  k_with "binaryOp Pow int int" => (k_here; k_dflt (refine pow_int_small (by omega) (by omega) (by decide) ?_))
  k_with "binaryOp FloorDiv int int" => (k_here; (with_reducible show wpAny _ _ (binaryOp _ _ (Value.int (2 ^ _) _)) _ _ _); k_dflt (refine floordiv_int (pow2_ne _) ?_ (.inl (np2 (by omega)))))
  k_with "binaryOp Mod int int" => (k_here; (with_reducible show wpAny _ _ (binaryOp _ _ (Value.int (2 ^ _) _)) _ _ _); k_dflt (refine mod_int' (pow2_ne _) ?_))
  trivial
theorem item_ints {prog : Program} {w : World} {A : Around} {E : Value → Shared → Prop} {s : Shared} {value slice : PySem.Expr} {l : Addr} {vs : List Value} {ns : List Int} {k : Int} {u : Tok} {Q : Value → Shared → Prop}
    (hl : s.heap.IsList l vs.toArray) (hi : IntsAre vs ns) (h0 : 0 ≤ k) (h1 : k < ns.length) (hz : ns.length < 2 ^ 62) (h : ∀ t, Q (.int (ns.getD k.toNat 0) t) s)
    (hs : subscripted slice false (.ref l) (.int k u) = operate [.ref l, .int k u] (getItem (.ref l) (.int k u)) := by with_unfolding_all rfl) : wpAny (model prog w) A (subscriptTail value slice (.ref l) (.int k u)) Q E s := by
  have hk : k.toNat < vs.length := by rw [hi.length]; omega
  obtain ⟨t, e⟩ := hi.int_at k.toNat vs[k.toNat] (List.getElem?_eq_getElem hk)
  refine tail_any hl.typeIs slot_list_getitem.lookup (wpAny_getItem_list hl h0 (by omega) (by rw [List.getElem?_toArray]; exact List.getElem?_eq_getElem hk) ?_) hs
  rw [e]
  exact h t
theorem fmod_in (x : Int) (n : Nat) : 0 ≤ x.fmod (2 ^ n) ∧ x.fmod (2 ^ n) < 2 ^ n := by
  have hp : (0 : Int) < 2 ^ n := by exact_mod_cast Nat.two_pow_pos n
  exact ⟨Int.fmod_nonneg_of_pos _ hp, Int.fmod_lt_of_pos _ hp⟩
theorem kw_B10_3 : True := by
  k_with "subscriptTail" => ((k_here; (with_reducible show wpAny _ _ (subscriptTail _ _ (Value.ref _) (Value.int (Int.fmod _ (2 ^ _)) _)) _ _ _); k_dflt (refine item_ints (by is_list) (by assumption) (fmod_in _ _).1 (by (refine Int.lt_of_lt_of_le (fmod_in _ _).2 ?_; first | (rw [(by assumption : List.length _ = 64)]; decide) | (rw [(by assumption : List.length _ = 16)]; decide))) (by omega) ?_; k_whole); intro ti'); (try (revert ti'; intros)))
  trivial
noncomputable def wrBase (size : Nat) (al ks : List Int) : List Int := (List.range ((8 * ks.length + (size - 1)) / size)).map fun (k : Nat) => al.getD (wrIdx size ks k).toNat 0
noncomputable def padN (n : Nat) : Nat := (4 - n % 4) % 4
noncomputable def wr6 (al ks : List Int) : List Int := wrBase 6 al ks ++ List.replicate (padN (wrBase 6 al ks).length) 61
theorem getD_in {al : List Int} (h : KBa.In al) (j : Nat) : 0 ≤ al.getD j 0 ∧ al.getD j 0 < 256 := KBw.getD_in h
theorem map_in {al : List Int} (h : KBa.In al) (f : Int → Nat) (pre : List Int) : KBa.In (pre.map fun k => al.getD (f k) 0) := fun n hn => by
  obtain ⟨k, _, rfl⟩ := List.mem_map.mp hn
  exact getD_in h _
theorem rep_in (j : Nat) : KBa.In (List.replicate j 61) := fun n hn => by rw [List.eq_of_mem_replicate hn]; omega
theorem wr_range (size : Nat) (sz : Int) (hs : sz = (size : Int)) (al ks : List Int) (n : Nat) (hn : n = (8 * ks.length + (size - 1)) / size) : (rangeKs 0 n).map (fun k => al.getD (wrIdx sz ks k).toNat 0) = wrBase size al ks := by
  subst hn hs
  unfold rangeKs wrBase
  rw [List.map_map]
  refine List.map_congr_left fun k _ => ?_
  show al.getD (wrIdx size ks (0 + (k : Int))).toNat 0 = _
  rw [Int.zero_add]
theorem kw_B10_4 : True := by
  k_with "call builtin:len" => (k_here; (with_reducible show wpAny _ _ (call (Value.builtin "len") [Value.ref _]) _ _ _); k_dflt (refine' kst_len (by k_asm) (by k_mem) (by assumption) ?_ ?_; (try (case refine'_1 => omega))))
  trivial
theorem sp_written6  (ra sa : Addr) (rv sv : List Value) (ks al : List Int) (ts : Tok) (hr : IntsAre rv ks) (hs : IntsAre sv al) (hz : ks.length ≤ 10000) (hal : al.length = 64) (hki : KBa.In ks) (hai : KBa.In al) :
    Spec 206 [.ref ra, .ref sa, .int 6 ts] [] 1 (fun h => h.IsList ra rv.toArray ∧ h.IsList sa sv.toArray) (fun v _ => ∃ r t', v = .bytes r t' ∧ KBw.bInts r = wr6 al ks) := by
  intro dp un fr gd h₀ gens drawn toks os Q E X T hp hd hu hret
  revert X; k_fill; intro X
  try dsimp only at hp hret
  k_dflt (refine' enter_def ?k1 ?k2 ?k6 ?k7 ?k8 ?k9 ?kB ?_ ?c2 ?c3 ?c4 ?c5; (case k1 => exact X); (case k2 => exact T); (case k6 => k_is); (case k7 => k_is); (case k8 => (show dp < _; omega)); (case k9 => first | exact BindsTo.of_eq rfl | exact binds_K X rfl (by k_is) rfl rfl rfl); (case kB => exact locs rfl); (case c2 => exact rfl); (case c3 => exact rfl); (case c4 => exact rfl); (case c5 => decide))
  intro L h₁ tk F N
  dsimp only at F N ⊢
  k_fold
  obtain ⟨hl1, hl2⟩ := hp
  k_steps
  rename IsRange _ _ _ _ _ _ _ _ => R1
  rename Fr _ _ _ _ => F1
  rename News _ _ _ _ => N1
  rename IntsAre _ (ks ++ [0]) => hI
  have hq : (8 * (ks.length : Int) + 6 - 1).fdiv 6 = (8 * (ks.length : Int) + 5) / 6 := by rw [Int.fdiv_eq_ediv_of_nonneg _ (by decide)]; congr 1; omega
  replace F1 : Fr h₀ L _ (wrI (.ref ra) (.ref sa) (.int 6 ts) (.ref _) (.ref _)) := F1
  k_dflt refine' kst_rangeO (σ := WrSt) (fun c => (_, listOf c.vs.toArray c.n) :: _) (fun c => []) [Str.ofString "at", Str.ofString "both"] (WrP 6 al ks) ⟨[], 0⟩ rfl R1 (small_one (by decide) (by decide) (by omega) (by omega)) (rangeSize_nat _ _) F1 N1 (List.forall_mem_nil _) ⟨.nil, rfl⟩ ?turn ?done
  case turn =>
    intro c pre k tn u h tk own QB hk hlt hoff hP hnx F' N'
    obtain ⟨vs, nn⟩ := c
    obtain ⟨hints, hlen⟩ := hP
    clear F1 N1 R1
    dsimp only [envOf] at hnx hints hlen F' N' ⊢
    simp only [List.cons_append, List.nil_append] at N'
    simp only [List.map_cons, List.map_nil] at hoff
    simp only [kstB] at F'
    have hk0 : 0 ≤ k := by omega
    have hk1 : (6 * k).fdiv 8 = 6 * k / 8 := Int.fdiv_eq_ediv_of_nonneg _ (by decide)
    have hk2 : (6 * k).fmod 8 = 6 * k % 8 := Int.fmod_eq_emod_of_nonneg _ (by decide)
    have hkn : k < (8 * (ks.length : Int) + 5) / 6 := by omega
    have ha0 : 0 ≤ (6 * k).fdiv 8 := by omega
    have ha1 : (6 * k).fdiv 8 < ks.length := by omega
    have hm0 : 0 ≤ (6 * k).fmod 8 ∧ (6 * k).fmod 8 ≤ 6 := by omega
    k_steps
    rename Fr _ _ _ _ => F2
    rename News _ _ _ _ => N2
    simp only [List.push_toArray] at N2
    refine hnx ⟨vs ++ [_], _⟩ _ _ _ _ _ (.inl rfl) F2 N2 (al3 (.head _) (.tail _ (.head _)) (.tail _ (.tail _ (.head _)))) (fun p hp => .tail _ (.tail _ (.tail _ hp))) rfl (List.forall_mem_nil _) ?oth ?P
    case oth =>
      intro z h1 _ h3
      simp only [List.contains_cons, List.contains_nil, Bool.or_false, Bool.or_eq_false_iff, beq_eq_false_iff_ne, ne_eq] at h3
      simp only [if_neg h1, if_neg h3.1, if_neg h3.2, kstB]
      split
      · rename_i hc; simp at hc; exact (hc.elim h3.1 h3.2).elim
      · rfl
    case P =>
      refine ⟨?_, by rw [List.length_append, List.length_append, hlen]; rfl⟩
      rw [List.map_append]
      exact hints.append (ints_one _ _)
  case done =>
    intro c u h tk hP F' N'
    obtain ⟨vs, nn⟩ := c
    obtain ⟨hints, hlen⟩ := hP
    clear F1 N1 R1
    rw [wr_range 6 6 rfl al ks _ (by omega)] at hints
    rw [rangeKs_length] at hlen
    have hbl := hints.length
    dsimp only [envOf] at hints hlen hbl F' N'
    simp only [kstB] at F'
    have hin : KBa.In (wrBase 6 al ks) := by
      rw [← wr_range 6 6 rfl al ks _ rfl]; exact map_in hai _ _
    k_steps
    rename Fr _ _ _ _ => F1
    rename News _ _ _ _ => N1
    k_dflt refine' ksw_whileO (σ := WrSt) (fun c => (_, listOf c.vs.toArray c.n) :: _) (fun c => []) [] (fun c => ∃ j, j ≤ padN (wrBase 6 al ks).length ∧ IntsAre c.vs (wrBase 6 al ks ++ List.replicate j 61)) (fun c => (wrBase 6 al ks).length + 4 - c.vs.length) ⟨vs, nn⟩ rfl F1 N1 (List.forall_mem_nil _) ⟨0, Nat.zero_le _, by simpa using hints⟩ ?turn ?hE
    case hE => passes_own
    intro c2 u2 h2 tk2 QB2 hP2 hnx2 F' N'
    obtain ⟨ws, nw⟩ := c2
    obtain ⟨j, hj, hw⟩ := hP2
    clear F1 N1
    have hwl := hw.length
    rw [List.length_append, List.length_replicate] at hwl
    dsimp only at hw hwl hnx2 F' N' ⊢
    simp only [kstB, List.contains_nil, Bool.false_eq_true, if_false] at F'
    have hin2 : KBa.In (wrBase 6 al ks ++ List.replicate j 61) := in_app hin (rep_in j)
    have hfm : (((wrBase 6 al ks).length + j : Nat) : Int).fmod 4 = ((((wrBase 6 al ks).length + j) % 4 : Nat) : Int) := by rw [Int.fmod_eq_emod_of_nonneg _ (by decide)]; omega
    have hbn : (wrBase 6 al ks).length ≤ 20000 := by omega
    have hj4 : j < 4 := by unfold padN at hj; omega
    have hwl2 : ws.length ≤ 20004 := by omega
    k_steps
    · rename Fr _ _ _ _ => F2
      rename News _ _ _ _ => N2
      simp only [List.push_toArray] at N2
      refine hnx2 ⟨ws ++ [_], _⟩ _ _ _ _ _ (.inl rfl) F2 N2 (al3 (.head _) (.tail _ (.head _)) (.tail _ (.tail _ (.head _)))) (List.forall_mem_nil _) (fun z _ _ => rfl) ⟨j + 1, ?P, ?I⟩ ?mu
      case P => unfold padN at *; omega
      case I =>
        rw [List.replicate_succ', ← List.append_assoc]
        exact hw.append (ints_one _ _)
      case mu =>
        show (wrBase 6 al ks).length + 4 - (ws ++ [_]).length < (wrBase 6 al ks).length + 4 - ws.length
        rw [List.length_append]
        exact Nat.sub_lt_sub_left (by rw [hwl]; omega) (Nat.lt_succ_self _)
    · rename Fr _ _ _ _ => F2
      rename News _ _ _ _ => N2
      k_dflt (refine' out_bytes F2 N2 rfl (.head _) hw hin2 (by rw [List.length_append, List.length_replicate]; omega) ?_)
      intro h9 t9 k9 F9 e9
      refine hret _ _ _ F9.keep ⟨_, _, rfl, e9.trans ?_⟩
      have : j = padN (wrBase 6 al ks).length := by unfold padN at *; omega
      rw [this]; rfl
theorem sp_written4  (ra sa : Addr) (rv sv : List Value) (ks al : List Int) (ts : Tok) (hr : IntsAre rv ks) (hs : IntsAre sv al) (hz : ks.length ≤ 10000) (hal : al.length = 16) (hki : KBa.In ks) (hai : KBa.In al) :
    Spec 206 [.ref ra, .ref sa, .int 4 ts] [] 1 (fun h => h.IsList ra rv.toArray ∧ h.IsList sa sv.toArray) (fun v _ => ∃ r t', v = .bytes r t' ∧ KBw.bInts r = wrBase 4 al ks) := by
  intro dp un fr gd h₀ gens drawn toks os Q E X T hp hd hu hret
  revert X; k_fill; intro X
  try dsimp only at hp hret
  k_dflt (refine' enter_def ?k1 ?k2 ?k6 ?k7 ?k8 ?k9 ?kB ?_ ?c2 ?c3 ?c4 ?c5; (case k1 => exact X); (case k2 => exact T); (case k6 => k_is); (case k7 => k_is); (case k8 => (show dp < _; omega)); (case k9 => first | exact BindsTo.of_eq rfl | exact binds_K X rfl (by k_is) rfl rfl rfl); (case kB => exact locs rfl); (case c2 => exact rfl); (case c3 => exact rfl); (case c4 => exact rfl); (case c5 => decide))
  intro L h₁ tk F N
  dsimp only at F N ⊢
  k_fold
  obtain ⟨hl1, hl2⟩ := hp
  k_steps
  rename IsRange _ _ _ _ _ _ _ _ => R1
  rename Fr _ _ _ _ => F1
  rename News _ _ _ _ => N1
  rename IntsAre _ (ks ++ [0]) => hI
  have hq : (8 * (ks.length : Int) + 4 - 1).fdiv 4 = (8 * (ks.length : Int) + 3) / 4 := by rw [Int.fdiv_eq_ediv_of_nonneg _ (by decide)]; congr 1; omega
  replace F1 : Fr h₀ L _ (wrI (.ref ra) (.ref sa) (.int 4 ts) (.ref _) (.ref _)) := F1
  k_dflt refine' kst_rangeO (σ := WrSt) (fun c => (_, listOf c.vs.toArray c.n) :: _) (fun c => []) [Str.ofString "at", Str.ofString "both"] (WrP 4 al ks) ⟨[], 0⟩ rfl R1 (small_one (by decide) (by decide) (by omega) (by omega)) (rangeSize_nat _ _) F1 N1 (List.forall_mem_nil _) ⟨.nil, rfl⟩ ?turn ?done
  case turn =>
    intro c pre k tn u h tk own QB hk hlt hoff hP hnx F' N'
    obtain ⟨vs, nn⟩ := c
    obtain ⟨hints, hlen⟩ := hP
    clear F1 N1 R1
    dsimp only [envOf] at hnx hints hlen F' N' ⊢
    simp only [List.cons_append, List.nil_append] at N'
    simp only [List.map_cons, List.map_nil] at hoff
    simp only [kstB] at F'
    have hk0 : 0 ≤ k := by omega
    have hk1 : (4 * k).fdiv 8 = 4 * k / 8 := Int.fdiv_eq_ediv_of_nonneg _ (by decide)
    have hk2 : (4 * k).fmod 8 = 4 * k % 8 := Int.fmod_eq_emod_of_nonneg _ (by decide)
    have hkn : k < (8 * (ks.length : Int) + 3) / 4 := by omega
    have ha0 : 0 ≤ (4 * k).fdiv 8 := by omega
    have ha1 : (4 * k).fdiv 8 < ks.length := by omega
    have hm0 : 0 ≤ (4 * k).fmod 8 ∧ (4 * k).fmod 8 ≤ 4 := by omega
    k_steps
    rename Fr _ _ _ _ => F2
    rename News _ _ _ _ => N2
    simp only [List.push_toArray] at N2
    refine hnx ⟨vs ++ [_], _⟩ _ _ _ _ _ (.inl rfl) F2 N2 (al3 (.head _) (.tail _ (.head _)) (.tail _ (.tail _ (.head _)))) (fun p hp => .tail _ (.tail _ (.tail _ hp))) rfl (List.forall_mem_nil _) ?oth ?P
    case oth =>
      intro z h1 _ h3
      simp only [List.contains_cons, List.contains_nil, Bool.or_false, Bool.or_eq_false_iff, beq_eq_false_iff_ne, ne_eq] at h3
      simp only [if_neg h1, if_neg h3.1, if_neg h3.2, kstB]
      split
      · rename_i hc; simp at hc; exact (hc.elim h3.1 h3.2).elim
      · rfl
    case P =>
      refine ⟨?_, by rw [List.length_append, List.length_append, hlen]; rfl⟩
      rw [List.map_append]
      exact hints.append (ints_one _ _)
  case done =>
    intro c u h tk hP F' N'
    obtain ⟨vs, nn⟩ := c
    obtain ⟨hints, hlen⟩ := hP
    clear F1 N1 R1
    rw [wr_range 4 4 rfl al ks _ (by omega)] at hints
    rw [rangeKs_length] at hlen
    have hbl := hints.length
    dsimp only [envOf] at hints hlen hbl F' N'
    simp only [kstB] at F'
    have hin : KBa.In (wrBase 4 al ks) := by
      rw [← wr_range 4 4 rfl al ks _ rfl]; exact map_in hai _ _
    k_steps
    walk1
    k_steps
    rename Fr _ _ _ _ => F2
    rename News _ _ _ _ => N2
    k_dflt (refine' out_bytes F2 N2 rfl (.head _) hints hin (by omega) ?_)
    intro h9 t9 k9 F9 e9
    exact hret _ _ _ F9.keep ⟨_, _, rfl, e9⟩

open PySem.SeqAt
theorem begin_B11 : True := by
  w_on
  w_top off
  k_with_none
  k_with "om" => (law_clear; first | with_reducible assumption | (law_purse 20000 => grind))
  k_with "guard" => skip
  trivial
set_option maxHeartbeats 4000000
/-- plain data: ints, bytes (as their ints), lists -/
inductive D where
  | int (i : Int)
  | byt (ks : List Int)
  | lst (ds : List D)
mutual
/-- the heap bears the datum at the value; every list's address meets P -/
inductive Rep (P : Addr → Prop) (h : Heap) : Value → D → Prop
  | int (i : Int) (t : Tok) : Rep P h (.int i t) (.int i)
  | byt {b : Array UInt8} {ks : List Int} (t : Tok) : KBw.bInts b = ks → Rep P h (.bytes b t) (.byt ks)
  | lst {a : Addr} {vs : List Value} {ds : List D} : P a → h.IsList a vs.toArray → Reps P h vs ds → Rep P h (.ref a) (.lst ds)
inductive Reps (P : Addr → Prop) (h : Heap) : List Value → List D → Prop
  | nil : Reps P h [] []
  | cons {v : Value} {vs : List Value} {d : D} {ds : List D} : Rep P h v d → Reps P h vs ds → Reps P h (v :: vs) (d :: ds)
end
theorem isList_keep {h h' : Heap} {a : Addr} {items : Array Value} (x : h.IsList a items) (k : ∀ o, h.get? a = some o → h'.get? a = some o) : h'.IsList a items := let ⟨o, ho, r⟩ := x; ⟨o, k o ho, r⟩
/-- the addresses of P keep what they bear as lists -/
noncomputable def Kept (P : Addr → Prop) (h h' : Heap) : Prop := ∀ a o, P a → o.cls = .type "list" → h.get? a = some o → h'.get? a = some o
theorem Kept.refl {P : Addr → Prop} {h : Heap} : Kept P h h := fun _ _ _ _ e => e
theorem Kept.trans {P : Addr → Prop} {h h' h'' : Heap} (x : Kept P h h') (y : Kept P h' h'') : Kept P h h'' := fun a o p c e => y a o p c (x a o p c e)
theorem Kept.of_stays {P : Addr → Prop} {h h' : Heap} (x : h.StaysIn h') : Kept P h h' := fun a o _ _ e => x a o e
theorem Kept.list {P : Addr → Prop} {h h' : Heap} {a : Addr} {items : Array Value} (k : Kept P h h') (p : P a) (x : h.IsList a items) : h'.IsList a items := by
  obtain ⟨o, ho, hc, r⟩ := x
  exact ⟨o, k a o p hc ho, hc, r⟩
mutual
theorem Rep.kept {P : Addr → Prop} {h h' : Heap} (k : Kept P h h') : ∀ {v : Value} {d : D}, Rep P h v d → Rep P h' v d
  | _, _, .int i t => .int i t
  | _, _, .byt t e => .byt t e
  | _, _, .lst p l r => .lst p (k.list p l) (Reps.kept k r)
theorem Reps.kept {P : Addr → Prop} {h h' : Heap} (k : Kept P h h') : ∀ {vs : List Value} {ds : List D}, Reps P h vs ds → Reps P h' vs ds
  | _, _, .nil => .nil
  | _, _, .cons x r => .cons (Rep.kept k x) (Reps.kept k r)
end
mutual
theorem Rep.weaken {P P' : Addr → Prop} {h : Heap} (k : ∀ a, P a → P' a) : ∀ {v : Value} {d : D}, Rep P h v d → Rep P' h v d
  | _, _, .int i t => .int i t
  | _, _, .byt t e => .byt t e
  | _, _, .lst p l r => .lst (k _ p) l (Reps.weaken k r)
theorem Reps.weaken {P P' : Addr → Prop} {h : Heap} (k : ∀ a, P a → P' a) : ∀ {vs : List Value} {ds : List D}, Reps P h vs ds → Reps P' h vs ds
  | _, _, .nil => .nil
  | _, _, .cons x r => .cons (Rep.weaken k x) (Reps.weaken k r)
end
mutual
/-- what a heap bears was there: the addresses are of the heap -/
theorem Rep.there {P : Addr → Prop} {h : Heap} : ∀ {v : Value} {d : D}, Rep P h v d → Rep (fun a => P a ∧ (h.get? a).isSome = true) h v d
  | _, _, .int i t => .int i t
  | _, _, .byt t e => .byt t e
  | _, _, .lst p l r => .lst ⟨p, by obtain ⟨o, ho, _⟩ := l; rw [ho]; rfl⟩ l (Reps.there r)
theorem Reps.there {P : Addr → Prop} {h : Heap} : ∀ {vs : List Value} {ds : List D}, Reps P h vs ds → Reps (fun a => P a ∧ (h.get? a).isSome = true) h vs ds
  | _, _, .nil => .nil
  | _, _, .cons x r => .cons (Rep.there x) (Reps.there r)
end
section
variable {P : Addr → Prop} {h : Heap} {v : Value} {vs ws : List Value} {d : D} {ds es : List D}
theorem Reps.length (r : Reps P h vs ds) : vs.length = ds.length := by
  induction vs generalizing ds with
  | nil => cases r; rfl
  | cons v vs ih => cases r with | cons _ r => rw [List.length_cons, List.length_cons, ih r]
theorem Reps.append (r : Reps P h vs ds) (q : Reps P h ws es) : Reps P h (vs ++ ws) (ds ++ es) := by
  induction vs generalizing ds with
  | nil => cases r; exact q
  | cons v vs ih => cases r with | cons x r => exact .cons x (ih r)
theorem Reps.one (x : Rep P h v d) : Reps P h [v] [d] := .cons x .nil
theorem Reps.get (r : Reps P h vs ds) (k : Nat) (d₀ : D) (hk : k < ds.length) : ∃ v, vs[k]? = some v ∧ Rep P h v (ds.getD k d₀) := by
  induction vs generalizing ds k with
  | nil => cases r; exact absurd hk (Nat.not_lt_zero _)
  | cons v vs ih =>
    cases r with
    | cons x r =>
      cases k with
      | zero => exact ⟨v, rfl, x⟩
      | succ k => exact ih r k (Nat.lt_of_succ_lt_succ hk)
theorem Reps.drop (r : Reps P h vs ds) (k : Nat) : Reps P h (vs.drop k) (ds.drop k) := by
  induction vs generalizing ds k with
  | nil => cases r; simp; exact .nil
  | cons v vs ih =>
    cases r with
    | cons x r =>
      cases k with
      | zero => exact .cons x r
      | succ k => exact ih r k
theorem Reps.take (r : Reps P h vs ds) (k : Nat) : Reps P h (vs.take k) (ds.take k) := by
  induction vs generalizing ds k with
  | nil => cases r; simp; exact .nil
  | cons v vs ih =>
    cases r with
    | cons x r =>
      cases k with
      | zero => exact .nil
      | succ k => exact .cons x (ih r k)
theorem Reps.reverse (r : Reps P h vs ds) : Reps P h vs.reverse ds.reverse := by
  induction vs generalizing ds with
  | nil => cases r; exact .nil
  | cons v vs ih =>
    cases r with
    | cons x r => rw [List.reverse_cons, List.reverse_cons]; exact (ih r).append (.one x)
theorem Rep.list_inv (r : Rep P h v (.lst ds)) : ∃ a vs, v = .ref a ∧ P a ∧ h.IsList a vs.toArray ∧ Reps P h vs ds := by
  cases r with | lst p l r => exact ⟨_, _, rfl, p, l, r⟩
theorem Rep.int_inv {i : Int} (r : Rep P h v (.int i)) : ∃ t, v = .int i t := by cases r; exact ⟨_, rfl⟩
theorem Rep.byt_inv {ks : List Int} (r : Rep P h v (.byt ks)) : ∃ b t, v = .bytes b t ∧ KBw.bInts b = ks := by cases r with | byt t e => exact ⟨_, _, rfl, e⟩
theorem Reps.nil_inv (r : Reps P h vs []) : vs = [] := by cases r; rfl
theorem Reps.cons_inv (r : Reps P h vs (d :: ds)) : ∃ v ws, vs = v :: ws ∧ Rep P h v d ∧ Reps P h ws ds := by cases r with | cons x r => exact ⟨_, _, rfl, x, r⟩
theorem ints_rep {ns : List Int} (hi : IntsAre vs ns) : Reps P h vs (ns.map .int) := by
  induction hi with
  | nil => exact .nil
  | cons n t _ ih => exact .cons (.int n t) ih
theorem rep_ints {ns : List Int} (r : Reps P h vs (ns.map .int)) : IntsAre vs ns := by
  induction ns generalizing vs with
  | nil => cases r; exact .nil
  | cons n ns ih =>
    cases r with
    | cons x r => cases x; exact .cons _ _ (ih r)
end
mutual
noncomputable def D.depth : D → Nat
  | .int _ => 0
  | .byt _ => 0
  | .lst ds => D.depths ds + 1
noncomputable def D.depths : List D → Nat
  | [] => 0
  | d :: ds => max d.depth (D.depths ds)
end
theorem depths_get : ∀ (ds : List D) (k : Nat) (d : D), ds[k]? = some d → d.depth ≤ D.depths ds
  | [], k, d, h => by simp at h
  | x :: r, 0, d, h => by simp at h; subst h; unfold D.depths; exact Nat.le_max_left _ _
  | x :: r, k + 1, d, h => by
    have := depths_get r k d (by simpa using h)
    unfold D.depths; exact Nat.le_trans this (Nat.le_max_right _ _)
theorem bInts_inj {b c : Array UInt8} (h : KBw.bInts b = KBw.bInts c) : b = c := by
  apply Array.toList_inj.mp
  have : ∀ l m : List UInt8, l.map (fun c => ((c.toNat : Nat) : Int)) = m.map (fun c => ((c.toNat : Nat) : Int)) → l = m := by
    intro l
    induction l with
    | nil => intro m h; cases m with | nil => rfl | cons _ _ => simp at h
    | cons x r ih =>
      intro m h
      cases m with
      | nil => simp at h
      | cons y q =>
        simp only [List.map_cons, List.cons.injEq] at h
        rw [ih q h.2, UInt8.toNat_inj.mp (show x.toNat = y.toNat by omega)]
  exact this _ _ h
theorem eqBool_of {A : Around} {s : Shared} {x y : Value} (h : RcAt A s x y true) (hf : ∀ b t, x ≠ .float b t) : EqAt A s x y true := fun prog w E Q hq => by
  unfold eqBool
  refine wpAny_holding ?_
  refine wpAny_ite_split (fun hab => wpAny_bind (wpAny_rule (wpAny_pure hq))) (fun _ => ?_)
  cases x with
  | float b t => exact absurd rfl (hf b t)
  | _ => exact wpAny_bind (h prog w E _ (wpAny_truthy_bool hq))
theorem rc_list {A : Around} {s : Shared} {a b : Addr} {xs ys : Array Value} (ha : s.heap.IsList a xs) (hb : s.heap.IsList b ys) (hsz : xs.size = ys.size)
    (he : ∀ j (h1 : j < xs.size) (h2 : j < ys.size), EqAt A.in1 s xs[j] ys[j] true) (hu : A.units < cLine) : RcAt A s (.ref a) (.ref b) true := fun prog w E Q hq => by
  refine @by_no _ fun hNo9 => ?_
  obtain ⟨⟨c, dd, dt, sl⟩, ho, hc, n, hd⟩ := ha
  obtain ⟨⟨c2, dd2, dt2, sl2⟩, ho2, hc2, n2, hd2⟩ := hb
  dsimp only at hc hd hc2 hd2
  subst hc hd hc2 hd2
  refine hNo9 ?_
  clear hNo9
  refine wpAny_richCompare_same_room (op := .Eq) (T := "list") ⟨_, ho, rfl⟩ ⟨_, ho2, rfl⟩ F.slot_list_eq (call_meets F.slot_list_eq ⟨_, ho, rfl⟩ F.entry_list_eq (F.args_list_eq_2 _ _) (list_eqAt a b xs ys n n2 dd dd2 sl sl2 hsz (fun _ => true)) ⟨ho, ho2, he, ?_⟩) hu
  rw [show ((List.range xs.size).all fun _ => true) = true by simp]
  exact ⟨nofun, hq⟩
theorem rc_ne_list {A : Around} {s : Shared} {a b : Addr} {xs ys : Array Value} (ha : s.heap.IsList a xs) (hb : s.heap.IsList b ys) (hsz : xs.size = ys.size)
    (he : ∀ j (h1 : j < xs.size) (h2 : j < ys.size), EqAt A.in1 s xs[j] ys[j] true) (hu : A.units < cLine) : RcNeAt A s (.ref a) (.ref b) false := fun prog w E Q hq => by
  refine @by_no _ fun hNo9 => ?_
  obtain ⟨⟨c, dd, dt, sl⟩, ho, hc, n, hd⟩ := ha
  obtain ⟨⟨c2, dd2, dt2, sl2⟩, ho2, hc2, n2, hd2⟩ := hb
  dsimp only at hc hd hc2 hd2
  subst hc hd hc2 hd2
  refine hNo9 ?_
  clear hNo9
  refine wpAny_richCompare_same_room (op := .NotEq) (T := "list") ⟨_, ho, rfl⟩ ⟨_, ho2, rfl⟩ F.slot_list_ne (call_meets F.slot_list_ne ⟨_, ho, rfl⟩ F.entry_list_ne (F.args_list_ne_2 _ _) (list_neAt a b xs ys n n2 dd dd2 sl sl2 hsz (fun _ => true)) ⟨ho, ho2, he, ?_⟩) hu
  rw [show ((List.range xs.size).all fun _ => true) = true by simp]
  exact ⟨nofun, hq⟩
theorem eq_items {A : Around} {s : Shared} {P P' : Addr → Prop} {vs ws : List Value} {ds : List D} (r : Reps P s.heap vs ds) (q : Reps P' s.heap ws ds)
    (ih : ∀ v w d, d ∈ ds → Rep P s.heap v d → Rep P' s.heap w d → EqAt A.in1 s v w true) : ∀ j (h1 : j < vs.toArray.size) (h2 : j < ws.toArray.size), EqAt A.in1 s vs.toArray[j] ws.toArray[j] true := by
  intro j h1 h2
  have l1 := r.length
  have hj : j < ds.length := by simpa [l1] using h1
  obtain ⟨v, e1, r1⟩ := r.get j (.int 0) hj
  obtain ⟨w, e2, r2⟩ := q.get j (.int 0) hj
  have hm : ds.getD j (.int 0) ∈ ds := by rw [List.getD_eq_getElem?_getD, List.getElem?_eq_getElem hj]; exact List.getElem_mem hj
  have a1 : vs.toArray[j] = v := by simpa using (List.getElem?_eq_some_iff.mp e1).2
  have a2 : ws.toArray[j] = w := by simpa using (List.getElem?_eq_some_iff.mp e2).2
  rw [a1, a2]
  exact ih v w _ hm r1 r2
theorem depth_mem {d : D} {ds : List D} (h : d ∈ ds) : d.depth ≤ D.depths ds := by
  obtain ⟨k, hk⟩ := List.mem_iff_getElem?.mp h
  exact depths_get ds k d hk
theorem eq_rep {s : Shared} {P P' : Addr → Prop} : ∀ (n : Nat) (A : Around) (v w : Value) (d : D), d.depth ≤ n → A.units + n < cLine → Rep P s.heap v d → Rep P' s.heap w d → EqAt A s v w true := by
  intro n
  induction n with
  | zero =>
    intro A v w d hn hu r q
    cases d with
    | int i =>
      obtain ⟨t, rfl⟩ := r.int_inv
      obtain ⟨t', rfl⟩ := q.int_inv
      have := EqAt.int_int (A := A) (s := s) i t i t'
      rwa [beq_self_eq_true] at this
    | byt ks =>
      refine @by_no _ fun hNo9 => ?_
      obtain ⟨b, t, rfl, e⟩ := r.byt_inv
      obtain ⟨b', t', rfl, e'⟩ := q.byt_inv
      obtain rfl := bInts_inj (e.trans e'.symm)
      refine hNo9 ?_
      clear hNo9
      refine eqBool_of (fun prog w E Q hq => ?_) (fun _ _ => nofun)
      exact eq_bytes (E := E) (t := t) (u := t') (by rw [beq_self_eq_true]; exact hq)
    | lst ds => unfold D.depth at hn; omega
  | succ n ih =>
    intro A v w d hn hu r q
    cases d with
    | int i =>
      obtain ⟨t, rfl⟩ := r.int_inv
      obtain ⟨t', rfl⟩ := q.int_inv
      have := EqAt.int_int (A := A) (s := s) i t i t'
      rwa [beq_self_eq_true] at this
    | byt ks =>
      refine @by_no _ fun hNo9 => ?_
      obtain ⟨b, t, rfl, e⟩ := r.byt_inv
      obtain ⟨b', t', rfl, e'⟩ := q.byt_inv
      obtain rfl := bInts_inj (e.trans e'.symm)
      refine hNo9 ?_
      clear hNo9
      refine eqBool_of (fun prog w E Q hq => ?_) (fun _ _ => nofun)
      exact eq_bytes (E := E) (t := t) (u := t') (by rw [beq_self_eq_true]; exact hq)
    | lst ds =>
      refine @by_no _ fun hNo9 => ?_
      obtain ⟨a, vs, rfl, _, la, ra⟩ := r.list_inv
      obtain ⟨b, ws, rfl, _, lb, rb⟩ := q.list_inv
      refine hNo9 ?_
      clear hNo9
      refine eqBool_of (rc_list la lb (by simp [ra.length, rb.length]) (eq_items ra rb ?_) (by omega)) (fun _ _ => nofun)
      intro v w d hd r1 r2
      refine ih A.in1 v w d ?_ (by rw [Around.in1_units]; omega) r1 r2
      have := depth_mem hd
      unfold D.depth at hn; omega
/-- `!=` of two lists that bear the same data is False -/
theorem ne_rep {prog : Program} {w : World} {A : Around} {E : Value → Shared → Prop} {Q : Value → Shared → Prop} {s : Shared} {P P' : Addr → Prop} {a b : Value} {ds : List D} (r : Rep P s.heap a (.lst ds)) (q : Rep P' s.heap b (.lst ds)) (hn : D.depths ds ≤ 10) (hu : A.units + 20 < cLine)
    (h : Q (.bool false) s) : wpAny (model prog w) A (compareOp .NotEq a b) Q E s := by
  refine @by_no _ fun hNo9 => ?_
  obtain ⟨a, vs, rfl, _, la, ra⟩ := r.list_inv
  obtain ⟨b, ws, rfl, _, lb, rb⟩ := q.list_inv
  refine hNo9 ?_
  clear hNo9
  refine rc_ne_list la lb (by simp [ra.length, rb.length]) (eq_items ra rb ?_) (by omega) prog w E Q h
  intro v w d hd r1 r2
  refine eq_rep 10 A.in1 v w d ?_ (by rw [Around.in1_units]; omega) r1 r2
  exact Nat.le_trans (depth_mem hd) hn

theorem begin_B12 : True := by
  w_on
  w_top off
  k_with_none
  k_with "om" => (law_clear; first | with_reducible assumption | (law_purse 20000 => grind))
  k_with "guard" => skip
  trivial
set_option maxHeartbeats 8000000
/-- the contract of a def that may turn the objects at X -/
noncomputable def SpecH (f : Addr) (pos : List Value) (k : Nat) (X : Addr → Prop) (pre : Heap → Prop) (post : Heap → Value → Heap → Prop) : Prop :=
  ∀ (dp un : Nat) (fr : Option (List Env)) (gd : Option (List Code)) (hs : Heap) (gens : Array GenState) (drawn : Drawn) (toks : Nat) (os : OsState) (Q E : Value → Shared → Prop), (hd.heap_1 w.params).In hs → Top p loose mean mg mb hs → pre hs → dp + k < recursionLimit → un + 8 * k < cLine →
    (∀ v h' tk', (∀ b o, ¬ X b → hs.get? b = some o → h'.get? b = some o) → post hs v h' → Q v ⟨h', gens, drawn, tk', os⟩) → wpAny (model PySem.Challenge.rw_qh0094_01.row.prog w) (Ar dp un fr gd) (call (.ref f) pos) Q E ⟨hs, gens, drawn, toks, os⟩
noncomputable abbrev NoX : Addr → Prop := fun _ => False
theorem use_specH {f : Addr} {pos : List Value} {k : Nat} {pre : Heap → Prop} {post : Heap → Value → Heap → Prop}
    {dp un : Nat} {fr : Option (List Env)} {gd : Option (List Code)} {s : Shared} {Q E : Value → Shared → Prop} {h₀ : Heap} {L : Addr} {m : Str → Option Value} {news : List (Addr × Obj)}
    (C : SpecH f pos k NoX pre post) (F : Fr h₀ L s.heap m) (N : News h₀ L s.heap news) (X : (hd.heap_1 w.params).In h₀) (T : Top p loose mean mg mb h₀)
    (hp : pre s.heap) (hd : dp + k < recursionLimit) (hu : un + 8 * k < cLine)
    (h : ∀ v h' tk', Fr h₀ L h' m → News h₀ L h' news → s.heap.StaysIn h' → post s.heap v h' → Q v { s with heap := h', toks := tk' }) :
    wpAny (model PySem.Challenge.rw_qh0094_01.row.prog w) (Ar dp un fr gd) (call (.ref f) pos) Q E s :=
  C dp un fr gd s.heap s.gens s.drawn s.toks s.os Q E (X.keeps F.keep) (T.keeps F.keep) hp hd hu fun v h' tk' st hq => h v h' tk' (Fr.stays F fun b o e => st b o id e) (News.stays N fun b o e => st b o id e) (fun b o e => st b o id e) hq
theorem kw_B12_1 : True := by
  k_with_none
  k_with "om" => (law_clear; first | with_reducible assumption | (law_purse 20000 => grind))
  k_with "eval BinOp" => (k_here; (with_reducible show wpAny _ _ (eval (Expr.BinOp (Expr.Name _ _) _ (Expr.Constant (Const.int _) _ _) _) _) _ _ _); k_dflt (refine binNC (by k_asm) (by rfl) ?_ (by rfl) (by rfl) (by decide)); (try dsimp only))
  k_with "eval BinOp" => (k_here; (with_reducible show wpAny _ _ (eval (Expr.BinOp (Expr.Name _ _) _ (Expr.Name _ _) _) _) _ _ _); k_dflt (refine binNN (by k_asm) (by rfl) (by rfl) ?_ (by rfl) (by rfl) (by rfl) (by decide) (by decide)); (try dsimp only))
  k_with "isTrue Compare" => (k_here; (with_reducible show wpAny _ _ (isTrue (Expr.Compare (Expr.Name _ _) [_] [Expr.Constant (Const.int _) _ _] _) _ _) _ _ _); k_dflt (refine isNC (by k_asm) (by rfl) ?_ (by rfl) (by rfl) (by decide) (by with_unfolding_all rfl)); (try dsimp only))
  k_with "guard" => skip
  k_with "call ref" => ((k_here; (with_reducible show wpAny _ _ (call (Value.ref 220) _ _) _ _ _); k_dflt (refine use_spec (sp_read _ _ (by assumption) _ _ _ _ _ _ (by assumption) (by first | omega | (simp only [List.length_drop]; omega)) (by assumption)) (by k_asm) (by k_asm) (by k_asm) (by k_asm) (by trivial) (by (dsimp only [Around.deeper]; omega)) (by (dsimp only [Around.deeper]; omega)) ?_; k_whole); intro v' h' tk' F' N' st' hv'; obtain ⟨r', t', hv', hr'⟩ := hv'; subst hv'; clear st'); (try (revert h' tk' F' N' r' t' hr'; intros)))
  trivial
theorem tail4 {r : Array UInt8} {ks : List Int} (h : KBw.bInts r = (ks.drop ((some (-4 : Int)).elim 0 (clipAt ks.length))).take ((none : Option Int).elim ks.length (clipAt ks.length) - (some (-4 : Int)).elim 0 (clipAt ks.length))) : KBw.bInts r = ks.drop (ks.length - 4) := by
  rw [h]; simp only [Option.elim, clip_m4]
  exact List.take_of_length_le (by rw [List.length_drop]; omega)
theorem head4 {r : Array UInt8} {ks : List Int} (h : KBw.bInts r = (ks.drop ((none : Option Int).elim 0 (clipAt ks.length))).take ((some (-4 : Int)).elim ks.length (clipAt ks.length) - (none : Option Int).elim 0 (clipAt ks.length))) : KBw.bInts r = ks.take (ks.length - 4) := by
  rw [h]; simp only [Option.elim, clip_m4, List.drop_zero, Nat.sub_zero]
theorem kw_B12_2 : True := by
  k_with "subscriptTail" => ((k_here; (with_reducible show wpAny _ _ (subscriptTail _ (Expr.Slice _ _ none _) (Value.bytes _ _) (Value.ref _)) _ _ _); (with_reducible rename Fr _ _ _ _ => F'); (with_reducible rename News _ _ _ _ => N'); (refine KBc.slice_K (s := ⟨_, _, _, _, _⟩) F' N' (by kba_ints) (by constructor) (by constructor) (by kba_size) ?_); intro _ _ _ _ _ kbcK; first | replace kbcK := tail4 kbcK | replace kbcK := head4 kbcK); (try (revert kbcK; intros)))
  k_with "assign Tuple" => ((k_here; k_dflt (refine kun_list (by k_asm) (by k_asm) (by is_list) (by rfl) (by rfl) (by rfl) ?_; k_whole); intro h' F' N'; (try dsimp only)); (try (revert h' F' N'; intros)))
  k_with "call ref" => ((k_here; (with_reducible show wpAny _ _ (call (Value.ref 213) _ _) _ _ _); k_dflt (refine use_spec (sp_write _ _ (by assumption) _ _ _ _ _ _ (by kba_ints) (by first | omega | (simp only [List.length_append]; omega))) (by k_asm) (by k_asm) (by k_asm) (by k_asm) (by trivial) (by (dsimp only [Around.deeper]; omega)) (by (dsimp only [Around.deeper]; omega)) ?_; k_whole); intro v' h' tk' F' N' st' hv'; obtain ⟨r', t', hv', hr'⟩ := hv'; subst hv'; clear st'); (try (revert h' tk' F' N' r' t' hr'; intros)))
  trivial
noncomputable def joinL (k1 k2 x y : Int) (w1 w2 : List Int) : List Int := w1.take (w1.length - 4) ++ encK k1 x y (decK k1 x y (w1.drop (w1.length - 4)) ++ decK k2 x y w2)
structure JoinOk (k1 k2 x y : Int) (w1 w2 : List Int) : Prop where
  hk1 : k1 = 0 ∨ k1 = 1 ∨ k1 = 2 ∨ k1 = 3
  hk2 : k2 = 0 ∨ k2 = 1 ∨ k2 = 2 ∨ k2 = 3
  hz1 : w1.length ≤ 1000
  hz2 : w2.length ≤ 1000
  ok1 : okK k1 x y (w1.drop (w1.length - 4))
  ok2 : okK k2 x y w2
  l1 : (decK k1 x y (w1.drop (w1.length - 4))).length ≤ 1000
  l2 : (decK k2 x y w2).length ≤ 1000
  l3 : (encK k1 x y (decK k1 x y (w1.drop (w1.length - 4)) ++ decK k2 x y w2)).length ≤ 10000
theorem sp_join  (x y : UInt8) (tp : Tok) (a1 a2 : Addr) (k1 k2 : Int) (t1 t2 u1 u2 : Tok) (b1 b2 : Array UInt8) (w1 w2 : List Int) (hb1 : KBw.bInts b1 = w1) (hb2 : KBw.bInts b2 = w2) (ok : JoinOk k1 k2 x.toNat y.toNat w1 w2) :
    SpecH 227 [.bytes #[x, y] tp, .ref a1, .ref a2] 7 NoX (fun h => h.IsList a1 [Value.int k1 t1, .bytes b1 u1].toArray ∧ h.IsList a2 [Value.int k2 t2, .bytes b2 u2].toArray) (fun h v h' => ∃ a r t, v = .ref a ∧ h.get? a = none ∧ h'.IsList a [Value.int k1 t1, .bytes r t].toArray ∧ KBw.bInts r = joinL k1 k2 x.toNat y.toNat w1 w2) := by
  refine @by_no _ fun hNo9 => ?_
  obtain ⟨hk1, hk2, hz1, hz2, hok1, hok2, hle1, hle2, hle3⟩ := ok
  refine hNo9 ?_
  clear hNo9
  intro dp un fr gd h₀ gens drawn toks os Q E X T hp hd hu hret
  revert X; k_fill; intro X
  try dsimp only at hp hret
  k_dflt (refine' enter_def ?k1 ?k2 ?k6 ?k7 ?k8 ?k9 ?kB ?_ ?c2 ?c3 ?c4 ?c5; (case k1 => exact X); (case k2 => exact T); (case k6 => k_is); (case k7 => k_is); (case k8 => (show dp < _; omega)); (case k9 => first | exact BindsTo.of_eq rfl | exact binds_K X rfl (by k_is) rfl rfl rfl); (case kB => exact locs rfl); (case c2 => exact rfl); (case c3 => exact rfl); (case c4 => exact rfl); (case c5 => decide))
  intro L h₁ tk F N
  dsimp only at F N ⊢
  k_fold
  obtain ⟨hl1, hl2⟩ := hp
  k_steps
  rename Fr _ _ _ _ => F2
  rename News _ _ _ _ => N2
  exact hret _ _ _ (fun b o _ e => F2.keep b o e) ⟨_, _, _, rfl, (N2 _ (.head _)).2.2, News.isList N2 (.head _), by unfold joinL; assumption⟩

theorem begin_B13 : True := by
  w_on
  w_top off
  k_with_none
  k_with "om" => (law_clear; first | with_reducible assumption | (law_purse 20000 => grind))
  k_with "guard" => skip
  trivial
set_option maxHeartbeats 4000000
/-- everything that the heap bears beyond the frame and the named entries, as a tail of the ledger -/
theorem rebase {h₀ h : Heap} {L : Addr} {m : Str → Option Value} (F : Fr h₀ L h m) {lits : List (Addr × Obj)} (N : News h₀ L h lits) :
    ∃ led, News h₀ L h (lits ++ led) ∧ OwnOff led (lits.map (·.1)) ∧ ∀ a o, h.get? a = some o → a ≠ L → a ∉ lits.map (·.1) → h₀.get? a = none → (a, o) ∈ led := by
  let led := (List.range h.objs.size).filterMap fun a => match h.get? a with
    | some o => if a ≠ L ∧ a ∉ lits.map (·.1) ∧ h₀.get? a = none then some (a, o) else none
    | none => none
  have hm : ∀ p ∈ led, h.get? p.1 = some p.2 ∧ p.1 ≠ L ∧ p.1 ∉ lits.map (·.1) ∧ h₀.get? p.1 = none := by
    intro p hp
    obtain ⟨a, _, ha⟩ := List.mem_filterMap.mp hp
    cases e : h.get? a with
    | none => rw [e] at ha; cases ha
    | some o =>
      rw [e] at ha
      dsimp only at ha
      split at ha
      · rename_i hc
        cases ha
        exact ⟨e, hc.1, hc.2.1, hc.2.2⟩
      · cases ha
  refine ⟨led, fun p hp => ?_, fun p hp b hb e => (hm p hp).2.2.1 (e ▸ hb), fun a o e hL hl hn => ?_⟩
  · rcases List.mem_append.mp hp with hp | hp
    · exact N p hp
    · exact ⟨(hm p hp).1, (hm p hp).2.1, (hm p hp).2.2.2⟩
  · refine List.mem_filterMap.mpr ⟨a, List.mem_range.mpr (Heap.lt_size e), ?_⟩
    rw [e]
    dsimp only
    rw [if_pos ⟨hL, hl, hn⟩]
theorem based {h₀ h h' : Heap} {L : Addr} {m m' : Str → Option Value} {lits led news' : List (Addr × Obj)} (F : Fr h₀ L h m) (F' : Fr h₀ L h' m') (N' : News h₀ L h' news') (hs : ∀ p ∈ led, p ∈ news')
    (hl : ∀ a o, h.get? a = some o → a ≠ L → a ∉ lits.map (·.1) → h₀.get? a = none → (a, o) ∈ led) : ∀ a o, h.get? a = some o → a ≠ L → a ∉ lits.map (·.1) → h'.get? a = some o := by
  intro a o e hL hn
  cases hb : h₀.get? a with
  | some o' =>
    have := F.keep a o' hb
    rw [e] at this
    cases this
    exact F'.keep a o hb
  | none => exact (N' _ (hs _ (hl a o e hL hn hb))).1
theorem isList_ne {h : Heap} {L a : Addr} {m : Str → Option Value} {items : Array Value} (hn : h.Ns L m) (x : h.IsList a items) : a ≠ L := by
  rintro rfl
  obtain ⟨o, es, ep, hL, hd, _⟩ := hn
  obtain ⟨o2, ho2, _, n, hd2⟩ := x
  rw [hL] at ho2
  cases ho2
  rw [hd] at hd2
  cases hd2

section
variable {w : World} {A : Around} {s : Shared} {p : Program} {loose : List Str} {mean : ExcName → Option Value} {mg mb : Str → Option Value}
  {name qual : Str} {params : Arguments} {body : List Stmt} {scope : Scope} {dV kV doc pm cdv ct oc : Value} {an od : Option Addr} {osl : Array (Option Value)} {f : Addr} {pos : List Value} {kw : List (Str × Value)} {binds : List (Str × Value)}
/-- a def entered where the object at `noted` may be turned -/
theorem enter_defN {Q E : Value → Shared → Prop} {hb : Heap} {noted : Addr} {on : Obj} (X : (hd.heap_1 w.params).In hb) (T : Top p loose mean mg mb hb) (st : hb.StaysIn s.heap) (hn : hb.get? noted = none) (hno : s.heap.get? noted = some on)
    (ho : (hd.heap_1 w.params).lookup f = some ⟨oc, od, .func (fnOf name qual params body scope dV kV doc pm an cdv ct), osl⟩) (hcd : codeIn (hd.heap_1 w.params) cdv qual = true) (hroom : A.depth < recursionLimit)
    (hbind : BindsTo s (fnOf name qual params body scope dV kV doc pm an cdv ct) ⟨pos, kw⟩ binds) (hloc : ∀ y ∈ binds, scope.names.lookup y.1 = some .local)
    (h : ∀ g L h₁ tk, (hd.heap_1 w.params).In g → Top p loose mean mg mb g → (∀ b o, b ≠ noted → s.heap.get? b = some o → g.get? b = some o) → Fr g L h₁ (fun y => binds.reverse.lookup y) → News g L h₁ [(noted, on)] → (∀ b o, g.get? b = some o → s.heap.get? b = some o) →
      wpAny (model PySem.Challenge.rw_qh0094_01.row.prog w) (A.deeper (envOf qual scope L f cdv)) (execs body (envOf qual scope L f cdv))
        (fun fl s' => Q (match fl with | .ret v => v | _ => .none) s') (fun _ _ => False) { s with heap := h₁, toks := tk })
    (hco : scope.isCoroutine = false) (hgen : scope.isGenerator = false) (hk : scope.kind = .function)
    (hcell : ∀ x ∈ scope.names, x.2 ≠ .cell) : wpAny (model PySem.Challenge.rw_qh0094_01.row.prog w) A (call (.ref f) pos kw) Q E s := by
  refine wpAny_call ?_
  have hst : hb.StaysIn (hideAll s.heap [noted]) := fun b o e => hideAll_get _ (st b o e) (by
    intro hm
    rw [List.mem_singleton.mp hm, hn] at e
    cases e)
  refine codeAny_call_def (fd := fnOf name qual params body scope dV kV doc pm an cdv ct) (body := body) (binds := binds) hroom ((X.keeps st) _ _ ho) rfl (T.keeps st).nolimit (codeRec_of (X.keeps st) hcd) rfl hbind hcell hloc (fun h₁ hns hk₁ => ?_) hco hgen hk
  refine wpAny_mono (h (hideAll s.heap [noted]) s.heap.objs.size h₁ _ (X.keeps hst) (T.keeps hst) (fun b o hb e => hideAll_get _ e (by simpa using hb)) ⟨hns, fun b o e => hk₁ b o (of_hideAll _ e), Nat.le_of_eq (hideAll_size _ _)⟩ (fun q hq => ?_) (fun b o e => of_hideAll _ e)) (fun _ _ x => x) (fun _ _ x => x.elim)
  rw [List.mem_singleton.mp hq]
  exact ⟨hk₁ _ _ hno, Nat.ne_of_lt (Heap.lt_size hno), hideAll_none _ (List.mem_singleton.mpr rfl)⟩
end
/-- the contract of a def that turns the list at `noted` alone, over a base that lacks it -/
noncomputable def SpecN (f : Addr) (pos : List Value) (k : Nat) (noted : Addr) (pre : Heap → Prop) (post : Heap → Value → Heap → Prop) : Prop :=
  ∀ (dp un : Nat) (fr : Option (List Env)) (gd : Option (List Code)) (hs : Heap) (gens : Array GenState) (drawn : Drawn) (toks : Nat) (os : OsState) (Q E : Value → Shared → Prop) (hb : Heap), (hd.heap_1 w.params).In hb → Top p loose mean mg mb hb → hb.StaysIn hs → hb.get? noted = none → pre hs → dp + k < recursionLimit → un + 8 * k < cLine →
    (∀ v h' tk', (∀ b o, b ≠ noted → hs.get? b = some o → h'.get? b = some o) → post hs v h' → Q v ⟨h', gens, drawn, tk', os⟩) → wpAny (model PySem.Challenge.rw_qh0094_01.row.prog w) (Ar dp un fr gd) (call (.ref f) pos) Q E ⟨hs, gens, drawn, toks, os⟩

theorem begin_B14 : True := by
  w_on
  w_top off
  k_with_none
  k_with "om" => (law_clear; first | with_reducible assumption | (law_purse 20000 => grind))
  k_with "guard" => skip
  trivial
set_option maxHeartbeats 8000000
theorem fresh_of {hs g : Heap} {noted a : Addr} (hg : ∀ b o, b ≠ noted → hs.get? b = some o → g.get? b = some o) (hn : g.get? a = none) (hne : a ≠ noted) : hs.get? a = none := by
  cases e : hs.get? a with
  | none => rfl
  | some o => exact absurd rfl (some_ne hn (hg a o hne e))
theorem tailW {r : Array UInt8} {ks : List Int} {n : Nat} (h : KBw.bInts r = (ks.drop ((some ((n : Int).fdiv 4 * 4)).elim 0 (clipAt ks.length))).take ((none : Option Int).elim ks.length (clipAt ks.length) - (some ((n : Int).fdiv 4 * 4)).elim 0 (clipAt ks.length))) (hn : n = ks.length) : KBw.bInts r = ks.drop (ks.length / 4 * 4) := by
  subst hn
  rw [h]; simp only [Option.elim, clip_w]
  exact List.take_of_length_le (by rw [List.length_drop]; omega)
theorem headW {r : Array UInt8} {ks : List Int} {n : Nat} (h : KBw.bInts r = (ks.drop ((none : Option Int).elim 0 (clipAt ks.length))).take ((some ((n : Int).fdiv 4 * 4)).elim ks.length (clipAt ks.length) - (none : Option Int).elim 0 (clipAt ks.length))) (hn : n = ks.length) : KBw.bInts r = ks.take (ks.length / 4 * 4) := by
  subst hn
  rw [h]; simp only [Option.elim, clip_w, List.drop_zero, Nat.sub_zero]
theorem kw_B14_1 : True := by
  k_with_none
  k_with "om" => (law_clear; first | with_reducible assumption | (law_purse 20000 => grind))
  k_with "eval BinOp" => (k_here; (with_reducible show wpAny _ _ (eval (Expr.BinOp (Expr.Name _ _) _ (Expr.Constant (Const.int _) _ _) _) _) _ _ _); k_dflt (refine binNC (by k_asm) (by rfl) ?_ (by rfl) (by rfl) (by decide)); (try dsimp only))
  k_with "eval BinOp" => (k_here; (with_reducible show wpAny _ _ (eval (Expr.BinOp (Expr.Name _ _) _ (Expr.Name _ _) _) _) _ _ _); k_dflt (refine binNN (by k_asm) (by rfl) (by rfl) ?_ (by rfl) (by rfl) (by rfl) (by decide) (by decide)); (try dsimp only))
  k_with "isTrue Compare" => (k_here; (with_reducible show wpAny _ _ (isTrue (Expr.Compare (Expr.Name _ _) [_] [Expr.Constant (Const.int _) _ _] _) _ _) _ _ _); k_dflt (refine isNC (by k_asm) (by rfl) ?_ (by rfl) (by rfl) (by decide) (by with_unfolding_all rfl)); (try dsimp only))
  k_with "guard" => skip
  k_with "subscriptTail" => ((k_here; (with_reducible show wpAny _ _ (subscriptTail _ (Expr.Slice (some _) none none _) (Value.bytes _ _) (Value.ref _)) _ _ _); (with_reducible rename Fr _ _ _ _ => F'); (with_reducible rename News _ _ _ _ => N'); (refine KBc.slice_K (s := ⟨_, _, _, _, _⟩) F' N' (by kba_ints) (by constructor) (by constructor) (by kba_size) ?_); intro _ _ _ _ _ kbcK; (with_reducible replace kbcK := tailW kbcK (by rw [List.length_append]))); (try (revert kbcK; intros)))
  k_with "subscriptTail" => ((k_here; (with_reducible show wpAny _ _ (subscriptTail _ (Expr.Slice none (some _) none _) (Value.bytes _ _) (Value.ref _)) _ _ _); (with_reducible rename Fr _ _ _ _ => F'); (with_reducible rename News _ _ _ _ => N'); (refine KBc.slice_K (s := ⟨_, _, _, _, _⟩) F' N' (by kba_ints) (by constructor) (by constructor) (by kba_size) ?_); intro _ _ _ _ _ kbcK; (with_reducible replace kbcK := headW kbcK (by rw [List.length_append]))); (try (revert kbcK; intros)))
  k_with "call ref" => ((k_here; (with_reducible show wpAny _ _ (call (Value.ref 220) _ _) _ _ _); k_dflt (refine use_spec (sp_read _ _ (by assumption) _ _ _ _ _ _ (by assumption) (by first | omega | (simp only [List.length_take, List.length_append]; omega)) (by assumption)) (by k_asm) (by k_asm) (by k_asm) (by k_asm) (by trivial) (by (dsimp only [Around.deeper]; omega)) (by (dsimp only [Around.deeper]; omega)) ?_; k_whole); intro v' h' tk' F' N' st' hv'; obtain ⟨r', t', hv', hr'⟩ := hv'; subst hv'; clear st'; (try rw [(by assumption : decK _ _ _ _ = _)] at hr')); (try (revert h' tk' F' N' r' t' hr'; intros)))
  trivial
theorem sp_take  (kind : Int) (tkd : Tok) (hk : kind = 0 ∨ kind = 1 ∨ kind = 2 ∨ kind = 3) (x y : UInt8) (tp : Tok) (noted sa : Addr) (hne : sa ≠ noted) (nv : List Value) (nn : Nat) (hnv : nv.length ≤ 1000) (b0 b1 bp : Array UInt8) (u0 u1 up : Tok) (w0 w1 wp : List Int)
    (hb0 : KBw.bInts b0 = w0) (hb1 : KBw.bInts b1 = w1) (hbp : KBw.bInts bp = wp) (hz0 : w0.length ≤ 1000) (hz1 : w1.length ≤ 1000) (hzp : wp.length ≤ 1000)
    (hok : okK kind x.toNat y.toNat ((w0 ++ wp).take ((w0 ++ wp).length / 4 * 4))) (hdl : (decK kind x.toNat y.toNat ((w0 ++ wp).take ((w0 ++ wp).length / 4 * 4))).length ≤ 10000) :
    SpecN 241 [.int kind tkd, .bytes #[x, y] tp, .ref noted, .ref sa, .bytes bp up] 7 noted
      (fun h => h.get? noted = some (listOf nv.toArray nn) ∧ h.IsList sa [Value.bytes b0 u0, .bytes b1 u1].toArray)
      (fun h v h' => ∃ a r1 t1 r2 t2 n', v = .ref a ∧ h.get? a = none ∧ h'.IsList a [Value.bytes r1 t1, .bytes r2 t2].toArray ∧ KBw.bInts r1 = (w0 ++ wp).drop ((w0 ++ wp).length / 4 * 4) ∧
        KBw.bInts r2 = w1 ++ decK kind x.toNat y.toNat ((w0 ++ wp).take ((w0 ++ wp).length / 4 * 4)) ∧ h'.get? noted = some (listOf (nv ++ [Value.ref a]).toArray n')) := by
  intro dp un fr gd hs gens drawn toks os Q E hbs X0 T0 st0 hn0 hp hd hu hret
  revert X0; k_fill; intro X0
  try dsimp only at hp hret
  obtain ⟨hno, hp⟩ := hp
  k_dflt (refine' enter_defN X0 T0 st0 hn0 hno ?k6 ?k7 ?k8 ?k9 ?kB ?_ ?c2 ?c3 ?c4 ?c5; (case k6 => k_is); (case k7 => k_is); (case k8 => (show dp < _; omega)); (case k9 => exact BindsTo.of_eq rfl); (case kB => exact locs rfl); (case c2 => exact rfl); (case c3 => exact rfl); (case c4 => exact rfl); (case c5 => decide))
  intro g L h₁ tk X T hg F N hg2
  dsimp only at hg F N hg2 ⊢
  k_fold
  have hl : g.IsList sa [Value.bytes b0 u0, .bytes b1 u1].toArray := isList_keep hp fun o e => hg _ o hne e
  obtain ⟨dv, hdv⟩ : ∃ dv, decK kind x.toNat y.toNat ((w0 ++ wp).take ((w0 ++ wp).length / 4 * 4)) = dv := ⟨_, rfl⟩
  rw [hdv] at hdl hret
  k_steps
  rename Fr _ _ _ _ => F2
  rename News _ _ _ _ => N2
  simp only [List.push_toArray] at N2
  exact hret _ _ _ (fun b o hb e => F2.keep b o (hg b o hb e)) ⟨_, _, _, _, _, _, rfl, fresh_of hg (N2 _ (.head _)).2.2 (by refine neN ?_; omega), News.isList N2 (.head _), by assumption, by assumption, (N2 _ (.tail _ (.head _))).1⟩

theorem begin_B15 : True := by
  w_on
  w_top off
  k_with_none
  k_with "om" => (law_clear; first | with_reducible assumption | (law_purse 20000 => grind))
  k_with "guard" => skip
  trivial
set_option maxHeartbeats 4000000
/-- `led` bears all of `h` beyond the base `g`, the frame `L` and the addresses `lits` -/
structure Base (g : Heap) (L : Addr) (lits : List Addr) (h : Heap) (led : List (Addr × Obj)) : Prop where
  keep : ∀ a o, g.get? a = some o → h.get? a = some o
  full : ∀ a o, h.get? a = some o → a ≠ L → a ∉ lits → g.get? a = none → (a, o) ∈ led
inductive Ex67 {α β γ δ ε ζ : Type} (p1 p2 p3 p4 p5 p6 p7 : α → β → γ → δ → ε → ζ → Prop) : Prop
  | mk (a : α) (b : β) (c : γ) (d : δ) (e : ε) (f : ζ) (h1 : p1 a b c d e f) (h2 : p2 a b c d e f) (h3 : p3 a b c d e f) (h4 : p4 a b c d e f) (h5 : p5 a b c d e f) (h6 : p6 a b c d e f) (h7 : p7 a b c d e f) : Ex67 p1 p2 p3 p4 p5 p6 p7
inductive Ex74 {α β γ δ ε ζ η : Type} (p1 p2 p3 p4 : α → β → γ → δ → ε → ζ → η → Prop) : Prop
  | mk (a : α) (b : β) (c : γ) (d : δ) (e : ε) (f : ζ) (g : η) (h1 : p1 a b c d e f g) (h2 : p2 a b c d e f g) (h3 : p3 a b c d e f g) (h4 : p4 a b c d e f g) : Ex74 p1 p2 p3 p4
inductive Ex25 {α β : Type} (p1 p2 p3 p4 p5 : α → β → Prop) : Prop
  | mk (a : α) (b : β) (h1 : p1 a b) (h2 : p2 a b) (h3 : p3 a b) (h4 : p4 a b) (h5 : p5 a b) : Ex25 p1 p2 p3 p4 p5
inductive Ex23 {α β : Type} (p1 p2 p3 : α → β → Prop) : Prop
  | mk (a : α) (b : β) (h1 : p1 a b) (h2 : p2 a b) (h3 : p3 a b) : Ex23 p1 p2 p3
theorem base_of {g h : Heap} {L : Addr} {m : Str → Option Value} (F : Fr g L h m) {lits : List (Addr × Obj)} (N : News g L h lits) :
    ∃ led, News g L h (lits ++ led) ∧ OwnOff led (lits.map (·.1)) ∧ Base g L (lits.map (·.1)) h led := by
  obtain ⟨led, h1, h2, h3⟩ := rebase F N
  exact ⟨led, h1, h2, ⟨F.keep, h3⟩⟩
section
variable {g h h' : Heap} {L a : Addr} {lits : List Addr} {led news' : List (Addr × Obj)} {m' : Str → Option Value} {items : Array Value} {o : Obj}
theorem Base.get (B : Base g L lits h led) (e : h.get? a = some o) (hL : a ≠ L) (hl : a ∉ lits) (F' : Fr g L h' m') (N' : News g L h' news') (hs : ∀ p ∈ led, p ∈ news') : h'.get? a = some o := by
  cases hb : g.get? a with
  | some o' =>
    have := B.keep a o' hb
    rw [e] at this
    cases this
    exact F'.keep a o hb
  | none => exact (N' _ (hs _ (B.full a o e hL hl hb))).1
theorem Base.list (B : Base g L lits h led) (x : h.IsList a items) (hL : a ≠ L) (hl : a ∉ lits) (F' : Fr g L h' m') (N' : News g L h' news') (hs : ∀ p ∈ led, p ∈ news') : h'.IsList a items := by
  obtain ⟨o, ho, r⟩ := x
  exact ⟨o, B.get ho hL hl F' N' hs, r⟩
theorem Base.kept (B : Base g L lits h led) (F' : Fr g L h' m') (N' : News g L h' news') (hs : ∀ p ∈ led, p ∈ news') : Kept (fun a => a ≠ L ∧ a ∉ lits) h h' :=
  fun _ _ p _ e => B.get e p.1 p.2 F' N' hs
end
section
variable {prog : Program} {w : World} {A : Around} {E : Value → Shared → Prop} {s : Shared} {env : Env}
/-- a for over what an iterator tells, by a word on the heap -/
theorem for_heap {target : Expr} {body : List Stmt} {Q : Flow → Shared → Prop} {I : Addr} {fp wr : List Addr} {n : Nat} {P : Nat → Value → Prop} {St : Nat → Heap → Prop} (W : Walks prog w A I fp wr n P St) (J : Nat → Heap → Prop) (i₀ : Nat) (hi₀ : i₀ ≤ n) (hst : St i₀ s.heap) (hj : J i₀ s.heap)
    (hnext : ∀ i h h', J i h → (∀ b o, b ∉ wr → h.get? b = some o → h'.get? b = some o) → J i h')
    (hgo : ∀ i v h tk (Q' : Unit → Shared → Prop) (E' : Value → Shared → Prop), St (i + 1) h → P i v → Q' () { s with heap := h, toks := tk } → wpAny (model prog w) A (letOwnedTupleGo target (.ref I) v) Q' E' { s with heap := h, toks := tk })
    (turn : ∀ i v h tk (QB : Flow → Shared → Prop), (∀ h' tk' f, (f = .next ∨ f = .cont) → J (i + 1) h' → (∀ b ∈ fp, ∀ o, h.get? b = some o → h'.get? b = some o) → QB f { s with heap := h', toks := tk' }) → (∀ s₃, Q .next s₃ → QB .brk s₃) → (∀ v s₃, Q (.ret v) s₃ → QB (.ret v) s₃) → i < n → P i v → J i h → St (i + 1) h → wpAny (model prog w) A (assign target env v) (fun _ s₂ => wpAny (model prog w) A (execs body env) QB (fun _ _ => False) s₂) (fun _ _ => False) { s with heap := h, toks := tk })
    (done : ∀ h tk, J n h → Q .next { s with heap := h, toks := tk }) :
    codeAny (model prog w) A (.forLoop target (.ref I) body [] env) (fun r s' => match r with | .ok f => Q f s' | .error e => cameBackBy (model prog w) A env E e s') s := by
  refine codeAny_forLoop_any (fun k s' => ∃ h' tk i, s' = { s with heap := h', toks := tk } ∧ St i h' ∧ J i h' ∧ i ≤ n ∧ k = n + 1 - i) ?_ (n + 1 - i₀) ⟨s.heap, s.toks, i₀, rfl, hst, hj, hi₀, rfl⟩
  intro k s' ri1
  refine @by_no _ fun hNo9 => ?_
  obtain ⟨h', tk, i, rfl, hst', hJ, hi, rfl⟩ := ri1
  refine hNo9 ?_
  clear hNo9
  by_cases hlt : i < n
  · refine W.item i _ _ _ hlt hst' fun v h₁ tk₁ hP hst₁ hk₁ => ?_
    refine hgo i v h₁ tk₁ _ _ hst₁ hP ?_
    refine wpAny_mono (turn i v h₁ tk₁ (fun f s₃ => match f with | .ret v => Q (.ret v) s₃ | .brk => Q .next s₃ | _ => ∃ h' tk', s₃ = { s with heap := h', toks := tk' } ∧ J (i + 1) h' ∧ ∀ b ∈ fp, ∀ o, h₁.get? b = some o → h'.get? b = some o) (fun h' tk' f hf a b => by rcases hf with rfl | rfl <;> exact ⟨h', tk', rfl, a, b⟩) (fun _ x => x) (fun _ _ x => x) hlt hP (hnext i _ _ hJ hk₁) hst₁) (fun _ s₂ h₂ => wpAny_mono h₂ (fun f s₃ h₃ => ?_) fun _ _ x => x.elim) fun _ _ x => x.elim
    cases f with
    | ret v => exact h₃
    | brk => exact h₃
    | cont =>
      refine @by_no _ fun hNo9 => ?_
      obtain ⟨h3, tk3, rfl, hJ3, hf3⟩ := h₃
      refine hNo9 ?_
      clear hNo9
      exact ⟨n + 1 - (i + 1), by omega, h3, tk3, i + 1, rfl, W.frame _ _ _ hst₁ hf3, hJ3, hlt, rfl⟩
    | next =>
      refine @by_no _ fun hNo9 => ?_
      obtain ⟨h3, tk3, rfl, hJ3, hf3⟩ := h₃
      refine hNo9 ?_
      clear hNo9
      exact ⟨n + 1 - (i + 1), by omega, h3, tk3, i + 1, rfl, W.frame _ _ _ hst₁ hf3, hJ3, hlt, rfl⟩
  · have hin : i = n := by omega
    subst hin
    refine W.done _ _ _ hst' fun h₁ tk₁ hk₁ => wpAny_execs_nil ?_
    exact done h₁ tk₁ (hnext _ _ _ hJ hk₁)
end

theorem begin_B16 : True := by
  w_on
  w_top off
  k_with_none
  k_with "om" => (law_clear; first | with_reducible assumption | (law_purse 20000 => grind))
  k_with "guard" => skip
  trivial
set_option maxHeartbeats 8000000
noncomputable abbrev Pc := Int × List Int
noncomputable def pairD (q : Pc) : D := .lst [.int q.1, .byt q.2]
/-- the two uppermost joined; the top of the pile stands first -/
noncomputable def joinTop (x y : Int) : List Pc → List Pc
  | b :: a :: r => (a.1, joinL a.1 b.1 x y a.2 b.2) :: r
  | r => r
noncomputable def joinTops (x y : Int) : Nat → List Pc → List Pc
  | 0, st => st
  | n + 1, st => joinTops x y n (joinTop x y st)
noncomputable def TopsOk (x y : Int) : Nat → List Pc → Prop
  | 0, _ => True
  | n + 1, st => (∃ a b r, st = b :: a :: r ∧ JoinOk a.1 b.1 x y a.2 b.2) ∧ TopsOk x y n (joinTop x y st)
theorem joinTops_succ (x y : Int) : ∀ (n : Nat) (st : List Pc), joinTops x y (n + 1) st = joinTop x y (joinTops x y n st)
  | 0, _ => rfl
  | n + 1, st => by
    show joinTops x y (n + 1) (joinTop x y st) = _
    rw [joinTops_succ x y n]
    rfl
theorem TopsOk.at {x y : Int} : ∀ {n : Nat} {st : List Pc}, TopsOk x y n st → ∀ i, i < n → ∃ a b r, joinTops x y i st = b :: a :: r ∧ JoinOk a.1 b.1 x y a.2 b.2
  | 0, _, _, i, hi => absurd hi (Nat.not_lt_zero _)
  | n + 1, st, h, 0, _ => h.1
  | n + 1, st, h, i + 1, hi => TopsOk.at h.2 i (Nat.lt_of_succ_lt_succ hi)
local macro_rules | `(tactic| is_list) => `(tactic| exact Base.list (by assumption) (by assumption) (by assumption) (by assumption) (by assumption) (by assumption) (by intro p hp; simp only [List.mem_cons, hp, or_true]))
theorem kw_B16_1 : True := by
  k_with_none
  k_with "om" => (law_clear; first | with_reducible assumption | (law_purse 20000 => grind))
  k_with "eval BinOp" => (k_here; (with_reducible show wpAny _ _ (eval (Expr.BinOp (Expr.Name _ _) _ (Expr.Constant (Const.int _) _ _) _) _) _ _ _); k_dflt (refine binNC (by k_asm) (by rfl) ?_ (by rfl) (by rfl) (by decide)); (try dsimp only))
  k_with "eval BinOp" => (k_here; (with_reducible show wpAny _ _ (eval (Expr.BinOp (Expr.Name _ _) _ (Expr.Name _ _) _) _) _ _ _); k_dflt (refine binNN (by k_asm) (by rfl) (by rfl) ?_ (by rfl) (by rfl) (by rfl) (by decide) (by decide)); (try dsimp only))
  k_with "isTrue Compare" => (k_here; (with_reducible show wpAny _ _ (isTrue (Expr.Compare (Expr.Name _ _) [_] [Expr.Constant (Const.int _) _ _] _) _ _) _ _ _); k_dflt (refine isNC (by k_asm) (by rfl) ?_ (by rfl) (by rfl) (by decide) (by with_unfolding_all rfl)); (try dsimp only))
  k_with "guard" => ((fail_if_success (with_reducible show Exists _)); (fail_if_success (with_reducible show wpAny _ _ (pyIter _) _ _ _)); (fail_if_success (with_reducible show wpAny _ _ (exec (Stmt.For _ _ _ _ _) _) _ _ _)); (fail_if_success (with_reducible show wpAny _ _ (exec (Stmt.While _ _ _ _) _) _ _ _)))
  k_with "assign Tuple" => ((k_here; k_dflt (refine kun_list (by k_asm) (by k_asm) (by is_list) (by rfl) (by rfl) (by rfl) ?_; k_whole); intro h' F' N'; (try dsimp only)); (try (revert h' F' N'; intros)))
  k_with "binaryOp Add ref ref" => ((k_here; (with_reducible show wpAny _ _ (binaryOp _ (Value.ref _) (Value.ref _)) _ _ _); k_dflt (refine kmk_add_lit (by k_asm) (by k_asm) (by is_list) (by is_list) (by exact rfl) ?_ (by (simp only [sizeLine_eq, List.toList_toArray, List.length_cons, List.length_nil]; omega))); intro D' h' F' N' l1; (try k_lt l1); (try k_sweep)); (try (revert D' h' F' N' l1; intros)))
  k_with "call builtin:len" => (k_here; (with_reducible show wpAny _ _ (call (Value.builtin "len") [Value.ref _]) _ _ _); (refine len_list (by is_list) (by simp only [List.size_toArray, List.length_append, List.length_cons, List.length_nil]; omega) ?_); (try simp only [List.size_toArray, List.length_append, List.length_cons, List.length_nil]); (try k_whole))
  trivial
theorem seqIndex_m2 (us : List Value) (v1 v2 : Value) : seqIndex? (-2) (us ++ [v1, v2]).length = some us.length := by
  rw [List.length_append]; exact seq_neg (k := 2) (by decide) (Nat.le_add_left _ _)
theorem seqIndex_m1 (us : List Value) (v1 v2 : Value) : seqIndex? (-1) (us ++ [v1, v2]).length = some (us.length + 1) := by
  rw [List.length_append]; exact seq_neg (k := 1) (by decide) (Nat.le_add_left _ _)
theorem get_m2 (us : List Value) (v1 v2 : Value) : (us ++ [v1, v2])[us.length]? = some v1 := by simp
theorem get_m1 (us : List Value) (v1 v2 : Value) : (us ++ [v1, v2])[us.length + 1]? = some v2 := by simp
theorem pick_m2 (us : List Value) (v1 v2 : Value) : slicePick (us ++ [v1, v2]).toArray none (some (-2)) none = us.toArray := by
  have := slicePick_butLast (us ++ [v1, v2]).toArray 2 (by decide)
  rw [show (-((2 : Nat) : Int)) = -2 from rfl] at this
  rw [this]; simp
theorem slice_m2 {prog : Program} {w : World} {A : Around} {E : Value → Shared → Prop} {s : Shared} {h₀ : Heap} {L : Addr} {m : Str → Option Value} {news : List (Addr × Obj)} {value slice : Expr} {l : Addr} {us : List Value} {v1 v2 : Value} {t : Tok} {Q : Value → Shared → Prop}
    (F : Fr h₀ L s.heap m) (N : News h₀ L s.heap news) (hl : s.heap.IsList l (us ++ [v1, v2]).toArray) 
    (h : ∀ D h', Fr h₀ L h' m → News h₀ L h' ((D, listOf us.toArray 0) :: news) → (∀ p ∈ news, p.1 < D) → Q (.ref D) { s with heap := h' })
    (hsz : us.length ≤ 10000)
    (hs : subscripted slice false (.ref l) (.ref s.heap.objs.size) = operate [.ref s.heap.objs.size, .ref l] (getItem (.ref l) (.ref s.heap.objs.size)) := by with_unfolding_all rfl)
    (ht : ∀ r, letTemporaryGo value (.ref l) r = pure () := by intro _; with_unfolding_all rfl) :
    wpAny (model prog w) A (subscriptTail value slice (.ref l) (.ref s.heap.objs.size)) Q E { s with heap := s.heap.push { cls := .type "slice", data := .fields #[.none, .int (-2) t, .none] } } := by
  refine slice_list (lo := none) (hi := some (-2)) F N hl (by constructor) (by constructor) (fun h' F' N' => ?_) hs ht (by simp only [List.size_toArray, List.length_append, List.length_cons, List.length_nil, sizeLine_eq]; omega)
  rw [pick_m2] at N'
  exact h _ h' F' N' fun p hp => Nat.lt_succ_of_lt (Heap.lt_size (N p hp).1)
theorem joinTop_len (x y : Int) (st : List Pc) : (joinTop x y st).length ≤ st.length := by
  unfold joinTop
  split
  · simp only [List.length_cons]; omega
  · exact Nat.le_refl _
theorem joinTops_len (x y : Int) : ∀ (n : Nat) (st : List Pc), (joinTops x y n st).length ≤ st.length
  | 0, _ => Nat.le_refl _
  | n + 1, st => Nat.le_trans (joinTops_len x y n _) (joinTop_len x y st)
theorem kw_B16_2 : True := by
  k_with "subscriptTail" => ((k_here; (with_reducible show wpAny _ _ (subscriptTail _ (Expr.Slice none (some _) none _) (Value.ref _) (Value.ref _)) _ _ _); (with_reducible rename Fr _ _ _ _ => F'); (with_reducible rename News _ _ _ _ => N'); (refine slice_m2 (s := ⟨_, _, _, _, _⟩) F' N' (by is_list) ?_ (by omega)); intro D' h' F' N' l1; (try k_lt l1); (try k_sweep); (try dsimp only)); (try (revert D' h' F' N' l1; intros)))
  k_with "subscriptTail" => (k_here; (with_reducible show wpAny _ _ (subscriptTail _ _ (Value.ref _) (Value.int (-2) _)) _ _ _); (refine kde_neg (by is_list) (by decide) (by decide) (seqIndex_m2 _ _ _) (get_m2 _ _ _) ?_))
  k_with "subscriptTail Name UnaryOp ref int" => (k_here; (with_reducible show wpAny _ _ (subscriptTail _ _ (Value.ref _) (Value.int (-2) _)) _ _ _); (refine kde_neg (by is_list) (by decide) (by decide) (seqIndex_m2 _ _ _) (get_m2 _ _ _) ?_))
  k_with "subscriptTail" => (k_here; (with_reducible show wpAny _ _ (subscriptTail _ _ (Value.ref _) (Value.int (-1) _)) _ _ _); (refine kde_neg (by is_list) (by decide) (by decide) (seqIndex_m1 _ _ _) (get_m1 _ _ _) ?_))
  k_with "subscriptTail Name UnaryOp ref int" => (k_here; (with_reducible show wpAny _ _ (subscriptTail _ _ (Value.ref _) (Value.int (-1) _)) _ _ _); (refine kde_neg (by is_list) (by decide) (by decide) (seqIndex_m1 _ _ _) (get_m1 _ _ _) ?_))
  trivial
theorem news_off {g h : Heap} {L a : Addr} {news : List (Addr × Obj)} (N : News g L h news) (hf : h.get? a = none) : a ∉ news.map (·.1) := by
  intro hm
  obtain ⟨p, hp, e⟩ := List.mem_map.mp hm
  have := (N p hp).1
  rw [e, hf] at this
  cases this
theorem Fr.congr {g h : Heap} {L : Addr} {m m' : Str → Option Value} (F : Fr g L h m) (e : ∀ y, m y = m' y) : Fr g L h m' := (funext e) ▸ F
theorem lk {q k : Str} {v : Value} {r : List (Str × Value)} : List.lookup q ((k, v) :: r) = if q = k then some v else List.lookup q r := by
  rw [List.lookup_cons]
  by_cases e : q = k
  · subst e; rw [if_pos rfl, beq_self_eq_true]
  · rw [if_neg e, beq_eq_false_iff_ne.mpr e]
section
variable {P : Addr → Prop} {h : Heap} {v : Value} {vs ws : List Value} {d : D} {ds es : List D}
theorem Reps.append_inv (r : Reps P h vs (ds ++ es)) : ∃ us ws, vs = us ++ ws ∧ Reps P h us ds ∧ Reps P h ws es := by
  induction ds generalizing vs with
  | nil => exact ⟨[], vs, rfl, .nil, r⟩
  | cons d ds ih =>
    cases r with
    | cons x r =>
      obtain ⟨us, ws, e, r1, r2⟩ := ih r
      exact ⟨_ :: us, ws, by rw [e]; rfl, .cons x r1, r2⟩
end
mutual
theorem Rep.off {P : Addr → Prop} {h : Heap} {L : Addr} {m : Str → Option Value} (n : h.Ns L m) : ∀ {v : Value} {d : D}, Rep P h v d → Rep (fun a => P a ∧ a ≠ L) h v d
  | _, _, .int i t => .int i t
  | _, _, .byt t e => .byt t e
  | _, _, .lst p l r => .lst ⟨p, isList_ne n l⟩ l (Reps.off n r)
theorem Reps.off {P : Addr → Prop} {h : Heap} {L : Addr} {m : Str → Option Value} (n : h.Ns L m) : ∀ {vs : List Value} {ds : List D}, Reps P h vs ds → Reps (fun a => P a ∧ a ≠ L) h vs ds
  | _, _, .nil => .nil
  | _, _, .cons x r => .cons (Rep.off n x) (Reps.off n r)
end
theorem isRangeIter_ne {h : Heap} {I a : Addr} {x l c : Int} {items : Array Value} (hi : IsRangeIter h I x l c) (hl : h.IsList a items) : a ≠ I := by
  rintro rfl
  obtain ⟨o2, ho2, hc, n, hd2⟩ := hl
  unfold IsRangeIter at hi
  rw [hi] at ho2
  cases ho2
  cases hd2
noncomputable abbrev heapOfFr {g h : Heap} {L : Addr} {m : Str → Option Value} (_ : Fr g L h m) : Heap := h
/-- the names of _law_lay in its loop -/
noncomputable def layM (pr nt pc kd wr jn : Value) (ok : Option Value) (pl : Addr) : Str → Option Value := fun y_1 => if y_1 = Str.ofString "k" then ok else if y_1 = Str.ofString "pile" then some (Value.ref pl) else if y_1 = Str.ofString "joins" then some jn else if y_1 = Str.ofString "written" then some wr else if y_1 = Str.ofString "kind" then some kd else if y_1 = Str.ofString "piece" then some pc else if y_1 = Str.ofString "noted" then some nt else if y_1 = Str.ofString "pair" then some pr else none
theorem sp_lay  (x y : UInt8) (tp : Tok) (noted la pa : Addr) (nv lv : List Value) (nn : Nat) (hnv : nv.length ≤ 1000) (hla : la ≠ noted) (hpa : pa ≠ noted)
    (kind joins : Int) (tk0 tb tj : Tok) (b : Array UInt8) (wr : List Int) (hb : KBw.bInts b = wr) (st : List Pc) (hst : st.length ≤ 1000) (hj : 0 ≤ joins ∧ joins ≤ 1000) (ok : TopsOk x.toNat y.toNat (min joins.toNat st.length) ((kind, wr) :: st)) :
    SpecN 234 [.bytes #[x, y] tp, .ref noted, .ref la, .ref pa] 9 noted
      (fun h => h.get? noted = some (listOf nv.toArray nn) ∧ h.IsList la lv.toArray ∧ Reps (fun a => a ≠ noted) h lv (st.reverse.map pairD) ∧ h.IsList pa [Value.int kind tk0, .bytes b tb, .int joins tj].toArray)
      (fun h v h' => ∃ a n', v = .ref a ∧ Rep (fun a => a ≠ noted) h' v (.lst ((joinTops x.toNat y.toNat (min joins.toNat st.length) ((kind, wr) :: st)).reverse.map pairD)) ∧ h'.get? noted = some (listOf (nv ++ [Value.ref a]).toArray n')) := by
  intro dp un fr gd hs gens drawn toks os Q E hbs X0 T0 st0 hn0 hp hd hu hret
  revert X0; k_fill; intro X0
  try dsimp only at hp hret
  obtain ⟨hno, hp⟩ := hp
  k_dflt (refine' enter_defN X0 T0 st0 hn0 hno ?k6 ?k7 ?k8 ?k9 ?kB ?_ ?c2 ?c3 ?c4 ?c5; (case k6 => k_is); (case k7 => k_is); (case k8 => (show dp < _; omega)); (case k9 => exact BindsTo.of_eq rfl); (case kB => exact locs rfl); (case c2 => exact rfl); (case c3 => exact rfl); (case c4 => exact rfl); (case c5 => decide))
  intro g L h₁ tk X T hg F N hg2
  dsimp only at hg F N hg2 ⊢
  k_fold
  obtain ⟨hl0, hr0, hq0⟩ := hp
  have hl1 : g.IsList la lv.toArray := isList_keep hl0 fun o e => hg _ o hla e
  have hl2 : g.IsList pa [Value.int kind tk0, .bytes b tb, .int joins tj].toArray := isList_keep hq0 fun o e => hg _ o hpa e
  have hr1 : Reps (fun a => a ≠ noted) g lv (st.reverse.map pairD) := hr0.kept fun a o pa _ e => hg a o pa e
  have hlen : lv.length = st.length := by rw [hr1.length]; simp
  k_steps
  refine wpAny_For ?_
  k_steps
  rename Fr _ _ _ _ => F2
  rename News _ _ _ _ => N2
  have F3 : Fr g L _ (layM (.bytes #[x, y] tp) (.ref noted) (.ref pa) (.int kind tk0) (.bytes b tb) (.int joins tj) none _) := Fr.congr F2 (by
    intro q
    unfold layM
    by_cases e1 : q = Str.ofString "k"
    · subst e1; rfl
    · rw [if_neg e1]
      split; rfl
      split; rfl
      split; rfl
      split; rfl
      rename_i e2 e3 e4 e5
      show List.lookup q [(Str.ofString "piece", Value.ref pa), (Str.ofString "pile", Value.ref la), (Str.ofString "noted", Value.ref noted), (Str.ofString "pair", Value.bytes #[x, y] tp)] = _
      simp only [lk, if_neg e2, List.lookup_nil])
  rename IsRange _ _ _ _ _ _ _ _ => hR
  have hn : (if ((lv.length + (0 + 1) : Nat) : Int) - 1 < joins then ((lv.length + (0 + 1) : Nat) : Int) - 1 else joins) = ((min joins.toNat st.length : Nat) : Int) := by
    rw [hlen]; split <;> omega
  rw [hn] at hR
  obtain ⟨n, hnn⟩ : ∃ n, n = min joins.toNat st.length := ⟨_, rfl⟩
  rw [← hnn] at hR ok hret
  refine wpAny_pyIter_range hR ?small ?_
  case small => exact small_one (by omega) (by omega) (by omega) (by omega)
  dsimp only
  obtain ⟨hI0, hI0e⟩ : ∃ hI0, hI0 = heapOfFr F3 := ⟨_, rfl⟩
  dsimp only [heapOfFr] at hI0e
  rw [← hI0e] at F3 N2 ⊢
  clear hR hn F2
  have hnoI : noted ≠ hI0.objs.size := Nat.ne_of_lt (Heap.lt_size (N2 _ (.tail _ (.tail _ (.tail _ (.head _))))).1)
  have hLI : L ≠ hI0.objs.size := by
    obtain ⟨o, _, _, hL, _⟩ := F3.ns
    exact Nat.ne_of_lt (Heap.lt_size hL)
  refine for_heap (Walks.range rfl _ 0 1 n) (fun (i : Nat) (h : Heap) => Ex23 (α := (Option Value)) (β := Addr) (fun ok pl => Fr g L h (layM (.bytes #[x, y] tp) (.ref noted) (.ref pa) (.int kind tk0) (.bytes b tb) (.int joins tj) ok pl)) (fun _ _ => News g L h [(noted, listOf nv.toArray nn)]) (fun _ pl => Rep (fun a => a ≠ noted ∧ a ≠ hI0.objs.size) h (.ref pl) (.lst ((joinTops x.toNat y.toNat i ((kind, wr) :: st)).reverse.map pairD)))) 0 (Nat.zero_le _) ?st ?J ?next ?go ?turn ?done
  case st =>
    have e : Builtin.Range.rangeSize 0 (n : Int) 1 = n := by rw [rangeSize_nat]; omega
    show Heap.get? _ _ = _
    rw [e, show (n : Int) - ((0 : Nat) : Int) = n from Int.sub_zero _]
    exact Heap.get?_push_size _ rfl
  case J =>
    have N3 := N2.grown (fun _ _ e => Heap.get?_push_of_some (h := hI0) { cls := .type "range_iterator", data := .fields #[rawInt 0, rawInt (Builtin.Range.rangeSize 0 (n : Int) 1), rawInt 1] } e)
    have hlt : ∀ a o, hI0.get? a = some o → a ≠ hI0.objs.size := fun a o e => Nat.ne_of_lt (Heap.lt_size e)
    refine ⟨none, _, F3.push _, fun p hp => N3 p (.tail _ (.tail _ (.tail _ hp))), ?_⟩
    have r1 : Reps (fun a => a ≠ noted ∧ a ≠ hI0.objs.size) hI0 lv (st.reverse.map pairD) := (hr1.kept (Kept.of_stays F3.keep)).there.weaken fun a p => ⟨p.1, by
      obtain ⟨o, ho⟩ := Option.isSome_iff_exists.mp p.2
      exact hlt a o ho⟩
    refine .lst ⟨by refine neN ?_; omega, hlt _ _ (N2 _ (.head _)).1⟩ (News.isList N3 (.head _)) ?_
    dsimp only [joinTops]
    rw [List.reverse_cons, List.map_append]
    refine ((r1.kept (Kept.of_stays fun _ _ e => Heap.get?_push_of_some _ e)).append (.one ?_))
    exact .lst ⟨by refine neN ?_; omega, hlt _ _ (N2 _ (.tail _ (.tail _ (.head _)))).1⟩ (News.isList N3 (.tail _ (.tail _ (.head _)))) (.cons (.int _ _) (.one (.byt _ hb)))
  case next =>
    rintro i h h' ⟨ok', pl, F, N, R⟩ hk
    refine ⟨ok', pl, ⟨F.ns.at' fun o e => hk _ o (by simpa using hLI) e, fun b o e => hk b o ?_ (F.keep b o e), F.above⟩, fun p hp => ⟨?_, (N p hp).2⟩, R.kept fun a o p _ e => hk a o (by simpa using p.2) e⟩
    · have := Nat.ne_of_lt (Heap.lt_size (F3.keep b o e))
      simpa using this
    · obtain rfl := List.mem_singleton.mp hp
      exact hk _ _ (by simpa using hnoI) (N _ hp).1
  case go =>
    intro i v h tk Q' E' _ _ hq
    exact wpAny_pure hq
  case turn =>
    intro i v h tk QB1 hQB1 _ _ hi ri3 ri4 hit
    refine @by_no _ fun hNo9 => ?_
    obtain ⟨t, rfl⟩ := ri3
    obtain ⟨ok', pl, F, N, R⟩ := ri4
    refine hNo9 ?_
    clear hNo9
    dsimp only
    refine @by_no _ fun hno => ?_
    refine @by_no _ fun hNo9 => ?_
    obtain ⟨qa, qb, qr, hq, jok⟩ := TopsOk.at ok i hi
    rw [joinTops_succ, hq] at hQB1
    rw [hq] at R
    obtain ⟨pl', vs, e, hpl, lpl, R⟩ := R.list_inv
    cases e
    rw [show List.map pairD (qb :: qa :: qr).reverse = List.map pairD qr.reverse ++ [pairD qa, pairD qb] by simp] at R
    obtain ⟨us, ws, rfl, Ru, Rw⟩ := R.append_inv
    obtain ⟨v1, _, rfl, R1, Rw⟩ := Rw.cons_inv
    obtain ⟨v2, _, rfl, R2, Rw⟩ := Rw.cons_inv
    obtain rfl := Rw.nil_inv
    obtain ⟨a1, w1, rfl, ha1, la1, R1⟩ := R1.list_inv
    obtain ⟨a2, w2, rfl, ha2, la2, R2⟩ := R2.list_inv
    obtain ⟨_, _, rfl, i1, R1⟩ := R1.cons_inv
    obtain ⟨_, _, rfl, b1, R1⟩ := R1.cons_inv
    obtain rfl := R1.nil_inv
    obtain ⟨_, _, rfl, i2, R2⟩ := R2.cons_inv
    obtain ⟨_, _, rfl, b2, R2⟩ := R2.cons_inv
    obtain rfl := R2.nil_inv
    obtain ⟨t1, rfl⟩ := i1.int_inv
    obtain ⟨t2, rfl⟩ := i2.int_inv
    obtain ⟨c1, u1, rfl, e1⟩ := b1.byt_inv
    obtain ⟨c2, u2, rfl, e2⟩ := b2.byt_inv
    obtain ⟨led, N, own, B⟩ := base_of F N
    have o0 : pl ∉ [(noted, listOf nv.toArray nn)].map (·.1) := by simpa using hpl.1
    have o1 : a1 ∉ [(noted, listOf nv.toArray nn)].map (·.1) := by simpa using ha1.1
    have o2 : a2 ∉ [(noted, listOf nv.toArray nn)].map (·.1) := by simpa using ha2.1
    have n0 := isList_ne F.ns lpl
    have Ru5 := Ru.off F.ns
    have n1 := isList_ne F.ns la1
    have n2 := isList_ne F.ns la2
    have hus : us.length ≤ 1000 := by
      have h1 := joinTops_len x.toNat y.toNat i ((kind, wr) :: st)
      rw [hq] at h1
      have h2 := Ru.length
      simp only [List.length_map, List.length_reverse, List.length_cons] at h1 h2
      omega
    simp only [List.cons_append, List.nil_append] at N
    clear N2 F3
    refine hNo9 ?_
    clear hNo9
    refine hno ?_
    clear hno
    k_steps
    rename Fr _ _ _ _ => F5
    rename News _ _ _ _ => N5
    k_dflt (refine' use_specH (sp_join x y tp a1 a2 qa.1 qb.1 t1 t2 u1 u2 c1 c2 qa.2 qb.2 e1 e2 jok) ?F ?N ?X ?T ?hp ?hd ?hu ?_; (case F => k_asm); (case N => k_asm); (case X => k_asm); (case T => k_asm); (case hp => exact ⟨by is_list, by is_list⟩); (case hd => (dsimp only [Around.deeper]; omega)); (case hu => (dsimp only [Around.deeper]; omega)); k_whole)
    intro v' h' tk' F' N' st' hv'
    refine @by_no _ fun hNo9 => ?_
    obtain ⟨aj, rj, tj', hv', hfr, hlj, hrj⟩ := hv'
    subst hv'
    dsimp only at hfr
    have hajn : aj ≠ noted := by
      rintro rfl
      have := (N5 _ (.tail _ (.head _))).1
      rw [hfr] at this
      cases this
    have hajl := news_off N5 hfr
    have hajL := isList_ne F'.ns hlj
    obtain ⟨led2, N', own2, B2⟩ := base_of F' N'
    simp only [List.cons_append] at N'
    clear F5 N5 st' hfr
    refine hNo9 ?_
    clear hNo9
    k_steps
    rename Fr _ _ _ _ => F6
    rename News _ _ _ _ => N6
    have hI6 := B.get hit hLI.symm (by simpa using hnoI.symm) F6 N6 (fun p hp => by simp only [List.mem_cons, List.mem_append, hp, true_or, or_true])
    have hl6 := B2.list hlj hajL hajl F6 N6 (fun p hp => by simp only [List.mem_cons, List.mem_append, hp, true_or, or_true])
    have lD := News.isList N6 (.head _)
    have Ru6 := (Ru5.kept (fun a o p _ e => B.get e p.2 (by simpa using p.1.1) F6 N6 (fun p hp => by simp only [List.mem_cons, List.mem_append, hp, true_or, or_true]))).weaken fun a p => p.1
    refine hQB1 _ _ _ (.inl rfl) ⟨some (.int (0 + (i : Int) * 1) t), _, Fr.congr F6 ?qfr, fun p hp => ?qnw, .lst ⟨?qa1, ?qa2⟩ lD ?qrr⟩ ?qit
    case qfr =>
      intro q
      unfold layM
      by_cases c1 : q = Str.ofString "k"
      · subst c1; rfl
      · by_cases c2 : q = Str.ofString "pile"
        · subst c2; rfl
        · simp only [if_neg c1, if_neg c2]
    case qnw =>
      obtain rfl := List.mem_singleton.mp hp
      exact N6 _ (.tail _ (.tail _ (.tail _ (.head _))))
    case qa1 => refine neN ?_; omega
    case qa2 => exact isRangeIter_ne hI6 lD
    case qrr =>
      rw [show List.map pairD (joinTop x.toNat y.toNat (qb :: qa :: qr)).reverse = List.map pairD qr.reverse ++ [pairD (qa.1, joinL qa.1 qb.1 x.toNat y.toNat qa.2 qb.2)] by simp [joinTop]]
      exact Ru6.append (.one (.lst ⟨hajn, isRangeIter_ne hI6 hl6⟩ hl6 (.cons (.int _ _) (.one (.byt _ hrj)))))
    case qit =>
      intro b hb o e
      obtain rfl := List.mem_singleton.mp hb
      have := e.symm.trans hit
      cases this
      exact hI6
  case done =>
    rintro h tk ⟨ok', pl, F, N, R⟩
    dsimp only
    have R5 := R.off F.ns
    obtain ⟨led, N, own, B⟩ := base_of F N
    simp only [List.cons_append, List.nil_append] at N
    clear N2 F3
    k_steps
    rename Fr _ _ _ _ => F6
    rename News _ _ _ _ => N6
    simp only [List.push_toArray] at N6
    dsimp only
    exact hret _ _ _ (fun b o hb e => F6.keep b o (hg b o hb e)) ⟨_, _, rfl, (R5.kept (fun a o p _ e => B.get e p.2 (by simpa using p.1.1) F6 N6 (fun p hp => by simp only [List.mem_cons, List.mem_append, hp, true_or, or_true]))).weaken (fun a p => p.1.1), (N6 _ (.head _)).1⟩

theorem begin_P1 : True := by
  w_on
  w_top off
  k_with_none
  k_with "guard" => skip
  trivial
set_option maxHeartbeats 2000000
/-- base64 by groups of three octets -/
noncomputable def E64 (f : Int → Int) : List Int → List Int
  | [] => []
  | [a] => [f (a / 4), f (a % 4 * 16), 61, 61]
  | [a, b] => [f (a / 4), f (a % 4 * 16 + b / 16), f (b % 16 * 4), 61]
  | a :: b :: c :: r => f (a / 4) :: f (a % 4 * 16 + b / 16) :: f (b % 16 * 4 + c / 64) :: f (c % 64) :: E64 f r
noncomputable def Oct (ks : List Int) : Prop := ∀ k ∈ ks, 0 ≤ k ∧ k < 256
theorem Oct.tail {a : Int} {r : List Int} (h : Oct (a :: r)) : Oct r := fun k hk => h k (.tail _ hk)
theorem Oct.append {a b : List Int} (h : Oct a) (h' : Oct b) : Oct (a ++ b) := fun k hk => (List.mem_append.mp hk).elim (h k) (h' k)
theorem Oct.drop {a : List Int} (h : Oct a) (n : Nat) : Oct (a.drop n) := fun k hk => h k (List.mem_of_mem_drop hk)
theorem Oct.take {a : List Int} (h : Oct a) (n : Nat) : Oct (a.take n) := fun k hk => h k (List.mem_of_mem_take hk)
theorem mdv {b c y : Int} (hb : 0 < b) : y % (b * c) / b = y / b % c := by
  rw [Int.emod_def, Int.emod_def, Int.mul_assoc, ← Int.ediv_ediv_of_nonneg (Int.le_of_lt hb), Int.sub_eq_add_neg, ← Int.mul_neg, Int.add_mul_ediv_left _ _ (Int.ne_of_gt hb), ← Int.sub_eq_add_neg]
theorem dv1 {x n y : Int} (h0 : 0 ≤ y) (h1 : y < n) : (x * n + y) / n = x := by
  rw [Int.add_comm, Int.add_mul_ediv_right _ _ (Int.ne_of_gt (Int.lt_of_le_of_lt h0 h1)), Int.ediv_eq_zero_of_lt h0 h1, Int.zero_add]
theorem md1 {x n y : Int} (h0 : 0 ≤ y) (h1 : y < n) : (x * n + y) % n = y := by
  rw [Int.add_comm, Int.add_mul_emod_self_right, Int.emod_eq_of_lt h0 h1]
theorem spl {x b n a : Int} (hb : 0 < b) : (x * (b * n) + a) / b = x * n + a / b := by
  rw [Int.add_comm, Int.mul_left_comm, Int.add_mul_ediv_left _ _ (Int.ne_of_gt hb), Int.add_comm]
theorem mix {x n m r : Int} (h0 : 0 ≤ r) (h1 : r < n) : (x * n + r) % (n * m) = x % m * n + r := by
  have hn := Int.lt_of_le_of_lt h0 h1
  have e : (x * n + r) / (n * m) = x / m := by rw [← Int.ediv_ediv_of_nonneg (Int.le_of_lt hn), dv1 h0 h1]
  rw [Int.emod_def, e, Int.emod_def, Int.sub_mul, Int.mul_assoc n m, Int.mul_comm n (m * _), Int.sub_eq_add_neg, Int.sub_eq_add_neg, Int.add_right_comm]
theorem dq {a b n : Int} (hb : 0 < b) (ha : a < n * b) : a / b < n := Int.ediv_lt_of_lt_mul hb ha
theorem hH {b n m x a : Int} (hb : 0 < b) (h2 : b * n = 256) (ha : 0 ≤ a ∧ a < 256) : (x * 256 + a) / b % (n * m) = x % m * n + a / b := by
  rw [← h2, spl hb, mix (Int.ediv_nonneg ha.1 (Int.le_of_lt hb)) (dq hb (by rw [Int.mul_comm, h2]; exact ha.2))]
theorem hG {b n m j x a : Int} (hb : 0 < b) (h1 : b * (n * m * j) = 65536) (h2 : b * n = 256) (ha : 0 ≤ a ∧ a < 256) : (x * 256 + a) % 65536 / b % (n * m) = x % m * n + a / b := by
  rw [← h1, mdv hb, Int.emod_emod_of_dvd _ (Int.dvd_mul_right _ _), hH hb h2 ha]
theorem hM {m j i x a : Int} (h1 : m * j = 65536) (h2 : m * i = 256) : (x * 256 + a) % 65536 % m = a % m := by
  rw [← h1, Int.emod_emod_of_dvd _ (Int.dvd_mul_right _ _), ← h2, Int.mul_left_comm, Int.add_comm, Int.add_mul_emod_self_left]
theorem hK {a x d : Int} (hx : 0 ≤ x ∧ x < 256) : (a * 256 + x) / (256 * d) = a / d := by
  rw [← Int.ediv_ediv_of_nonneg (by decide), dv1 hx.1 hx.2]
theorem b2g0 (x : Int) : 0 ≤ x % 65536 := Int.emod_nonneg _ (by decide)
theorem b2g1 (x a : Int) (ha : 0 ≤ a ∧ a < 256) : (x * 256 + a) % 65536 / 4 % 64 = a / 4 := (hG (b := 4) (n := 64) (m := 1) (j := 256) (by decide) rfl rfl ha).trans (by rw [Int.emod_one, Int.zero_mul, Int.zero_add])
theorem b2g2 (x a : Int) : (x * 256 + a) % 65536 % 4 = a % 4 := hM (j := 16384) (i := 64) rfl rfl
theorem b2g3 (x a : Int) (ha : 0 ≤ a ∧ a < 256) : (x * 256 + a) % 65536 / 16 % 64 = x % 4 * 16 + a / 16 := hG (b := 16) (n := 16) (m := 4) (j := 64) (by decide) rfl rfl ha
theorem b2g4 (x a : Int) : (x * 256 + a) % 65536 % 16 = a % 16 := hM (j := 4096) (i := 16) rfl rfl
theorem b2g5 (x a : Int) (ha : 0 ≤ a ∧ a < 256) : (x * 256 + a) % 65536 / 64 % 64 = x % 16 * 4 + a / 64 := hG (b := 64) (n := 4) (m := 16) (j := 16) (by decide) rfl rfl ha
theorem b2g6 (x a : Int) : (x * 256 + a) % 65536 % 64 = a % 64 := hM (j := 1024) (i := 4) rfl rfl
theorem three_ind {P : List Int → Prop} (h0 : P []) (h1 : ∀ a, P [a]) (h2 : ∀ a b, P [a, b]) (h3 : ∀ a b c r, P r → P (a :: b :: c :: r)) : ∀ l, P l
  | [] => h0
  | [a] => h1 a
  | [a, b] => h2 a b
  | a :: b :: c :: r => h3 a b c r (three_ind h0 h1 h2 h3 r)
theorem oct_hd {a : Int} {r : List Int} (h : Oct (a :: r)) : 0 ≤ a ∧ a < 256 := h a (.head _)
section
variable {o : List Int} {lc a : Int}
theorem b2s0 (ha : 0 ≤ a ∧ a < 256) : b2aStep (o, 0, lc) a = (o ++ [sg (a / 4)], 2, (lc * 256 + a) % 65536) :=
  congrArg (fun z => (o ++ [sg z], (2 : Int), (lc * 256 + a) % 65536)) (b2g1 lc a ha)
theorem b2s2 (ha : 0 ≤ a ∧ a < 256) : b2aStep (o, 2, lc) a = (o ++ [sg (lc % 4 * 16 + a / 16)], 4, (lc * 256 + a) % 65536) :=
  congrArg (fun z => (o ++ [sg z], (4 : Int), (lc * 256 + a) % 65536)) (b2g3 lc a ha)
theorem b2s4 (ha : 0 ≤ a ∧ a < 256) : b2aStep (o, 4, lc) a = (o ++ [sg (lc % 16 * 4 + a / 64), sg (a % 64)], 0, (lc * 256 + a) % 65536) := by
  rw [← b2g5 lc a ha, ← b2g6 lc a]; rfl
end
theorem app3 {α : Type} {o : List α} {a b c d : α} : o ++ [a] ++ [b] ++ [c, d] = o ++ [a, b, c, d] := by rw [List.append_assoc, List.append_assoc]; rfl
theorem b2a_fold (ks : List Int) : ∀ (o : List Int) (lc : Int), Oct ks → b2aEnd (ks.foldl b2aStep (o, 0, lc)) = o ++ E64 sg ks := by
  refine three_ind (P := fun ks => ∀ (o : List Int) (lc : Int), Oct ks → b2aEnd (ks.foldl b2aStep (o, 0, lc)) = o ++ E64 sg ks) (fun o lc _ => (List.append_nil o).symm) (fun a o lc h => ?_) (fun a b o lc h => ?_) (fun a b c r ih o lc h => ?_) ks
  · show b2aEnd (b2aStep (o, 0, lc) a) = _
    rw [b2s0 (oct_hd h)]
    show (o ++ [sg (a / 4)]) ++ [sg ((lc * 256 + a) % 65536 % 4 * 16), 61, 61] = _
    rw [b2g2, List.append_assoc]; rfl
  · show b2aEnd (b2aStep (b2aStep (o, 0, lc) a) b) = _
    rw [b2s0 (oct_hd h), b2s2 (oct_hd h.tail), b2g2]
    show (o ++ [sg (a / 4)] ++ [sg (a % 4 * 16 + b / 16)]) ++ [sg ((_ * 256 + b) % 65536 % 16 * 4), 61] = _
    rw [b2g4, app3]; rfl
  · show b2aEnd (r.foldl b2aStep (b2aStep (b2aStep (b2aStep (o, 0, lc) a) b) c)) = _
    rw [b2s0 (oct_hd h), b2s2 (oct_hd h.tail), b2s4 (oct_hd h.tail.tail), ih _ _ h.tail.tail.tail, b2g2, b2g4, app3, List.append_assoc]; rfl
theorem b2aL_eq {ks : List Int} (h : Oct ks) : b2aL ks = E64 sg ks := by
  unfold b2aL
  rw [b2a_fold ks [] 0 h]; rfl
/-- hex -/
theorem hexL_app (a b : List Int) : hexL (a ++ b) = hexL a ++ hexL b := by unfold hexL; rw [List.flatMap_append]
theorem hexL_len (a : List Int) : (hexL a).length = 2 * a.length := by
  induction a with
  | nil => rfl
  | cons a r ih => exact (congrArg (· + 2) ih).trans (Nat.mul_succ 2 _).symm
theorem E64_len (f : Int → Int) (ks : List Int) : (E64 f ks).length = (ks.length + 2) / 3 * 4 := by
  refine three_ind (P := fun ks => (E64 f ks).length = (ks.length + 2) / 3 * 4) rfl (fun a => (by decide : 4 = (1 + 2) / 3 * 4)) (fun a b => (by decide : 4 = (2 + 2) / 3 * 4)) (fun a b c r ih => ?_) ks
  show (E64 f r).length + 4 = (r.length + 2 + 3) / 3 * 4
  rw [ih, Nat.add_div_right _ (by decide), Nat.succ_mul]
theorem E64_app (f : Int → Int) (a b : List Int) : a.length % 3 = 0 → E64 f (a ++ b) = E64 f a ++ E64 f b := by
  refine three_ind (P := fun a => a.length % 3 = 0 → E64 f (a ++ b) = E64 f a ++ E64 f b) (fun _ => rfl) (fun a h => absurd h (by show ¬ 1 % 3 = 0; decide)) (fun a c h => absurd h (by show ¬ 2 % 3 = 0; decide)) (fun x y z r ih h => ?_) a
  show _ :: _ :: _ :: _ :: E64 f (r ++ b) = _
  rw [ih (by rw [← h]; exact (Nat.add_mod_right _ 3).symm)]; rfl
theorem t3 {n j : Nat} (h : 3 * j ≤ n) : min (3 * j) n % 3 = 0 := by rw [Nat.min_eq_left h, Nat.mul_mod_right]
theorem t4 {n j : Nat} (h : 3 * j ≤ n) : (min (3 * j) n + 2) / 3 * 4 = 4 * j := by rw [Nat.min_eq_left h, Nat.mul_comm 4, Nat.add_comm, Nat.add_mul_div_left _ _ (by decide), Nat.zero_add]
theorem t5 {n j : Nat} (h : ¬ 3 * j ≤ n) : n ≤ 3 * j := Nat.le_of_lt (Nat.not_le.mp h)
theorem t6 {n j : Nat} (h : ¬ 3 * j ≤ n) : (n + 2) / 3 * 4 ≤ 4 * j := by
  rw [Nat.mul_comm]
  exact Nat.mul_le_mul_left _ (Nat.le_of_lt_succ (Nat.div_lt_of_lt_mul (Nat.add_lt_add_right (Nat.not_le.mp h) 3 |> Nat.lt_of_succ_lt)))
theorem E64_take (f : Int → Int) (ks : List Int) (j : Nat) : (E64 f ks).take (4 * j) = E64 f (ks.take (3 * j)) := by
  by_cases h : 3 * j ≤ ks.length
  · have e : E64 f ks = E64 f (ks.take (3 * j)) ++ E64 f (ks.drop (3 * j)) := by
      rw [← E64_app f _ _ (by rw [List.length_take]; exact t3 h), List.take_append_drop]
    rw [e, List.take_left' (by rw [E64_len, List.length_take]; exact t4 h)]
  · rw [List.take_of_length_le (l := ks) (t5 h), List.take_of_length_le (by rw [E64_len]; exact t6 h)]
theorem E64_drop (f : Int → Int) (ks : List Int) (j : Nat) : (E64 f ks).drop (4 * j) = E64 f (ks.drop (3 * j)) := by
  by_cases h : 3 * j ≤ ks.length
  · have e : E64 f ks = E64 f (ks.take (3 * j)) ++ E64 f (ks.drop (3 * j)) := by
      rw [← E64_app f _ _ (by rw [List.length_take]; exact t3 h), List.take_append_drop]
    rw [e, List.drop_left' (by rw [E64_len, List.length_take]; exact t4 h)]
  · rw [List.drop_of_length_le (l := ks) (t5 h), List.drop_of_length_le (by rw [E64_len]; exact t6 h)]; rfl
theorem hexL_take (ks : List Int) (j : Nat) : (hexL ks).take (2 * j) = hexL (ks.take j) := by
  by_cases h : j ≤ ks.length
  · have e : hexL ks = hexL (ks.take j) ++ hexL (ks.drop j) := by rw [← hexL_app, List.take_append_drop]
    rw [e, List.take_left' (by rw [hexL_len, List.length_take]; omega)]
  · rw [List.take_of_length_le (l := ks) (by omega), List.take_of_length_le (by rw [hexL_len]; omega)]
theorem hexL_drop (ks : List Int) (j : Nat) : (hexL ks).drop (2 * j) = hexL (ks.drop j) := by
  by_cases h : j ≤ ks.length
  · have e : hexL ks = hexL (ks.take j) ++ hexL (ks.drop j) := by rw [← hexL_app, List.take_append_drop]
    rw [e, List.drop_left' (by rw [hexL_len, List.length_take]; omega)]
  · rw [List.drop_of_length_le (l := ks) (by omega), List.drop_of_length_le (by rw [hexL_len]; omega)]; rfl
/-- reading -/
theorem b64v_sg (i : Int) (h : 0 ≤ i ∧ i < 64) : b64v (sg i) = i ∧ sg i ≠ 61 := by
  have : ∀ n : Fin 64, b64v (sg ((n.val : Nat) : Int)) = ((n.val : Nat) : Int) ∧ sg ((n.val : Nat) : Int) ≠ 61 := by decide +kernel
  have := this ⟨i.toNat, by omega⟩
  rwa [show (((⟨i.toNat, by omega⟩ : Fin 64).val : Nat) : Int) = i by simp; omega] at this
theorem step_sg (o : List Int) (q lc pd i : Int) (h : 0 ≤ i ∧ i < 64) : a2bStep (o, q, lc, pd) (sg i) = (if q = 0 then (o, 1, i, 0)
    else if q = 1 then (o ++ [lc * 4 + i / 16], 2, i % 16, 0)
    else if q = 2 then (o ++ [lc * 16 + i / 4], 3, i % 4, 0)
    else (o ++ [lc * 64 + i], 0, 0, 0)) := by
  obtain ⟨h1, h2⟩ := b64v_sg i h
  simp only [a2bStep, h1, if_neg h2, if_neg (Int.not_le.mpr h.2)]
noncomputable def finS (st : List Int × Int × Int × Int) : Prop := st.2.1 = 0 ∨ (2 ≤ st.2.1 ∧ 4 ≤ st.2.1 + st.2.2.2)
section
variable {a b c x y : Int}
theorem sx4 (h : 0 ≤ a ∧ a < 256) : 0 ≤ a / 4 ∧ a / 4 < 64 := ⟨Int.ediv_nonneg h.1 (by decide), dq (by decide) h.2⟩
theorem ad_in {n m k : Int} (h : 0 ≤ x ∧ x ≤ m - 1) (hn : 0 ≤ n) (hy : 0 ≤ y ∧ y < n) (e : (m - 1) * n + n = k) : 0 ≤ x * n + y ∧ x * n + y < k :=
  ⟨Int.add_nonneg (Int.mul_nonneg h.1 hn) hy.1, e ▸ Int.add_lt_add_of_le_of_lt (Int.mul_le_mul_of_nonneg_right h.2 hn) hy.2⟩
theorem md_in {m : Int} (hm : 0 < m) : 0 ≤ x % m ∧ x % m ≤ m - 1 := ⟨Int.emod_nonneg _ (Int.ne_of_gt hm), Int.le_sub_one_of_lt (Int.emod_lt_of_pos _ hm)⟩
theorem dv_in {n k : Int} (h : 0 ≤ x ∧ x < 256) (hk : 0 < k) (e : n * k = 256) : 0 ≤ x / k ∧ x / k < n := ⟨Int.ediv_nonneg h.1 (Int.le_of_lt hk), dq hk (e ▸ h.2)⟩
theorem z16 {n : Int} (hn : 0 < n) : (0 : Int) ≤ 0 ∧ (0 : Int) < n := ⟨Int.le_refl _, hn⟩
theorem s1_in (hb : 0 ≤ b ∧ b < 256) : 0 ≤ a % 4 * 16 + b / 16 ∧ a % 4 * 16 + b / 16 < 64 := ad_in (md_in (by decide)) (by decide) (dv_in hb (by decide) rfl) rfl
theorem s2_in (hc : 0 ≤ c ∧ c < 256) : 0 ≤ b % 16 * 4 + c / 64 ∧ b % 16 * 4 + c / 64 < 64 := ad_in (md_in (by decide)) (by decide) (dv_in hc (by decide) rfl) rfl
theorem s1_z : 0 ≤ a % 4 * 16 ∧ a % 4 * 16 < 64 := by have h := ad_in (x := a % 4) (m := 4) (k := 64) (md_in (by decide)) (by decide) (z16 (n := 16) (by decide)) rfl; rwa [Int.add_zero] at h
theorem s2_z : 0 ≤ b % 16 * 4 ∧ b % 16 * 4 < 64 := by have h := ad_in (x := b % 16) (m := 16) (k := 64) (md_in (by decide)) (by decide) (z16 (n := 4) (by decide)) rfl; rwa [Int.add_zero] at h
theorem s3_in : 0 ≤ c % 64 ∧ c % 64 < 64 := ⟨Int.emod_nonneg _ (by decide), Int.emod_lt_of_pos _ (by decide)⟩
theorem dm {n : Int} : a / n * n + a % n = a := by rw [Int.mul_comm]; exact Int.mul_ediv_add_emod a n
theorem r1 (hb : 0 ≤ b ∧ b < 256) : a / 4 * 4 + (a % 4 * 16 + b / 16) / 16 = a := by
  have h := dv_in (n := 16) (k := 16) hb (by decide) rfl
  rw [dv1 h.1 h.2, dm]
theorem r2 (hb : 0 ≤ b ∧ b < 256) (hc : 0 ≤ c ∧ c < 256) : (a % 4 * 16 + b / 16) % 16 * 16 + (b % 16 * 4 + c / 64) / 4 = b := by
  have h := dv_in (n := 16) (k := 16) hb (by decide) rfl
  have h' := dv_in (n := 4) (k := 64) hc (by decide) rfl
  rw [md1 h.1 h.2, dv1 h'.1 h'.2, dm]
theorem r3 (hc : 0 ≤ c ∧ c < 256) : (b % 16 * 4 + c / 64) % 4 * 64 + c % 64 = c := by
  have h' := dv_in (n := 4) (k := 64) hc (by decide) rfl
  rw [md1 h'.1 h'.2, dm]
theorem r1z : a / 4 * 4 + a % 4 * 16 / 16 = a := by rw [Int.mul_ediv_cancel _ (by decide), dm]
theorem r2z (hb : 0 ≤ b ∧ b < 256) : (a % 4 * 16 + b / 16) % 16 * 16 + b % 16 * 4 / 4 = b := by
  have h := dv_in (n := 16) (k := 16) hb (by decide) rfl
  rw [md1 h.1 h.2, Int.mul_ediv_cancel _ (by decide), dm]
variable {o : List Int} {lc pd i : Int}
theorem sg0 (h : 0 ≤ i ∧ i < 64) : a2bStep (o, 0, lc, pd) (sg i) = (o, 1, i, 0) := step_sg _ _ _ _ _ h
theorem sg1 (h : 0 ≤ i ∧ i < 64) : a2bStep (o, 1, lc, pd) (sg i) = (o ++ [lc * 4 + i / 16], 2, i % 16, 0) := step_sg _ _ _ _ _ h
theorem sg2 (h : 0 ≤ i ∧ i < 64) : a2bStep (o, 2, lc, pd) (sg i) = (o ++ [lc * 16 + i / 4], 3, i % 4, 0) := step_sg _ _ _ _ _ h
theorem sg3 (h : 0 ≤ i ∧ i < 64) : a2bStep (o, 3, lc, pd) (sg i) = (o ++ [lc * 64 + i], 0, 0, 0) := step_sg _ _ _ _ _ h
theorem app2 : o ++ [a] ++ [b] ++ [c] = o ++ [a, b, c] := by rw [List.append_assoc, List.append_assoc]; rfl
end
theorem a2b_fold (ks : List Int) : ∀ (o : List Int) (lc pd : Int), Oct ks → ((E64 sg ks).foldl a2bStep (o, 0, lc, pd)).1 = o ++ ks ∧ finS ((E64 sg ks).foldl a2bStep (o, 0, lc, pd)) := by
  refine three_ind (P := fun ks => ∀ (o : List Int) (lc pd : Int), Oct ks → ((E64 sg ks).foldl a2bStep (o, 0, lc, pd)).1 = o ++ ks ∧ finS ((E64 sg ks).foldl a2bStep (o, 0, lc, pd))) (fun o lc pd _ => ⟨(List.append_nil o).symm, .inl rfl⟩) (fun a o lc pd h => ?_) (fun a b o lc pd h => ?_) (fun a b c r ih o lc pd h => ?_) ks
  · show (a2bStep (a2bStep (a2bStep (a2bStep (o, 0, lc, pd) (sg (a / 4))) (sg (a % 4 * 16))) 61) 61).1 = _ ∧ finS (a2bStep (a2bStep (a2bStep (a2bStep (o, 0, lc, pd) (sg (a / 4))) (sg (a % 4 * 16))) 61) 61)
    rw [sg0 (sx4 (oct_hd h)), sg1 s1_z, r1z]
    exact ⟨rfl, .inr ⟨(by decide : (2 : Int) ≤ 2), (by decide : (4 : Int) ≤ 2 + (0 + 1 + 1))⟩⟩
  · show (a2bStep (a2bStep (a2bStep (a2bStep (o, 0, lc, pd) (sg (a / 4))) (sg (a % 4 * 16 + b / 16))) (sg (b % 16 * 4))) 61).1 = _ ∧ finS (a2bStep (a2bStep (a2bStep (a2bStep (o, 0, lc, pd) (sg (a / 4))) (sg (a % 4 * 16 + b / 16))) (sg (b % 16 * 4))) 61)
    rw [sg0 (sx4 (oct_hd h)), sg1 (s1_in (oct_hd h.tail)), sg2 s2_z, r1 (oct_hd h.tail), r2z (oct_hd h.tail)]
    exact ⟨List.append_assoc _ _ _, .inr ⟨(by decide : (2 : Int) ≤ 3), (by decide : (4 : Int) ≤ 3 + (0 + 1))⟩⟩
  · show ((E64 sg r).foldl a2bStep (a2bStep (a2bStep (a2bStep (a2bStep (o, 0, lc, pd) (sg (a / 4))) (sg (a % 4 * 16 + b / 16))) (sg (b % 16 * 4 + c / 64))) (sg (c % 64)))).1 = _ ∧ finS ((E64 sg r).foldl a2bStep (a2bStep (a2bStep (a2bStep (a2bStep (o, 0, lc, pd) (sg (a / 4))) (sg (a % 4 * 16 + b / 16))) (sg (b % 16 * 4 + c / 64))) (sg (c % 64))))
    rw [sg0 (sx4 (oct_hd h)), sg1 (s1_in (oct_hd h.tail)), sg2 (s2_in (oct_hd h.tail.tail)), sg3 s3_in, r1 (oct_hd h.tail), r2 (oct_hd h.tail) (oct_hd h.tail.tail), r3 (oct_hd h.tail.tail), app2]
    have ih := ih (o ++ [a, b, c]) 0 0 h.tail.tail.tail
    exact ⟨ih.1.trans (List.append_assoc _ _ _), ih.2⟩
theorem a2bS_E64 {ks : List Int} (h : Oct ks) : (a2bS (E64 sg ks)).1 = ks ∧ fin (E64 sg ks) := by
  obtain ⟨h1, h2⟩ := a2b_fold ks [] 0 0 h
  exact ⟨h1, h2⟩

theorem begin_P2 : True := by
  w_on
  w_top off
  k_with_none
  k_with "guard" => skip
  trivial
set_option maxHeartbeats 2000000
noncomputable def sx (al : List Int) (i : Int) : Int := al.getD i.toNat 0
theorem range_add (n m : Nat) : List.range (n + m) = List.range n ++ (List.range m).map (n + ·) := by
  rw [List.range_add]
theorem getD_app_right (a b : List Int) (i : Nat) : (a ++ b).getD (a.length + i) 0 = b.getD i 0 := by
  induction a with
  | nil => rw [List.nil_append, List.length_nil, Nat.zero_add]
  | cons x r ih =>
    show (x :: (r ++ b)).getD (r.length + 1 + i) 0 = _
    rw [Nat.add_right_comm]; exact ih
theorem wrIdx_shift (s m d k : Nat) (p r : List Int) (hp : p.length = d) (e : s * m = d * 8) : wrIdx s (p ++ r) ((m + k : Nat) : Int) = wrIdx s r (k : Int) := by
  subst hp
  have e0 : (s : Int) * ((m + k : Nat) : Int) = s * k + p.length * 8 := by
    rw [Int.natCast_add, Int.mul_add, Int.add_comm]
    exact congrArg (fun z : Nat => (s : Int) * k + (z : Int)) e
  have g : ∀ j : Nat, ((p ++ r) ++ [0]).getD ((j : Int) + p.length).toNat 0 = (r ++ [0]).getD j 0 := fun j =>
    (congrArg (fun l => l.getD (j + p.length) 0) (List.append_assoc p r [0])).trans ((congrArg ((p ++ (r ++ [0])).getD · 0) (Nat.add_comm j _)).trans (getD_app_right p (r ++ [0]) j))
  have hq : ((s : Int) * k).fdiv 8 = ((s * k / 8 : Nat) : Int) := Int.fdiv_eq_ediv_of_nonneg _ (by decide)
  unfold wrIdx
  rw [e0, Int.add_mul_fdiv_right _ _ (by decide), Int.add_mul_fmod_self_right, hq, g, Int.add_right_comm]
  exact congrArg (fun z => ((_ * 256 + z : Int).fdiv _).fmod _) (g (s * k / 8 + 1))
theorem wrIdx6_shift (a b c : Int) (r : List Int) (k : Nat) : wrIdx 6 (a :: b :: c :: r) ((4 + k : Nat) : Int) = wrIdx 6 r (k : Int) := wrIdx_shift 6 4 3 k [a, b, c] r rfl rfl
theorem wrIdx4_shift (a : Int) (r : List Int) (k : Nat) : wrIdx 4 (a :: r) ((2 + k : Nat) : Int) = wrIdx 4 r (k : Int) := wrIdx_shift 4 2 1 k [a] r rfl rfl
theorem ixf {y z n m : Int} (h : y / n % m = z) (hn : 0 ≤ n := by decide) (hm : 0 ≤ m := by decide) : (y.fdiv n).fmod m = z := by
  rw [Int.fdiv_eq_ediv_of_nonneg _ hn, Int.fmod_eq_emod_of_nonneg _ hm, h]
section
variable {a b c x : Int} {r : List Int}
theorem ix6_0 (h : (r ++ [0]).getD 0 0 = x) (hx : 0 ≤ x ∧ x < 256) (ha : 0 ≤ a ∧ a < 256) : wrIdx 6 (a :: r) ((0 : Nat) : Int) = a / 4 := by
  subst h; exact ixf (n := 1024) (m := 64) ((congrArg (· % 64) (hK (d := 4) hx)).trans (Int.emod_eq_of_lt (sx4 ha).1 (sx4 ha).2))
theorem ix6_1 (h : (r ++ [0]).getD 0 0 = x) (hx : 0 ≤ x ∧ x < 256) : wrIdx 6 (a :: r) ((1 : Nat) : Int) = a % 4 * 16 + x / 16 := by
  subst h; exact ixf (n := 16) (m := 64) (hH (b := 16) (n := 16) (m := 4) (by decide) rfl hx)
theorem ix6_2 (h : (r ++ [0]).getD 0 0 = x) (hx : 0 ≤ x ∧ x < 256) : wrIdx 6 (a :: b :: r) ((2 : Nat) : Int) = b % 16 * 4 + x / 64 := by
  subst h; exact ixf (n := 64) (m := 64) (hH (b := 64) (n := 4) (m := 16) (by decide) rfl hx)
theorem ix6_3 (h : (r ++ [0]).getD 0 0 = x) (hx : 0 ≤ x ∧ x < 256) : wrIdx 6 (a :: b :: c :: r) ((3 : Nat) : Int) = c % 64 := by
  subst h; exact ixf (n := 256) (m := 64) (congrArg (· % 64) (dv1 hx.1 hx.2))
theorem ix4_0 (h : (r ++ [0]).getD 0 0 = x) (hx : 0 ≤ x ∧ x < 256) (ha : 0 ≤ a ∧ a < 256) : wrIdx 4 (a :: r) ((0 : Nat) : Int) = a / 16 := by
  subst h; exact ixf (n := 4096) (m := 16) ((congrArg (· % 16) (hK (d := 16) hx)).trans (Int.emod_eq_of_lt (dv_in (n := 16) (k := 16) ha (by decide) rfl).1 (dv_in (n := 16) (k := 16) ha (by decide) rfl).2))
theorem ix4_1 (h : (r ++ [0]).getD 0 0 = x) (hx : 0 ≤ x ∧ x < 256) : wrIdx 4 (a :: r) ((1 : Nat) : Int) = a % 16 := by
  subst h; exact ixf (n := 256) (m := 16) (congrArg (· % 16) (dv1 hx.1 hx.2))
end
theorem head_oct {r : List Int} (h : Oct r) : 0 ≤ (r ++ [0]).getD 0 0 ∧ (r ++ [0]).getD 0 0 < 256 := by
  cases r with
  | nil => decide
  | cons a r => exact h a (.head _)
theorem wl4 (n : Nat) : (8 * (n + 1) + (4 - 1)) / 4 = 2 + (8 * n + (4 - 1)) / 4 := (Nat.add_mul_div_left (8 * n + 3) 2 (by decide : 0 < 4)).trans (Nat.add_comm _ _)
theorem wl6 (n : Nat) : (8 * (n + 3) + (6 - 1)) / 6 = 4 + (8 * n + (6 - 1)) / 6 := (Nat.add_mul_div_left (8 * n + 5) 4 (by decide : 0 < 6)).trans (Nat.add_comm _ _)
theorem padN_4 (n : Nat) : padN (4 + n) = padN n := congrArg (fun z => (4 - z) % 4) (Nat.add_mod_left 4 n)
theorem wr4_eq (al ks : List Int) : Oct ks → wrBase 4 al ks = ks.flatMap fun k => [sx al (k / 16), sx al (k % 16)] := by
  induction ks with
  | nil => intro _; rfl
  | cons a r ih =>
    intro h
    have hh := head_oct h.tail
    have ih := ih h.tail
    unfold wrBase at *
    rw [List.length_cons, wl4, range_add, List.map_append, List.map_map, List.flatMap_cons, ← ih]
    congr 1
    · show [al.getD (wrIdx 4 (a :: r) ((0 : Nat) : Int)).toNat 0, al.getD (wrIdx 4 (a :: r) ((1 : Nat) : Int)).toNat 0] = _
      rw [ix4_0 rfl hh (oct_hd h), ix4_1 rfl hh]; rfl
    · refine List.map_congr_left fun k _ => ?_
      show al.getD (wrIdx 4 (a :: r) ((2 + k : Nat) : Int)).toNat 0 = _
      rw [wrIdx4_shift]; rfl
theorem wb6_1 (al : List Int) {a : Int} (ha : 0 ≤ a ∧ a < 256) : wrBase 6 al [a] = [sx al (a / 4), sx al (a % 4 * 16)] := by
  unfold wrBase
  show (List.range ((8 * 1 + (6 - 1)) / 6)).map _ = _
  show [al.getD (wrIdx 6 [a] ((0 : Nat) : Int)).toNat 0, al.getD (wrIdx 6 [a] ((1 : Nat) : Int)).toNat 0] = _
  rw [ix6_0 (r := []) (x := 0) rfl (z16 (by decide)) ha, ix6_1 (r := []) (x := 0) rfl (z16 (by decide)), Int.zero_ediv, Int.add_zero]; rfl
theorem wb6_2 (al : List Int) {a b : Int} (ha : 0 ≤ a ∧ a < 256) (hb : 0 ≤ b ∧ b < 256) : wrBase 6 al [a, b] = [sx al (a / 4), sx al (a % 4 * 16 + b / 16), sx al (b % 16 * 4)] := by
  unfold wrBase
  show (List.range ((8 * 2 + (6 - 1)) / 6)).map _ = _
  show [al.getD (wrIdx 6 [a, b] ((0 : Nat) : Int)).toNat 0, al.getD (wrIdx 6 [a, b] ((1 : Nat) : Int)).toNat 0, al.getD (wrIdx 6 [a, b] ((2 : Nat) : Int)).toNat 0] = _
  rw [ix6_0 (r := [b]) (x := b) rfl hb ha, ix6_1 (r := [b]) (x := b) rfl hb, ix6_2 (r := []) (x := 0) rfl (z16 (by decide)), Int.zero_ediv, Int.add_zero]; rfl
theorem wb6_3 (al : List Int) {a b c : Int} {r : List Int} (ha : 0 ≤ a ∧ a < 256) (hb : 0 ≤ b ∧ b < 256) (hc : 0 ≤ c ∧ c < 256) (hh : 0 ≤ (r ++ [0]).getD 0 0 ∧ (r ++ [0]).getD 0 0 < 256) : wrBase 6 al (a :: b :: c :: r) = [sx al (a / 4), sx al (a % 4 * 16 + b / 16), sx al (b % 16 * 4 + c / 64), sx al (c % 64)] ++ wrBase 6 al r := by
  unfold wrBase
  show List.map _ (List.range ((8 * (r.length + 3) + (6 - 1)) / 6)) = _
  rw [wl6, range_add, List.map_append, List.map_map]
  congr 1
  · show [al.getD (wrIdx 6 (a :: b :: c :: r) ((0 : Nat) : Int)).toNat 0, al.getD (wrIdx 6 (a :: b :: c :: r) ((1 : Nat) : Int)).toNat 0, al.getD (wrIdx 6 (a :: b :: c :: r) ((2 : Nat) : Int)).toNat 0, al.getD (wrIdx 6 (a :: b :: c :: r) ((3 : Nat) : Int)).toNat 0] = _
    rw [ix6_0 (r := b :: c :: r) (x := b) rfl hb ha, ix6_1 (r := b :: c :: r) (x := b) rfl hb, ix6_2 (r := c :: r) (x := c) rfl hc, ix6_3 rfl hh]; rfl
  · refine List.map_congr_left fun k _ => ?_
    show al.getD (wrIdx 6 (a :: b :: c :: r) ((4 + k : Nat) : Int)).toNat 0 = _
    rw [wrIdx6_shift]; rfl
theorem wr6_base (al ks : List Int) : Oct ks → wr6 al ks = E64 (sx al) ks := by
  refine three_ind (P := fun ks => Oct ks → wr6 al ks = E64 (sx al) ks) (fun _ => by simp [wr6, wrBase, E64, padN]) (fun a h => ?_) (fun a b h => ?_) (fun a b c r ih h => ?_) ks
  · unfold wr6
    rw [wb6_1 al (oct_hd h)]; rfl
  · unfold wr6
    rw [wb6_2 al (oct_hd h) (oct_hd h.tail)]; rfl
  · have ih := ih h.tail.tail.tail
    unfold wr6 at *
    rw [wb6_3 al (oct_hd h) (oct_hd h.tail) (oct_hd h.tail.tail) (head_oct h.tail.tail.tail), List.length_append, show ([sx al (a / 4), sx al (a % 4 * 16 + b / 16), sx al (b % 16 * 4 + c / 64), sx al (c % 64)] : List Int).length = 4 from rfl, padN_4, List.append_assoc, ih]
    rfl

theorem begin_P3 : True := by
  w_on
  w_top off
  k_with_none
  k_with "om" => (law_clear; first | with_reducible assumption | (law_purse 20000 => grind))
  k_with "guard" => skip
  trivial
set_option maxHeartbeats 2000000
noncomputable def LET : List Int := [65, 66, 67, 68, 69, 70, 71, 72, 73, 74, 75, 76, 77, 78, 79, 80, 81, 82, 83, 84, 85, 86, 87, 88, 89, 90, 97, 98, 99, 100, 101, 102, 103, 104, 105, 106, 107, 108, 109, 110, 111, 112, 113, 114, 115, 116, 117, 118, 119, 120, 121, 122, 48, 49, 50, 51, 52, 53, 54, 55, 56, 57]
noncomputable def HEXD : List Int := [48, 49, 50, 51, 52, 53, 54, 55, 56, 57, 65, 66, 67, 68, 69, 70]
noncomputable def AL (x y : Int) : List (List Int) := [LET ++ [43, 47], LET ++ [45, 95], LET ++ [x, y], HEXD]
noncomputable def wrK (x y kind : Int) (ks : List Int) : List Int := if kind = 3 then wrBase 4 ((AL x y).getD kind.toNat []) ks else wr6 ((AL x y).getD kind.toNat []) ks
noncomputable def K4 (k : Int) : Prop := k = 0 ∨ k = 1 ∨ k = 2 ∨ k = 3
noncomputable def FREE : List Int := [45, 95, 43, 47, 0, 255, 32, 126, 36, 10]
structure PairOk (x y : Int) : Prop where
  ne : x ≠ y
  hx : x ∈ FREE
  hy : y ∈ FREE
theorem sg_sx (i : Int) : sg i = sx (LET ++ [43, 47]) i := by
  unfold sg sx
  rw [show KBw.bInts B64arr = LET ++ [43, 47] by decide +kernel]
theorem sx_sw (u v i : Int) : sx (LET ++ [u, v]) i = sw 43 47 u v (sx (LET ++ [43, 47]) i) := by
  unfold sx
  have e : (LET ++ [u, v]) = (LET ++ [43, 47]).map (sw 43 47 u v) := by
    rw [List.map_append]
    congr 1
  rw [e, List.getD_eq_getElem?_getD, List.getD_eq_getElem?_getD, List.getElem?_map]
  cases (LET ++ [43, 47])[i.toNat]? <;> rfl
theorem E64_map (f g : Int → Int) (h : g 61 = 61) : ∀ ks : List Int, (E64 f ks).map g = E64 (fun i => g (f i)) ks
  | [] => rfl
  | [a] => by simp [E64, h]
  | [a, b] => by simp [E64, h]
  | a :: b :: c :: r => by simp [E64, E64_map f g h r]
theorem sg_in_std (i : Int) : sg i ∈ (0 :: LET ++ [43, 47]) := by
  rw [sg_sx]
  unfold sx
  rw [List.getD_eq_getElem?_getD]
  cases e : (LET ++ [43, 47])[i.toNat]? with
  | none => exact .head _
  | some v => exact .tail _ (List.mem_of_getElem? e)
theorem E64_mem (f : Int → Int) : ∀ (ks : List Int) (c : Int), c ∈ E64 f ks → c = 61 ∨ ∃ i, c = f i
  | [], c, h => by simp [E64] at h
  | [a], c, h => by
    simp only [E64, List.mem_cons, List.not_mem_nil, or_false] at h
    rcases h with h | h | h | h
    · exact .inr ⟨_, h⟩
    · exact .inr ⟨_, h⟩
    · exact .inl h
    · exact .inl h
  | [a, b], c, h => by
    simp only [E64, List.mem_cons, List.not_mem_nil, or_false] at h
    rcases h with h | h | h | h
    · exact .inr ⟨_, h⟩
    · exact .inr ⟨_, h⟩
    · exact .inr ⟨_, h⟩
    · exact .inl h
  | a :: b :: d :: r, c, h => by
    simp only [E64, List.mem_cons] at h
    rcases h with h | h | h | h | h
    · exact .inr ⟨_, h⟩
    · exact .inr ⟨_, h⟩
    · exact .inr ⟨_, h⟩
    · exact .inr ⟨_, h⟩
    · exact E64_mem f r c h
theorem sw_back_std : ∀ u ∈ FREE, ∀ v ∈ FREE, u ≠ v → ∀ c ∈ (61 :: LET ++ [43, 47]), sw u v 43 47 (sw 43 47 u v c) = c := by decide +kernel
theorem sx_mem (i : Int) (h : 0 ≤ i ∧ i < 64) : sg i ∈ (61 :: LET ++ [43, 47]) := by
  rw [sg_sx]
  unfold sx
  have hl : (LET ++ [43, 47]).length = 64 := by decide
  rw [List.getD_eq_getElem?_getD, List.getElem?_eq_getElem (by omega)]
  exact .tail _ (List.getElem_mem _)
theorem E64_all (f : Int → Int) (P : Int → Prop) (h61 : P 61) (hf : ∀ i, 0 ≤ i ∧ i < 64 → P (f i)) : ∀ (ks : List Int), Oct ks → ∀ c ∈ E64 f ks, P c
  | [], _, c, h => by simp [E64] at h
  | [a], ho, c, h => by
    have ha := ho a (.head _)
    simp only [E64, List.mem_cons, List.not_mem_nil, or_false] at h
    rcases h with rfl | rfl | rfl | rfl
    · exact hf _ (by omega)
    · exact hf _ (by omega)
    · exact h61
    · exact h61
  | [a, b], ho, c, h => by
    have ha := ho a (.head _)
    have hb := ho b (.tail _ (.head _))
    simp only [E64, List.mem_cons, List.not_mem_nil, or_false] at h
    rcases h with rfl | rfl | rfl | rfl
    · exact hf _ (by omega)
    · exact hf _ (by omega)
    · exact hf _ (by omega)
    · exact h61
  | a :: b :: d :: r, ho, c, h => by
    have ha := ho a (.head _)
    have hb := ho b (.tail _ (.head _))
    have hd := ho d (.tail _ (.tail _ (.head _)))
    simp only [E64, List.mem_cons] at h
    rcases h with rfl | rfl | rfl | rfl | h
    · exact hf _ (by omega)
    · exact hf _ (by omega)
    · exact hf _ (by omega)
    · exact hf _ (by omega)
    · exact E64_all f P h61 hf r ho.tail.tail.tail c h
theorem sw_back {u v : Int} (p : PairOk u v) {ks : List Int} (h : Oct ks) : ((E64 sg ks).map (sw 43 47 u v)).map (sw u v 43 47) = E64 sg ks := by
  rw [List.map_map]
  refine (List.map_congr_left (g := _root_.id) fun c hc => ?_).trans (List.map_id _)
  exact sw_back_std u p.hx v p.hy p.ne c (E64_all sg (fun c => c ∈ (61 :: LET ++ [43, 47])) (by decide) sx_mem ks h c hc)
theorem sw61 {u v : Int} : sw 43 47 u v 61 = 61 := by unfold sw; rfl
theorem wrK_0 (x y : Int) {ks : List Int} (h : Oct ks) : wrK x y 0 ks = E64 sg ks := by
  show wr6 (LET ++ [43, 47]) ks = _
  rw [wr6_base _ _ h, show sg = sx (LET ++ [43, 47]) from funext sg_sx]
theorem wrK_1 (x y : Int) {ks : List Int} (h : Oct ks) : wrK x y 1 ks = (E64 sg ks).map (sw 43 47 45 95) := by
  show wr6 (LET ++ [45, 95]) ks = _
  rw [wr6_base _ _ h, E64_map _ _ sw61]
  congr 1
  funext i
  rw [sg_sx, sx_sw]
theorem wrK_2 (x y : Int) {ks : List Int} (h : Oct ks) : wrK x y 2 ks = (E64 sg ks).map (sw 43 47 x y) := by
  show wr6 (LET ++ [x, y]) ks = _
  rw [wr6_base _ _ h, E64_map _ _ sw61]
  congr 1
  funext i
  rw [sg_sx, sx_sw]
theorem hdig_sx (i : Int) (h : 0 ≤ i ∧ i < 16) : hdig i = sx HEXD i := by
  have : ∀ n : Fin 16, hdig ((n.val : Nat) : Int) = sx HEXD ((n.val : Nat) : Int) := by decide +kernel
  have := this ⟨i.toNat, by omega⟩
  rwa [show (((⟨i.toNat, by omega⟩ : Fin 16).val : Nat) : Int) = i by simp; omega] at this
theorem wrK_3 (x y : Int) {ks : List Int} (h : Oct ks) : wrK x y 3 ks = hexL ks := by
  show wrBase 4 HEXD ks = _
  rw [wr4_eq _ _ h]
  unfold hexL
  induction ks with
  | nil => rfl
  | cons a r ih =>
    have ha := h a (.head _)
    rw [List.flatMap_cons, List.flatMap_cons, ih h.tail, hdig_sx _ (by omega), hdig_sx _ (by omega)]
theorem enc_wr {x y kind : Int} (hk : K4 kind) {ks : List Int} (h : Oct ks) : encK kind x y ks = wrK x y kind ks := by
  rcases hk with rfl | rfl | rfl | rfl
  · rw [wrK_0 x y h]; exact b2aL_eq h
  · rw [wrK_1 x y h, ← b2aL_eq h]; rfl
  · rw [wrK_2 x y h, ← b2aL_eq h]; rfl
  · rw [wrK_3 x y h]; rfl
theorem hexv_hdig (i : Int) (h : 0 ≤ i ∧ i < 16) : hexv (hdig i) = i ∧ hdig i < 97 := by
  have : ∀ n : Fin 16, hexv (hdig ((n.val : Nat) : Int)) = ((n.val : Nat) : Int) ∧ hdig ((n.val : Nat) : Int) < 97 := by decide +kernel
  have := this ⟨i.toNat, by omega⟩
  rwa [show (((⟨i.toNat, by omega⟩ : Fin 16).val : Nat) : Int) = i by simp; omega] at this
theorem unhex_hexL : ∀ ks : List Int, Oct ks → unhex (hexL ks) = ks
  | [], _ => rfl
  | a :: r, h => by
    have ha := h a (.head _)
    have ih := unhex_hexL r h.tail
    unfold hexL at *
    rw [List.flatMap_cons]
    show (hexv (hdig (a / 16)) * 16 + hexv (hdig (a % 16))) :: unhex (List.flatMap (fun k => [hdig (k / 16), hdig (k % 16)]) r) = _
    rw [(hexv_hdig _ (by omega)).1, (hexv_hdig _ (by omega)).1, ih]
    congr 1; omega
theorem hexL_mem {ks : List Int} (h : Oct ks) : ∀ c ∈ hexL ks, (0 ≤ hexv c ∧ hexv c < 16) ∧ c < 97 := by
  intro c hc
  unfold hexL at hc
  obtain ⟨k, hk, hc⟩ := List.mem_flatMap.mp hc
  have hk := h k hk
  simp only [List.mem_cons, List.not_mem_nil, or_false] at hc
  rcases hc with rfl | rfl
  · have := hexv_hdig (k / 16) (by omega); exact ⟨by omega, this.2⟩
  · have := hexv_hdig (k % 16) (by omega); exact ⟨by omega, this.2⟩
theorem dec_enc {x y kind : Int} (hk : K4 kind) (p : PairOk x y) {ks : List Int} (h : Oct ks) : okK kind x y (wrK x y kind ks) ∧ decK kind x y (wrK x y kind ks) = ks := by
  have p1 : PairOk 45 95 := ⟨by decide, by decide, by decide⟩
  rcases hk with rfl | rfl | rfl | rfl
  · rw [wrK_0 x y h]; exact ⟨(a2bS_E64 h).2, (a2bS_E64 h).1⟩
  · rw [wrK_1 x y h]
    constructor
    · show fin _; rw [sw_back p1 h]; exact (a2bS_E64 h).2
    · show (a2bS _).1 = _; rw [sw_back p1 h]; exact (a2bS_E64 h).1
  · rw [wrK_2 x y h]
    constructor
    · show fin _; rw [sw_back p h]; exact (a2bS_E64 h).2
    · show (a2bS _).1 = _; rw [sw_back p h]; exact (a2bS_E64 h).1
  · rw [wrK_3 x y h]
    refine ⟨⟨by rw [hexL_len]; omega, fun c hc => (hexL_mem h c hc).1, fun c hc => (hexL_mem h c hc).2⟩, unhex_hexL ks h⟩
/-- octets of four signs -/
noncomputable def gK (kind : Int) : Nat := if kind = 3 then 2 else 3
theorem wrK_len (x y : Int) {kind : Int} (hk : K4 kind) {ks : List Int} (h : Oct ks) : (wrK x y kind ks).length ≤ 2 * ks.length + 4 := by
  rcases hk with rfl | rfl | rfl | rfl
  · rw [wrK_0 x y h, E64_len]; omega
  · rw [wrK_1 x y h, List.length_map, E64_len]; omega
  · rw [wrK_2 x y h, List.length_map, E64_len]; omega
  · rw [wrK_3 x y h, hexL_len]; omega
theorem wrK_take (x y : Int) {kind : Int} (hk : K4 kind) {ks : List Int} (h : Oct ks) (j : Nat) : (wrK x y kind ks).take (4 * j) = wrK x y kind (ks.take (gK kind * j)) := by
  rcases hk with rfl | rfl | rfl | rfl
  · rw [wrK_0 x y h, wrK_0 x y (h.take _)]; exact E64_take _ _ _
  · rw [wrK_1 x y h, wrK_1 x y (h.take _), ← List.map_take, E64_take]; rfl
  · rw [wrK_2 x y h, wrK_2 x y (h.take _), ← List.map_take, E64_take]; rfl
  · rw [wrK_3 x y h, wrK_3 x y (h.take _)]
    have := hexL_take ks (2 * j)
    rw [← Nat.mul_assoc] at this
    exact this
theorem wrK_drop (x y : Int) {kind : Int} (hk : K4 kind) {ks : List Int} (h : Oct ks) (j : Nat) : (wrK x y kind ks).drop (4 * j) = wrK x y kind (ks.drop (gK kind * j)) := by
  rcases hk with rfl | rfl | rfl | rfl
  · rw [wrK_0 x y h, wrK_0 x y (h.drop _)]; exact E64_drop _ _ _
  · rw [wrK_1 x y h, wrK_1 x y (h.drop _), ← List.map_drop, E64_drop]; rfl
  · rw [wrK_2 x y h, wrK_2 x y (h.drop _), ← List.map_drop, E64_drop]; rfl
  · rw [wrK_3 x y h, wrK_3 x y (h.drop _)]
    have := hexL_drop ks (2 * j)
    rw [← Nat.mul_assoc] at this
    exact this
/-- a point where the writing falls into two: all but the last group -/
theorem e64l (n : Nat) : (n + 2) / 3 * 4 - 4 = 4 * ((n + 2) / 3 - 1) := by rw [Nat.mul_sub, Nat.mul_comm]
theorem e64h (n : Nat) : 3 * ((n + 2) / 3 - 1) ≤ n := by rw [Nat.mul_sub]; exact Nat.sub_le_iff_le_add.mpr (Nat.le_trans (Nat.mul_div_le _ 3) (Nat.le_succ _))
theorem cut_64 {f : Int → Int} {a : List Int} (h : Oct a) {W : List Int → List Int} (hW : ∀ ks, Oct ks → W ks = (E64 sg ks).map f) : ∃ i, (W a).take ((W a).length - 4) = W (a.take i) ∧ (W a).drop ((W a).length - 4) = W (a.drop i) ∧ ∀ b, Oct b → W (a.take i ++ b) = W (a.take i) ++ W b := by
  have hi := e64h a.length
  refine ⟨3 * ((a.length + 2) / 3 - 1), ?_, ?_, fun b hb => ?_⟩
  · rw [hW a h, hW _ (h.take _), List.length_map, E64_len, e64l, ← List.map_take, E64_take]
  · rw [hW a h, hW _ (h.drop _), List.length_map, E64_len, e64l, ← List.map_drop, E64_drop]
  · rw [hW _ ((h.take _).append hb), hW _ (h.take _), hW b hb, E64_app sg _ _ (by rw [List.length_take]; exact t3 hi), List.map_append]
theorem wrK_cut (x y : Int) {kind : Int} (hk : K4 kind) {a : List Int} (h : Oct a) : ∃ i, (wrK x y kind a).take ((wrK x y kind a).length - 4) = wrK x y kind (a.take i) ∧
    (wrK x y kind a).drop ((wrK x y kind a).length - 4) = wrK x y kind (a.drop i) ∧ ∀ b, Oct b → wrK x y kind (a.take i ++ b) = wrK x y kind (a.take i) ++ wrK x y kind b := by
  rcases hk with rfl | rfl | rfl | rfl
  · exact cut_64 (f := id) h fun ks h => (wrK_0 x y h).trans (List.map_id _).symm
  · exact cut_64 h fun ks h => wrK_1 x y h
  · exact cut_64 h fun ks h => wrK_2 x y h
  · refine ⟨a.length - 2, ?_, ?_, fun b hb => ?_⟩
    · rw [wrK_3 x y h, wrK_3 x y (h.take _), hexL_len, show 2 * a.length - 4 = 2 * (a.length - 2) from (Nat.mul_sub 2 _ 2).symm, hexL_take]
    · rw [wrK_3 x y h, wrK_3 x y (h.drop _), hexL_len, show 2 * a.length - 4 = 2 * (a.length - 2) from (Nat.mul_sub 2 _ 2).symm, hexL_drop]
    · rw [wrK_3 x y ((h.take _).append hb), wrK_3 x y (h.take _), wrK_3 x y hb]; exact hexL_app _ _
theorem join_wr {x y k1 k2 : Int} (h1 : K4 k1) (h2 : K4 k2) (p : PairOk x y) {a b : List Int} (ha : Oct a) (hb : Oct b) (hla : a.length ≤ 100) (hlb : b.length ≤ 100) :
    JoinOk k1 k2 x y (wrK x y k1 a) (wrK x y k2 b) ∧ joinL k1 k2 x y (wrK x y k1 a) (wrK x y k2 b) = wrK x y k1 (a ++ b) := by
  obtain ⟨i, e1, e2, e3⟩ := wrK_cut x y h1 ha
  have d1 := dec_enc h1 p (ha.drop i)
  have d2 := dec_enc h2 p hb
  have la := wrK_len x y h1 ha
  have lb := wrK_len x y h2 hb
  have hab : Oct (a.drop i ++ b) := (ha.drop i).append hb
  have lab := wrK_len x y h1 hab
  rw [List.length_append, List.length_drop] at lab
  have e : decK k1 x y ((wrK x y k1 a).drop ((wrK x y k1 a).length - 4)) = a.drop i := by rw [e2]; exact d1.2
  have e' : joinL k1 k2 x y (wrK x y k1 a) (wrK x y k2 b) = wrK x y k1 (a ++ b) := by
    unfold joinL
    rw [e, d2.2, e1, enc_wr h1 hab, ← e3 _ hab, ← List.append_assoc, List.take_append_drop]
  refine ⟨⟨h1, h2, by omega, by omega, by rw [e2]; exact d1.1, d2.1, by rw [e, List.length_drop]; omega, by rw [d2.2]; omega, ?_⟩, e'⟩
  rw [e, d2.2, enc_wr h1 hab]; omega

theorem begin_C1 : True := by
  w_on
  w_top off
  k_with_none
  k_with "om" => (law_clear; first | with_reducible assumption | (law_purse 20000 => grind))
  k_with "guard" => skip
  trivial
set_option maxHeartbeats 2000000
section
variable {PX : Addr → Prop} {prog : Program} {w : World} {A : Around} {E : Value → Shared → Prop} {R : Result → Shared → Prop} {s : Shared} {h₀ : Heap} {L : Addr} {m : Str → Option Value} {env : Env}
theorem compLoop_any {elt target iter : Expr} {scope : Scope} {pos : Pos} {it acc : Value} {env : Env} (I : Nat → Shared → Prop)
    (turn : ∀ n s, I n s → wpAny (model prog w) A (pyNext it) (fun r s₁ => match r with
      | none => R (.ok .next) s₁
      | some v => wpAny (model prog w) A (letOwnedTupleGo target it v) (fun _ s₁' => wpAny (model prog w) A (assign target env v) (fun _ s₂ =>
          wpAny (model prog w) A (eval elt env) (fun x s₄ =>
              wpAny (model prog w) A (call (.builtin "list.append") [acc, x]) (fun _ s₅ => ∃ m, m < n ∧ I m s₅) (notedBy (model prog w) A env fun e s' => R (.error e) s') s₄) (notedBy (model prog w) A env fun e s' => R (.error e) s') s₂)
          (notedBy (model prog w) A env fun e s' => R (.error e) s') s₁') (notedBy (model prog w) A env fun e s' => R (.error e) s') s₁) (notedBy (model prog w) A env fun e s' => R (.error e) s') s)
    (n : Nat) (h : I n s) : codeAny (model prog w) A (.compLoop (.ListComp elt [⟨target, iter, [], 0⟩] scope pos) 0 it acc env) R s := by
  refine codeAny_loop rfl I (fun n s hI => ?_) n h
  show wpAny _ A ((compTurn (.ListComp elt [⟨target, iter, [], 0⟩] scope pos) 0 it acc env).onRaise (fun x => do noteFrame x env; theTreesLotGoes x)) _ _ s
  refine wpAny_noted ?_
  rw [compTurn_list]
  refine wpAny_bind (wpAny_standAt (wpAny_bind (wpAny_mono (turn n s hI) (fun r s₁ h₁ => ?_) fun _ _ h' => h')))
  cases r with
  | none => exact wpAny_pure h₁
  | some v =>
    refine wpAny_bind (wpAny_mono h₁ (fun _ s₁' h₁' => ?_) fun _ _ h' => h')
    refine wpAny_bind (wpAny_mono h₁' (fun _ s₂ h₂ => wpAny_bind (wpAny_mono (wpAny_tests_nil (Q := fun ok s₃ => ok = true ∧ s₃ = s₂) ⟨rfl, rfl⟩) (fun ok s₃ h₃ => ?_) fun _ _ h' => h')) fun _ _ h' => h')
    obtain ⟨rfl, rfl⟩ := h₃
    exact wpAny_bind (wpAny_bind (wpAny_mono h₂ (fun x s₄ h₄ => wpAny_bind (wpAny_mono h₄ (fun _ s₅ h₅ => wpAny_pure (wpAny_pure ⟨rfl, h₅⟩)) fun _ _ h' => h')) fun _ _ h' => h'))
theorem Reps.snoc {P : Addr → Prop} {h : Heap} {vs : List Value} {v : Value} {ds : List D} {d : D} (r : Reps P h vs ds) (x : Rep P h v d) : Reps P h (vs ++ [v]) (ds ++ [d]) := r.append (.one x)
/-- what a turn of a comprehension ends in -/
noncomputable def ElEnd (PX : Addr → Prop) (h₀ : Heap) (L : Addr) (m : Str → Option Value) (own : List Addr) (Own : Heap → Prop) (I Dd : Addr) (h : Heap) (s : Shared) (d : D) (y : Value) (s₅ : Shared) : Prop :=
  Ex25 (fun (h' : Heap) (tk' : Nat) => s₅ = { s with heap := h', toks := tk' }) (fun h' _ => Fr h₀ L h' m) (fun h' _ => Own h') (fun h' _ => ∀ a o, a ≠ L → a ∉ own → h.get? a = some o → h'.get? a = some o) (fun h' _ => Rep (fun a => a ≠ L ∧ a ≠ I ∧ a ∉ own ∧ a ≠ Dd ∧ PX a) h' y d)
noncomputable def ElTurn (PX : Addr → Prop) (prog : Program) (w : World) (A : Around) (h₀ : Heap) (L : Addr) (m : Str → Option Value) (own : List Addr) (Own : Heap → Prop) (I Dd : Addr) (target elt : Expr) (cenv : Env) (v : Value) (h : Heap) (s : Shared) (d : D) : Prop :=
  ∀ tk, wpAny (model prog w) A (letOwnedTupleGo target (.ref I) v) (fun _ s₃ => wpAny (model prog w) A (assign target cenv v) (fun _ s₄ => wpAny (model prog w) A (eval elt cenv) (ElEnd PX h₀ L m own Own I Dd h s d) (fun _ _ => False) s₄) (fun _ _ => False) s₃) (fun _ _ => False) { s with heap := h, toks := tk }
inductive CompJ (PX : Addr → Prop) (s : Shared) (h₀ : Heap) (L I Dd : Addr) (m : Str → Option Value) (own : List Addr) (Own : Heap → Prop) (n : Nat) (St : Nat → Heap → Prop) (ds : Nat → D) (k : Nat) (s' : Shared) : Prop
  | mk (h : Heap) (tk i : Nat) (ys : List Value) (e : s' = { s with heap := h, toks := tk }) (hi : i ≤ n) (hk : k = n + 1 - i) (st : St i h) (F : Fr h₀ L h m) (O : Own h) (d : h.get? Dd = some (LCg.lst ys)) (kp : ∀ a o, a ≠ L → a ≠ I → a ∉ own → a ≠ Dd → s.heap.get? a = some o → h.get? a = some o)
    (r : Reps (fun a => a ≠ L ∧ a ≠ I ∧ a ∉ own ∧ a ≠ Dd ∧ PX a) h ys ((List.range i).map ds))
theorem comp_loop {elt target iter : Expr} {scope : Scope} {pos : Pos} {I Dd : Addr} {fp own : List Addr} {Own : Heap → Prop} {n : Nat} {P : Nat → Value → Prop} {St : Nat → Heap → Prop} {ds : Nat → D} {cenv : Env}
    (W : Walks prog w A I fp [I] n P St) (hsz : n ≤ sizeLine) (hst : St 0 s.heap)
    (F : Fr h₀ L s.heap m) (hIL : L ≠ I) (hDL : Dd ≠ L) (hDI : Dd ≠ I) (hDo : Dd ∉ own) (hDf : Dd ∉ fp) (hLf : L ∉ fp) (hof : ∀ b ∈ own, b ∉ fp) (hLo : L ∉ own) (hI₀ : h₀.get? I = none) (hD₀ : h₀.get? Dd = none)
    (hOwn : ∀ h h', Own h → (∀ a ∈ own, ∀ o, h.get? a = some o → h'.get? a = some o) → Own h') (hO : Own s.heap)
    (hD : s.heap.get? Dd = some (LCg.lst []))
    (turn : ∀ i v h ys, i < n → P i v → Fr h₀ L h m → (∀ a o, a ≠ L → a ≠ I → a ∉ own → a ≠ Dd → s.heap.get? a = some o → h.get? a = some o) → St (i + 1) h → Own h → h.get? Dd = some (LCg.lst ys) →
      ElTurn PX prog w A h₀ L m own Own I Dd target elt cenv v h s (ds i))
    (hR : ∀ h tk ys, Fr h₀ L h m → h.get? Dd = some (LCg.lst ys) → Own h → (∀ a o, a ≠ L → a ≠ I → a ∉ own → a ≠ Dd → s.heap.get? a = some o → h.get? a = some o) →
      Reps (fun a => a ≠ L ∧ a ≠ I ∧ a ∉ own ∧ a ≠ Dd ∧ PX a) h ys ((List.range n).map ds) → R (.ok .next) { s with heap := h, toks := tk }) :
    codeAny (model prog w) A (.compLoop (.ListComp elt [⟨target, iter, [], 0⟩] scope pos) 0 (.ref I) (.ref Dd) cenv) R s := by
  refine compLoop_any
    (CompJ PX s h₀ L I Dd m own Own n St ds) ?_ (n + 1)
    ⟨s.heap, s.toks, 0, [], rfl, Nat.zero_le _, rfl, hst, F, hO, hD, fun _ _ _ _ _ _ e => e, .nil⟩
  intro k s' ri6
  refine @by_no _ fun hNo9 => ?_
  obtain ⟨h, tk, i, ys, rfl, hi, rfl, hst', F', hO', hD', hk', hR'⟩ := ri6
  have hIf : I ∈ fp := W.sub I (List.mem_singleton.mpr rfl)
  refine hNo9 ?_
  clear hNo9
  by_cases hlt : i < n
  · refine W.item i _ _ _ hlt hst' fun v h₂ tk₂ hPv hst₂ hk₂ => ?_
    have hkI : ∀ b o, b ≠ I → h.get? b = some o → h₂.get? b = some o := fun b o hb e => hk₂ b o (fun q => hb (List.mem_singleton.mp q)) e
    have F₂ : Fr h₀ L h₂ m := ⟨F'.ns.at' fun o e => hkI _ o hIL e, fun b o e => hkI b o (Ne.symm (some_ne hI₀ e)) (F'.keep b o e), F'.above⟩
    have hO₂ := hOwn _ _ hO' fun a ha o e => hkI a o (fun q => hof a ha (q ▸ hIf)) e
    have hk₂' : ∀ a o, a ≠ L → a ≠ I → a ∉ own → a ≠ Dd → s.heap.get? a = some o → h₂.get? a = some o := fun a o h1 h2 h3 h4 e => hkI a o h2 (hk' a o h1 h2 h3 h4 e)
    have hD₂ := hkI Dd _ hDI hD'
    have hlen : ys.length = i := by rw [hR'.length]; simp
    refine wpAny_mono (turn i v h₂ ys hlt hPv F₂ hk₂' hst₂ hO₂ hD₂ tk₂) (fun _ s₃ h₃ => wpAny_mono h₃ (fun _ s₄ h₄ => wpAny_mono h₄ (fun y s₅ h₅ => ?_) fun _ _ e => e.elim) fun _ _ e => e.elim) fun _ _ e => e.elim
    refine @by_no _ fun hNo9 => ?_
    obtain ⟨h₅, tk₅, rfl, F₅, hO₅, hk₅, hR₅⟩ := h₅
    have hst₅ : St (i + 1) h₅ := W.frame _ _ _ hst₂ fun b hb o e => hk₅ b o (fun q => hLf (q ▸ hb)) (fun q => hof b q hb) e
    have hD₅ := hk₅ Dd _ hDL hDo hD₂
    refine hNo9 ?_
    clear hNo9
    refine append_at (hsz := by show ys.toArray.size ≤ sizeLine; rw [List.size_toArray, hlen]; exact Nat.le_trans hi hsz) hD₅ fun h₆ hs₆ hD₆ => ?_
    have kp : Kept (fun a => a ≠ L ∧ a ≠ I ∧ a ∉ own ∧ a ≠ Dd ∧ PX a) h₅ h₆ := fun a o p _ e => hs₆.extBut a o p.2.2.2.1 e
    have kp' : Kept (fun a => a ≠ L ∧ a ≠ I ∧ a ∉ own ∧ a ≠ Dd ∧ PX a) h h₆ := fun a o p c e => kp a o p c (hk₅ a o p.1 p.2.2.1 (hkI a o p.2.1 e))
    refine ⟨n + 1 - (i + 1), by omega, h₆, tk₅, i + 1, ys ++ [y], rfl, hlt, rfl, W.frame _ _ _ hst₅ fun b hb o e => hs₆.extBut b o (fun q => hDf (q ▸ hb)) e, F₅.change hs₆ hDL hD₀,
      hOwn _ _ hO₅ fun a ha o e => hs₆.extBut a o (fun q => hDo (q ▸ ha)) e, hD₆.trans (congrArg some (LCg.lst_snoc ys y)), fun a o h1 h2 h3 h4 e => hs₆.extBut a o h4 (hk₅ a o h1 h3 (hk₂' a o h1 h2 h3 h4 e)), ?_⟩
    rw [List.range_succ, List.map_append]
    exact (hR'.kept kp').snoc (hR₅.kept kp)
  · obtain rfl : i = n := Nat.le_antisymm hi (Nat.not_lt.mp hlt)
    refine W.done _ _ _ hst' fun h₂ tk₂ hk₂ => ?_
    have hkI : ∀ b o, b ≠ I → h.get? b = some o → h₂.get? b = some o := fun b o hb e => hk₂ b o (fun q => hb (List.mem_singleton.mp q)) e
    exact hR h₂ tk₂ ys ⟨F'.ns.at' fun o e => hkI _ o hIL e, fun b o e => hkI b o (Ne.symm (some_ne hI₀ e)) (F'.keep b o e), F'.above⟩ (hkI Dd _ hDI hD')
      (hOwn _ _ hO' fun a ha o e => hkI a o (fun q => hof a ha (q ▸ hIf)) e) (fun a o h1 h2 h3 h4 e => hkI a o h2 (hk' a o h1 h2 h3 h4 e)) (hR'.kept fun a o p _ e => hkI a o p.2.1 e)
/-- a comprehension's block, its scope without cells -/
theorem comp_blk {elt target iter : Expr} {scope : Scope} {cl : List (Str × Addr)} {pos : Pos} {s₂ : Shared} {I : Addr} {fp : List Addr} {n : Nat} {P : Nat → Value → Prop} {St : Nat → Heap → Prop} {ds : Nat → D} {RR : Value → Addr → Result → Shared → Prop}
    (W : Walks prog w A I fp [I] n P St) (hsz : n ≤ sizeLine) (hcell : ∀ y ∈ scope.names, y.2 ≠ .cell) (hkind : scope.kind = .function) (hst : St 0 s₂.heap) (hfp : ∀ b ∈ fp, b < s₂.heap.objs.size) (hLf : L ∉ fp)
    (F : Fr h₀ L s₂.heap m) (hIL : L ≠ I) (hI₀ : h₀.get? I = none)
    (turn : ∀ C Dd i v h ys, C ≠ L → Dd ≠ L → C ≠ I → Dd ≠ I → C ≠ Dd → h₀.get? C = none → h₀.get? Dd = none → s₂.heap.get? C = none → s₂.heap.get? Dd = none → i < n → P i v → Fr h₀ L h m → (∀ a o, a ≠ L → a ≠ I → s₂.heap.get? a = some o → h.get? a = some o) → St (i + 1) h → (∃ mC, h.Ns C mC) →
      h.get? Dd = some (LCg.lst ys) → ElTurn PX prog w A h₀ L m [C] (fun h => ∃ mC, h.Ns C mC) I Dd target elt (compEnvC scope cl C env) v h s₂ (ds i))
    (hRR : ∀ Dd C h tk mC ys, C ≠ L → Dd ≠ L → C ≠ Dd → h₀.get? C = none → h₀.get? Dd = none → s₂.heap.get? C = none → s₂.heap.get? Dd = none → Fr h₀ L h m → h.get? Dd = some (LCg.lst ys) → h.Ns C mC → (∀ a o, a ≠ L → a ≠ I → s₂.heap.get? a = some o → h.get? a = some o) →
      Reps (fun a => a ≠ L ∧ a ≠ I ∧ a ≠ C ∧ a ≠ Dd ∧ PX a) h ys ((List.range n).map ds) → RR (.ref Dd) C (.ok .next) { s₂ with heap := h, toks := tk }) :
    wpAny (model prog w) A (newList []) (fun acc s₃ => wpAny (model prog w) A (newFunctionEnv scope env.globals cl [] env.qual none .none (some env)) (fun cenv s₄ =>
      codeAny (model prog w) A (.compStart (.ListComp elt [⟨target, iter, [], 0⟩] scope pos) 0 (.ref I) acc { cenv with scope := relabel scope env }) (RR acc cenv.locals) s₄) E s₃) E s₂ := by
  refine wpAny_newObj_type (wpAny_newFunctionEnv hcell (by intro y hy; simp at hy) (fun h₁ hns₁ hsb₁ => ?_) hkind)
  dsimp only at hns₁ hsb₁ ⊢
  generalize hH2 : s₂.heap.push { cls := .type "list", dict := none, data := .seq ([] : List Value).toArray } = H2 at hns₁ hsb₁ ⊢
  have hC : H2.objs.size = s₂.heap.objs.size + 1 := by rw [← hH2, Heap.size_push]
  have hDC : s₂.heap.objs.size ≠ H2.objs.size := by rw [hC]; exact Nat.ne_of_lt (Nat.lt_succ_self _)
  have below : ∀ b, b < s₂.heap.objs.size → b ≠ H2.objs.size ∧ b ≠ s₂.heap.objs.size := fun b hb => ⟨by rw [hC]; exact Nat.ne_of_lt (Nat.lt_succ_of_lt hb), Nat.ne_of_lt hb⟩
  have hDf : s₂.heap.objs.size ∉ fp := fun hm => Nat.lt_irrefl _ (hfp _ hm)
  have hCf : H2.objs.size ∉ fp := fun hm => by have := hfp _ hm; rw [hC] at this; exact Nat.lt_irrefl _ (Nat.lt_of_succ_lt this)
  have hIf : I ∈ fp := W.sub I (List.mem_singleton.mpr rfl)
  have hIlt : I < s₂.heap.objs.size := hfp I hIf
  have old : ∀ b o, s₂.heap.get? b = some o → h₁.get? b = some o := fun b o e => hsb₁.extBut b o (below b (Heap.lt_size e)).1 (Heap.get?_push_of_some _ (hH2 ▸ Heap.get?_push_of_some _ e))
  have hacc : h₁.get? s₂.heap.objs.size = some (LCg.lst []) := hsb₁.extBut _ _ hDC (Heap.get?_push_of_some _ (hH2 ▸ Heap.get?_push_size _ rfl))
  have hst₁ : St 0 h₁ := W.frame _ _ _ hst fun b _ o e => old b o e
  have fresh : ∀ a, s₂.heap.objs.size ≤ a → s₂.heap.get? a = none := fun a ha => Heap.get?_none_of_le ha
  have fresh₀ : ∀ a, s₂.heap.objs.size ≤ a → h₀.get? a = none := fun a ha => keep_none F.keep (fresh a ha)
  have hCle : s₂.heap.objs.size ≤ H2.objs.size := by rw [hC]; exact Nat.le_succ _
  have hD₀ : h₀.get? s₂.heap.objs.size = none := fresh₀ _ (Nat.le_refl _)
  have hC₀ : h₀.get? H2.objs.size = none := fresh₀ _ hCle
  have hLlt : L < s₂.heap.objs.size := F.ns.lt
  have hDL : s₂.heap.objs.size ≠ L := Ne.symm (below L hLlt).2
  have hCL : H2.objs.size ≠ L := Ne.symm (below L hLlt).1
  have hCI : I ≠ H2.objs.size := (below I hIlt).1
  have hDI : I ≠ s₂.heap.objs.size := (below I hIlt).2
  have keep : ∀ {h : Heap}, (∀ a o, a ≠ L → a ≠ I → a ∉ [H2.objs.size] → a ≠ s₂.heap.objs.size → h₁.get? a = some o → h.get? a = some o) → ∀ a o, a ≠ L → a ≠ I → s₂.heap.get? a = some o → h.get? a = some o :=
    fun k a o h1 h2 e => k a o h1 h2 (by simpa using (below a (Heap.lt_size e)).1) (below a (Heap.lt_size e)).2 (old a o e)
  have loop : ∀ s₃ : Shared, s₃ = { s₂ with heap := h₁, toks := s₂.toks + ([] : List (Str × Value)).length } →
      codeAny (model prog w) A (.compLoop (.ListComp elt [⟨target, iter, [], 0⟩] scope pos) 0 (.ref I) (.ref s₂.heap.objs.size) (compEnvC scope cl H2.objs.size env))
        (RR (.ref s₂.heap.objs.size) H2.objs.size) s₃ := by
    rintro s₃ rfl
    refine comp_loop (PX := PX) (own := [H2.objs.size]) (Own := fun h => ∃ mC, h.Ns H2.objs.size mC) (ds := ds) W hsz hst₁ (F.keeps old) hIL hDL (Ne.symm hDI) (by simpa using hDC) hDf hLf (fun b hb => by rw [List.mem_singleton.mp hb]; exact hCf) (by simpa using Ne.symm hCL) hI₀ hD₀
      (fun h h' ⟨mC, x⟩ k => ⟨mC, x.at' fun o e => k _ (List.mem_singleton.mpr rfl) o e⟩) ⟨_, hns₁⟩ hacc ?_ ?_
    · intro i v h ys hi hP F' hk hst' hO hD
      exact turn _ _ i v h ys hCL hDL (Ne.symm hCI) (Ne.symm hDI) (Ne.symm hDC) hC₀ hD₀ (fresh _ hCle) (fresh _ (Nat.le_refl _)) hi hP F' (keep hk) hst' hO hD
    · rintro h tk ys F' hD ⟨mC, hn⟩ hk hR
      exact hRR _ _ h tk mC ys hCL hDL (Ne.symm hDC) hC₀ hD₀ (fresh _ hCle) (fresh _ (Nat.le_refl _)) F' hD hn (keep hk) (hR.weaken fun a p => ⟨p.1, p.2.1, by simpa using p.2.2.1, p.2.2.2⟩)
  exact codeAny_compStart_list (loop _ rfl) (W.self 0 _ _ _ hst₁ (loop _ rfl))
end

theorem begin_C2 : True := by
  w_on
  w_top off
  k_with_none
  k_with "om" => (law_clear; first | with_reducible assumption | (law_purse 20000 => grind))
  k_with "guard" => skip
  trivial
set_option maxHeartbeats 2000000
structure CompOut (PX : Addr → Prop) (h₀ : Heap) (L : Addr) (m : Str → Option Value) (hs : Heap) (Dd : Addr) (h : Heap) (ys : List Value) (dsl : List D) : Prop where
  F : Fr h₀ L h m
  get : h.get? Dd = some (LCg.lst ys)
  new : hs.get? Dd = none
  new0 : h₀.get? Dd = none
  ne : Dd ≠ L
  keep : ∀ a o, a ≠ L → hs.get? a = some o → h.get? a = some o
  reps : Reps (fun a => a ≠ L ∧ a ≠ Dd ∧ PX a) h ys dsl
noncomputable def ItI (h : Heap) (I : Addr) : Prop := (∃ l j, h.IsListIter I l j) ∨ (∃ a b c, IsRangeIter h I a b c)
structure CmpIn (h₀ : Heap) (L : Addr) (m : Str → Option Value) (hs : Heap) (I C Dd : Addr) (h : Heap) (ys : List Value) : Prop where
  F : Fr h₀ L h m
  keep : ∀ a o, a ≠ L → hs.get? a = some o → h.get? a = some o
  nsC : ∃ mC, h.Ns C mC
  getI : ItI h I
  getD : h.get? Dd = some (LCg.lst ys)
  IL : I ≠ L
  CL : C ≠ L
  DL : Dd ≠ L
  CI : C ≠ I
  DI : Dd ≠ I
  CD : C ≠ Dd
  I0 : h₀.get? I = none
  C0 : h₀.get? C = none
  D0 : h₀.get? Dd = none
  Is : hs.get? I = none
  Cs : hs.get? C = none
  Ds : hs.get? Dd = none
noncomputable abbrev OwnC (C : Addr) : Heap → Prop := fun h => ∃ mC, h.Ns C mC
section
variable {PX : Addr → Prop} {prog : Program} {w : World} {A : Around} {E : Value → Shared → Prop} {s : Shared} {h₀ : Heap} {L : Addr} {m : Str → Option Value} {env : Env}
inductive CSrc (PX : Addr → Prop) (prog : Program) (w : World) (A : Around) (h₀ : Heap) (L : Addr) (m : Str → Option Value) (mk : Addr → Str → Option Value) (env : Env) (target elt : Expr) (scope : Scope) (cl : List (Str × Addr)) (Fin : Shared → Addr → Heap → Nat → Prop) (xv : Value) (s₁ : Shared) : Prop
  | mk (hh : A.handled = none) (F : Fr h₀ L s₁.heap m) (n : Nat) (P : Nat → Value → Prop) (ds : Nat → D) (hn : n ≤ sizeLine)
    (src : (∃ ax vs, xv = .ref ax ∧ s₁.heap.IsList ax (List.toArray vs) ∧ n = vs.length ∧ P = fun i v => vs[i]? = some v) ∨ (∃ r a b t u v, xv = .ref r ∧ IsRange s₁.heap r a b 1 t u v ∧ Builtin.Range.small a b 1 = true ∧ Builtin.Range.rangeSize a b 1 = ((n : Nat) : Int) ∧ P = fun i v => ∃ t, v = .int (a + (i : Int)) t))
    (el : ∀ I C Dd h ys, CmpIn h₀ L m s₁.heap I C Dd h ys → ∀ i v, i < n → P i v → ElTurn PX prog w A h₀ L m [C] (OwnC C) I Dd target elt (compEnvC scope cl C env) v h s₁ (ds i))
    (fin : ∀ Dd h tk ys, CompOut PX h₀ L (mk Dd) s₁.heap Dd h ys ((List.range n).map ds) → Fin s₁ Dd h tk)
theorem cs_list {PX : Addr → Prop} {prog : Program} {w : World} {A : Around} {h₀ : Heap} {L : Addr} {m : Str → Option Value} {mk : Addr → Str → Option Value} {env : Env} {target elt : Expr} {scope : Scope} {cl : List (Str × Addr)} {Fin : Shared → Addr → Heap → Nat → Prop} {s₁ : Shared} {ax : Addr} {vs : List Value}
    (hh : A.handled = none) (F : Fr h₀ L s₁.heap m) (ds : Nat → D) (hn : vs.length ≤ sizeLine) (hl : s₁.heap.IsList ax (List.toArray vs))
    (el : ∀ I C Dd h ys, CmpIn h₀ L m s₁.heap I C Dd h ys → ∀ i v, i < vs.length → vs[i]? = some v → ElTurn PX prog w A h₀ L m [C] (OwnC C) I Dd target elt (compEnvC scope cl C env) v h s₁ (ds i))
    (fin : ∀ Dd h tk ys, CompOut PX h₀ L (mk Dd) s₁.heap Dd h ys ((List.range vs.length).map ds) → Fin s₁ Dd h tk) : CSrc PX prog w A h₀ L m mk env target elt scope cl Fin (.ref ax) s₁ :=
  ⟨hh, F, vs.length, _, ds, hn, .inl ⟨ax, vs, rfl, hl, rfl, rfl⟩, el, fin⟩
/-- a block's run from its iterator on -/
theorem comp_from {elt target iter : Expr} {scope : Scope} {cl : List (Str × Addr)} {pos : Pos} {mk : Addr → Str → Option Value} {Fin : Shared → Addr → Heap → Nat → Prop} {s₁ : Shared} {xv : Value} {RR : Value → Addr → Result → Shared → Prop}
    (hcell : ∀ y ∈ scope.names, y.2 ≠ .cell) (hkind : scope.kind = .function) (S : CSrc PX prog w A h₀ L m mk env target elt scope cl Fin xv s₁)
    (hRR : ∀ (dsl : List D) (I Dd C : Addr) (h : Heap) (tk : Nat) (mC : Str → Option Value) (ys : List Value), (∀ Dd h tk ys, CompOut PX h₀ L (mk Dd) s₁.heap Dd h ys dsl → Fin s₁ Dd h tk) →
      C ≠ L → Dd ≠ L → C ≠ Dd → h₀.get? C = none → h₀.get? Dd = none → s₁.heap.get? C = none → s₁.heap.get? Dd = none → Fr h₀ L h m → h.get? Dd = some (LCg.lst ys) → h.Ns C mC → (∀ a o, a ≠ L → s₁.heap.get? a = some o → h.get? a = some o) →
      Reps (fun a => a ≠ L ∧ a ≠ I ∧ a ≠ C ∧ a ≠ Dd ∧ PX a) h ys dsl → RR (.ref Dd) C (.ok .next) { s₁ with heap := h, toks := tk }) :
    wpAny (model prog w) A (pyIter xv) (fun it s₂ => wpAny (model prog w) A (newList []) (fun acc s₃ => wpAny (model prog w) A (newFunctionEnv scope env.globals cl [] env.qual none .none (some env)) (fun cenv s₄ =>
      codeAny (model prog w) A (.compStart (.ListComp elt [⟨target, iter, [], 0⟩] scope pos) 0 it acc { cenv with scope := relabel scope env }) (RR acc cenv.locals) s₄) E s₃) E s₂) E s₁ := by
  refine @by_no _ fun hNo9 => ?_
  obtain ⟨hh, F, n, P, ds, hsz, hsrc, turn, fin⟩ := S
  have hI₀ : h₀.get? s₁.heap.objs.size = none := next_is_new F
  have hLI : L ≠ s₁.heap.objs.size := Nat.ne_of_lt F.ns.lt
  have fr : s₁.heap.get? s₁.heap.objs.size = none := Heap.get?_none_of_le (Nat.le_refl _)
  have body : ∀ (oI : Obj) (fp : List Addr) (St : Nat → Heap → Prop), Walks prog w A s₁.heap.objs.size fp [s₁.heap.objs.size] n P St → St 0 (s₁.heap.push oI) → (∀ b ∈ fp, b < (s₁.heap.push oI).objs.size) → L ∉ fp → (∀ i h, St i h → ItI h s₁.heap.objs.size) →
      wpAny (model prog w) A (newList []) (fun acc s₃ => wpAny (model prog w) A (newFunctionEnv scope env.globals cl [] env.qual none .none (some env)) (fun cenv s₄ =>
      codeAny (model prog w) A (.compStart (.ListComp elt [⟨target, iter, [], 0⟩] scope pos) 0 (.ref s₁.heap.objs.size) acc { cenv with scope := relabel scope env }) (RR acc cenv.locals) s₄) E s₃) E { s₁ with heap := s₁.heap.push oI } := by
    intro oI fp St W hst hfp hLf hIo
    have up : ∀ b o, s₁.heap.get? b = some o → (s₁.heap.push oI).get? b = some o := fun b o e => Heap.get?_push_of_some _ e
    have old : ∀ {a : Addr}, (s₁.heap.push oI).get? a = none → s₁.heap.get? a = none := fun e => keep_none up e
    have nI : ∀ {a : Addr} {o : Obj}, s₁.heap.get? a = some o → a ≠ s₁.heap.objs.size := fun e => Nat.ne_of_lt (Heap.lt_size e)
    refine comp_blk (PX := PX) (ds := ds) W hsz hcell hkind hst hfp hLf (F.keeps up) hLI hI₀ ?_ ?_
    · intro C Dd i v h ys hCL hDL hCI hDI hCD hC₀ hD₀ hCs hDs hi hP F' hk hst' hO hD
      exact turn _ C Dd h ys ⟨F', fun a o h1 e => hk a o h1 (nI e) (up a o e), hO, hIo _ _ hst', hD, Ne.symm hLI, hCL, hDL, hCI, hDI, hCD, hI₀, hC₀, hD₀, fr, old hCs, old hDs⟩ i v hi hP
    · intro Dd C h tk mC ys hCL hDL hCD hC₀ hD₀ hCs hDs F' hD hn hk hR
      exact hRR _ s₁.heap.objs.size Dd C h tk mC ys fin hCL hDL hCD hC₀ hD₀ (old hCs) (old hDs) F' hD hn (fun a o h1 e => hk a o h1 (nI e) (up a o e)) hR
  refine hNo9 ?_
  clear hNo9
  rcases hsrc with ⟨ax, vs, rfl, hl, rfl, rfl⟩ | ⟨r, a, b, t, u, v, rfl, hr, hsm, hn, rfl⟩
  · have hlt : ax < s₁.heap.objs.size := by obtain ⟨_, e, _⟩ := hl; exact Heap.lt_size e
    have hLax : L ≠ ax := (isList_ne F.ns hl).symm
    refine wpAny_pyIter_list hl ?_
    have W := Walks.list (prog := prog) (w := w) hh s₁.heap.objs.size ax (Nat.ne_of_lt hlt) vs.toArray
    have W' : Walks prog w A s₁.heap.objs.size [s₁.heap.objs.size, ax] [s₁.heap.objs.size] vs.length (fun i v => vs[i]? = some v) (fun i h => h.IsListIter s₁.heap.objs.size ax i ∧ h.IsList ax vs.toArray) := by simpa using W
    refine body _ _ _ W' ⟨⟨_, Heap.get?_push_size _ rfl, rfl, rfl⟩, hl.push _⟩ (fun b hb => ?_) (by simpa using ⟨hLI, hLax⟩) (fun i h st => .inl ⟨_, _, st.1⟩)
    rw [Heap.size_push]
    rcases List.mem_cons.mp hb with rfl | hb
    · exact Nat.lt_succ_self _
    · rw [List.mem_singleton.mp hb]; exact Nat.lt_succ_of_lt hlt
  · refine wpAny_pyIter_range hr hsm ?_
    refine body _ _ _ (LCg.range_walks hh a n) (by show IsRangeIter _ _ _ _ _; rw [hn]; simpa using Heap.get?_push_size _ rfl) (fun b hb => ?_) (by simpa using hLI) (fun i h st => .inr ⟨_, _, _, st⟩)
    rw [List.mem_singleton.mp hb, Heap.size_push]; exact Nat.lt_succ_self _
theorem eval_comp {elt target iter : Expr} {scope : Scope} {cl : List (Str × Addr)} {pos : Pos} {Q : Value → Shared → Prop} (_F : Fr h₀ L s.heap m)
    (hclos : closureFor scope env = pure cl) (hcell : ∀ y ∈ scope.names, y.2 ≠ .cell) (hkind : scope.kind = .function) (hnames : ∀ y ∈ scope.names, y.2 = .local → scope.names.lookup y.1 = some .local)
    (h : wpAny (model prog w) A (eval iter env) (CSrc PX prog w A h₀ L m (fun _ => m) env target elt scope cl (fun s₁ Dd h tk => Q (.ref Dd) { s₁ with heap := h, toks := tk })) E s)
    (hs : ∀ x, foldedSetIterable iter env x = pure x := by intro _; rfl) :
    wpAny (model prog w) A (eval (.ListComp elt [⟨target, iter, [], 0⟩] scope pos) env) Q E s := by
  rw [eval_ListComp]
  refine wpAny_comprehension_free (use := none) rfl hs hclos hkind hnames (wpAny_mono h (fun xv s₁ S => ?_) fun _ _ e => e)
  refine comp_from (PX := PX) (RR := fun acc C => compPost (model prog w) A E none Q acc C) hcell hkind S ?_
  intro dsl I Dd C h tk mC ys fin hCL hDL hCD hC₀ hD₀ hCs hDs F' hD hn hk hR
  refine ⟨mC, hn, fun h'' hs'' => ?_⟩
  have nC : ∀ {a : Addr} {o : Obj}, s₁.heap.get? a = some o → a ≠ C := fun e => Ne.symm (some_ne hCs e)
  exact fin Dd h'' tk ys ⟨F'.change hs'' hCL hC₀, hs''.extBut _ _ (Ne.symm hCD) hD, hDs, hD₀, hDL, fun a o h1 e => hs''.extBut _ _ (nC e) (hk a o h1 e), (hR.kept fun a o p _ e => hs''.extBut _ _ p.2.2.1 e).weaken fun a p => ⟨p.1, p.2.2.2⟩⟩
theorem assign_comp {elt target iter : Expr} {y : Str} {py : Pos} {scope : Scope} {cl : List (Str × Addr)} {pos spos : Pos} {Q : Flow → Shared → Prop} (_F : Fr h₀ L s.heap m) (hLe : env.locals = L)
    (hsw : swapsWith (.ListComp elt [⟨target, iter, [], 0⟩] scope pos) (some (.Name y py)) spos.line env = pure true)
    (hclos : closureFor scope env = pure cl) (hcell : ∀ y ∈ scope.names, y.2 ≠ .cell) (hkind : scope.kind = .function) (hnames : ∀ y ∈ scope.names, y.2 = .local → scope.names.lookup y.1 = some .local)
    (hy : env.kindOf y = some .local) (hp : (env.scope.kind == .class || (env.scope.kind == .module && env.locals != env.globals)) = false)
    (h : wpAny (model prog w) A (eval iter env) (CSrc PX prog w A h₀ L m (fun Dd z => if z = y then some (.ref Dd) else m z) env target elt scope cl (fun s₁ Dd h tk => Q .next { s₁ with heap := h, toks := tk })) E s)
    (hs : ∀ x, foldedSetIterable iter env x = pure x := by intro _; rfl) :
    wpAny (model prog w) A (exec (.Assign [.Name y py] (.ListComp elt [⟨target, iter, [], 0⟩] scope pos) spos) env) Q E s := by
  subst hLe
  rw [exec_Assign_Name_used _ _ _ _ hsw]
  refine wpAny_bind (wpAny_standAt (wpAny_bind ?_))
  show wpAny _ A (do let _ ← comprehension (.ListComp elt [⟨target, iter, [], 0⟩] scope pos) scope env _ (newList []) false (eval iter env) (some (assign (.Name y py) env))) _ _ s
  refine wpAny_bind (wpAny_mono (wpAny_comprehension_free (use := some (assign (.Name y py) env)) (Q := fun _ s' => Q .next s') rfl hs hclos hkind hnames
    (wpAny_mono h (fun xv s₁ S => ?_) fun _ _ e => e)) (fun _ s' hq => wpAny_pure (wpAny_pure hq)) fun _ _ e => e)
  refine comp_from (PX := PX) (RR := fun acc C => compPost (model prog w) A E (some (assign (.Name y py) env)) (fun _ s' => Q .next s') acc C) hcell hkind S ?_
  intro dsl I Dd C h tk mC ys fin hCL hDL hCD hC₀ hD₀ hCs hDs F' hD hn hk hR
  show wpAny _ A (assign (.Name y py) env (.ref Dd)) _ _ _
  refine wpAny_assign_Name (wpAny_storeName_local hy F'.ns (fun h₂ hn₂ hs₂ => ?_) hp)
  have hL₀ : h₀.get? env.locals = none := Heap.get?_none_of_le F'.above
  have F₂ : Fr h₀ env.locals h₂ (fun z => if z = y then some (.ref Dd) else m z) := ⟨hn₂, fun b o e => hs₂.extBut b o (fun q => by rw [q, hL₀] at e; cases e) (F'.keep b o e), F'.above⟩
  refine ⟨mC, hn.sameBut hs₂ hCL, fun h'' hs'' => ?_⟩
  have nC : ∀ {a : Addr} {o : Obj}, s₁.heap.get? a = some o → a ≠ C := fun e => Ne.symm (some_ne hCs e)
  have nD : Dd ≠ C := Ne.symm hCD
  refine fin Dd h'' _ ys ⟨F₂.change hs'' hCL hC₀, hs''.extBut _ _ nD (hs₂.extBut _ _ hDL hD), hDs, hD₀, hDL, fun a o h1 e => hs''.extBut _ _ (nC e) (hs₂.extBut _ _ h1 (hk a o h1 e)), (hR.kept fun a o p _ e => hs''.extBut _ _ p.2.2.1 (hs₂.extBut _ _ p.1 e)).weaken fun a p => ⟨p.1, p.2.2.2⟩⟩
end

theorem begin_C3 : True := by
  w_on
  w_top off
  k_with_none
  k_with "om" => (law_clear; first | with_reducible assumption | (law_purse 20000 => grind))
  k_with "guard" => skip
  trivial
set_option maxHeartbeats 2000000
theorem ItI.get {h : Heap} {I : Addr} (x : ItI h I) : ∃ oI, h.get? I = some oI := by
  rcases x with ⟨l, j, o, e, _⟩ | ⟨a, b, c, e⟩
  · exact ⟨o, e⟩
  · exact ⟨_, e⟩
theorem ItI.ne {h : Heap} {I a : Addr} {items : Array Value} (x : ItI h I) (hl : h.IsList a items) : a ≠ I := by
  rcases x with ⟨l, j, o, e, hc, _⟩ | ⟨x, b, c, e⟩
  · rintro rfl
    obtain ⟨o2, ho2, hc2, _⟩ := hl
    rw [e] at ho2; cases ho2
    have q := hc.symm.trans hc2
    injection q with q
    exact absurd q (by decide)
  · exact isRangeIter_ne' e hl
where
  isRangeIter_ne' {h : Heap} {I a : Addr} {x l c : Int} {items : Array Value} (hi : IsRangeIter h I x l c) (hl : h.IsList a items) : a ≠ I := by
    rintro rfl
    obtain ⟨o2, ho2, hc, n, hd2⟩ := hl
    unfold IsRangeIter at hi
    rw [hi] at ho2
    cases ho2
    cases hd2
theorem ItI.keeps {h h' : Heap} {I : Addr} (x : ItI h I) (k : ∀ o, h.get? I = some o → h'.get? I = some o) : ItI h' I := by
  rcases x with ⟨l, j, o, e, r⟩ | ⟨x, b, c, e⟩
  · exact .inl ⟨l, j, o, k _ e, r⟩
  · exact .inr ⟨x, b, c, k _ e⟩
mutual
theorem Rep.offI {P : Addr → Prop} {h : Heap} {I : Addr} (n : ItI h I) : ∀ {v : Value} {d : D}, Rep P h v d → Rep (fun a => P a ∧ a ≠ I) h v d
  | _, _, .int i t => .int i t
  | _, _, .byt t e => .byt t e
  | _, _, .lst p l r => .lst ⟨p, n.ne l⟩ l (Reps.offI n r)
theorem Reps.offI {P : Addr → Prop} {h : Heap} {I : Addr} (n : ItI h I) : ∀ {vs : List Value} {ds : List D}, Reps P h vs ds → Reps (fun a => P a ∧ a ≠ I) h vs ds
  | _, _, .nil => .nil
  | _, _, .cons x r => .cons (Rep.offI n x) (Reps.offI n r)
end
section
variable {PX : Addr → Prop} {prog : Program} {w : World} {A : Around} {E : Value → Shared → Prop} {s : Shared} {h₀ : Heap} {L : Addr} {m : Str → Option Value} {env : Env}
/-- what stands when the element is asked -/
structure ElAt (h₀ : Heap) (L : Addr) (m : Str → Option Value) (I C Dd : Addr) (h h₂ : Heap) (ys : List Value) (lits : List (Addr × Obj)) (oI oC : Obj) (mC : Str → Option Value) : Prop where
  F : Fr h₀ L h₂ m
  N : News h₀ L h₂ ((I, oI) :: (C, oC) :: (Dd, LCg.lst ys) :: lits)
  nsC : LCg.NsObj oC mC
  keep : ∀ a o, a ≠ C → h.get? a = some o → h₂.get? a = some o
  it : ItI h₂ I
  ne : (@Ne Nat I C) ∧ (@Ne Nat I Dd) ∧ (@Ne Nat C Dd)
theorem elAt_of {hs h h₂ : Heap} {I C Dd : Addr} {ys : List Value} {lits : List (Addr × Obj)} {mC : Str → Option Value} (X : CmpIn h₀ L m hs I C Dd h ys) (N : News h₀ L hs lits) (hx : ∀ a o, a ≠ C → h.get? a = some o → h₂.get? a = some o) (hn : h₂.Ns C mC) :
    ∃ oI oC, ElAt h₀ L m I C Dd h h₂ ys lits oI oC mC := by
  obtain ⟨oI, eI⟩ := X.getI.get
  obtain ⟨oC, eC, hC⟩ := LCg.ns_obj hn
  refine ⟨oI, oC, ⟨X.F.ns.at' fun o e => hx _ o (Ne.symm X.CL) e, fun b o e => hx b o (fun q => by rw [q, X.C0] at e; cases e) (X.F.keep b o e), X.F.above⟩, fun p hp => ?_, hC, hx, X.getI.keeps fun o e => hx _ o (Ne.symm X.CI) e, Ne.symm X.CI, Ne.symm X.DI, X.CD⟩
  rcases List.mem_cons.mp hp with rfl | hp
  · exact ⟨hx _ _ (Ne.symm X.CI) eI, X.IL, X.I0⟩
  rcases List.mem_cons.mp hp with rfl | hp
  · exact ⟨eC, X.CL, X.C0⟩
  rcases List.mem_cons.mp hp with rfl | hp
  · exact ⟨hx _ _ (Ne.symm X.CD) X.getD, X.DL, X.D0⟩
  · have z := N p hp
    exact ⟨hx _ _ (fun q => by have := z.1; rw [q, X.Cs] at this; cases this) (X.keep _ _ z.2.1 z.1), z.2⟩
theorem elTurn_name {hs h : Heap} {I C Dd : Addr} {ys : List Value} {lits : List (Addr × Obj)} {scope : Scope} {cl : List (Str × Addr)} {x : Str} {px : Pos} {elt : Expr} {v : Value} {d : D} (X : CmpIn h₀ L m hs I C Dd h ys) (N : News h₀ L hs lits)
    (hx : scope.names.lookup x = some .local) (hkind : scope.kind = .function)
    (go : ∀ h₂ tk oI oC mC, ElAt h₀ L m I C Dd h h₂ ys lits oI oC mC → mC x = some v → wpAny (model prog w) A (eval elt (compEnvC scope cl C env)) (ElEnd PX h₀ L m [C] (OwnC C) I Dd h s d) (fun _ _ => False) { s with heap := h₂, toks := tk }) :
    ElTurn PX prog w A h₀ L m [C] (OwnC C) I Dd (.Name x px) elt (compEnvC scope cl C env) v h s d := by
  intro tk
  obtain ⟨mC, hn⟩ := X.nsC
  refine wpAny_pure ?_
  refine wpAny_assign_Name (wpAny_storeName_local (lookup_relabel_local hx) hn (fun h₂ hn₂ hs₂ => ?_) (by simp [compEnvC, relabel, hkind]))
  obtain ⟨oI, oC, Z⟩ := elAt_of X N (fun a o ha e => hs₂.extBut a o ha e) hn₂
  exact go h₂ _ oI oC _ Z (by simp)
theorem elTurn_two {hs h : Heap} {I C Dd t : Addr} {ys : List Value} {lits : List (Addr × Obj)} {scope : Scope} {cl : List (Str × Addr)} {x y : Str} {px py pt : Pos} {x1} {elt : Expr} {v1 v2 : Value} {d : D} (X : CmpIn h₀ L m hs I C Dd h ys) (N : News h₀ L hs lits) (hh : A.handled = none)
    (hl : h.IsList t [v1, v2].toArray) (hx : scope.names.lookup x = some .local) (hy : scope.names.lookup y = some .local) (hxy : x ≠ y) (hkind : scope.kind = .function)
    (go : ∀ h₂ tk oI oC mC, ElAt h₀ L m I C Dd h h₂ ys lits oI oC mC → mC x = some v1 → mC y = some v2 → wpAny (model prog w) A (eval elt (compEnvC scope cl C env)) (ElEnd PX h₀ L m [C] (OwnC C) I Dd h s d) (fun _ _ => False) { s with heap := h₂, toks := tk }) :
    ElTurn PX prog w A h₀ L m [C] (OwnC C) I Dd (.Tuple [.Name x px, .Name y py] x1 pt) elt (compEnvC scope cl C env) (.ref t) h s d := by
  intro tk
  obtain ⟨mC, hn⟩ := X.nsC
  have hown : wpAny (model prog w) A (letOwnedTupleGo (.Tuple [.Name x px, .Name y py] x1 pt) (.ref I) (.ref t)) (fun _ s' => s' = { s with heap := h, toks := tk }) (fun _ _ => False) { s with heap := h, toks := tk } := by
    rcases X.getI with ⟨l, j, hit⟩ | ⟨a, b, c, hit⟩
    · exact wpAny_letOwnedTupleGo_listiter hit rfl
    · unfold letOwnedTupleGo
      refine wpAny_bind (wpAny_load hit ?_)
      exact wpAny_pure rfl
  refine wpAny_mono hown (fun _ s' e => ?_) fun _ _ e => e
  subst e
  rw [assign_Tuple]
  refine wpAny_bind (wpAny_standAt ?_)
  unfold unpack
  have hlen : (assignEach [Expr.Name x px, Expr.Name y py] (compEnvC scope cl C env)).length = [v1, v2].toArray.size := rfl
  have hstar : (assignEach [Expr.Name x px, Expr.Name y py] (compEnvC scope cl C env)).findIdx? (·.1) = none := rfl
  rw [hlen, hstar]
  refine wpAny_bind (wpAny_holding (kun_itemsOf hh hl fun h₁ he => ?_))
  have k₁ : ∀ a o, h.get? a = some o → h₁.get? a = some o := fun a o e => he a o (Nat.ne_of_lt (Heap.lt_size e)) e
  refine assignInOrder_cons (wpAny_assign_Name (wpAny_storeName_local (lookup_relabel_local hx) (hn.at' fun o e => k₁ _ o e) (fun h₂ hn₂ hs₂ => ?_) (by simp [compEnvC, relabel, hkind])))
  refine assignInOrder_cons (wpAny_assign_Name (wpAny_storeName_local (lookup_relabel_local hy) hn₂ (fun h₃ hn₃ hs₃ => ?_) (by simp [compEnvC, relabel, hkind])))
  refine assignInOrder_nil ?_
  obtain ⟨oI, oC, Z⟩ := elAt_of X N (fun a o ha e => hs₃.extBut a o ha (hs₂.extBut a o ha (k₁ a o e))) hn₃
  exact go h₃ _ oI oC _ Z (by simp [hxy]) (by simp)
theorem elTurn_three {hs h : Heap} {I C Dd t : Addr} {ys : List Value} {lits : List (Addr × Obj)} {scope : Scope} {cl : List (Str × Addr)} {x y z : Str} {px py pz pt : Pos} {x1} {elt : Expr} {v1 v2 v3 : Value} {d : D} (X : CmpIn h₀ L m hs I C Dd h ys) (N : News h₀ L hs lits) (hh : A.handled = none)
    (hl : h.IsList t [v1, v2, v3].toArray) (hx : scope.names.lookup x = some .local) (hy : scope.names.lookup y = some .local) (hz : scope.names.lookup z = some .local) (hxy : x ≠ y) (hxz : x ≠ z) (hyz : y ≠ z) (hkind : scope.kind = .function)
    (go : ∀ h₂ tk oI oC mC, ElAt h₀ L m I C Dd h h₂ ys lits oI oC mC → mC x = some v1 → mC y = some v2 → mC z = some v3 → wpAny (model prog w) A (eval elt (compEnvC scope cl C env)) (ElEnd PX h₀ L m [C] (OwnC C) I Dd h s d) (fun _ _ => False) { s with heap := h₂, toks := tk }) :
    ElTurn PX prog w A h₀ L m [C] (OwnC C) I Dd (.Tuple [.Name x px, .Name y py, .Name z pz] x1 pt) elt (compEnvC scope cl C env) (.ref t) h s d := by
  intro tk
  obtain ⟨mC, hn⟩ := X.nsC
  have hown : wpAny (model prog w) A (letOwnedTupleGo (.Tuple [.Name x px, .Name y py, .Name z pz] x1 pt) (.ref I) (.ref t)) (fun _ s' => s' = { s with heap := h, toks := tk }) (fun _ _ => False) { s with heap := h, toks := tk } := by
    rcases X.getI with ⟨l, j, hit⟩ | ⟨a, b, c, hit⟩
    · exact wpAny_letOwnedTupleGo_listiter hit rfl
    · unfold letOwnedTupleGo
      refine wpAny_bind (wpAny_load hit ?_)
      exact wpAny_pure rfl
  refine wpAny_mono hown (fun _ s' e => ?_) fun _ _ e => e
  subst e
  rw [assign_Tuple]
  refine wpAny_bind (wpAny_standAt ?_)
  unfold unpack
  have hlen : (assignEach [Expr.Name x px, Expr.Name y py, Expr.Name z pz] (compEnvC scope cl C env)).length = [v1, v2, v3].toArray.size := rfl
  have hstar : (assignEach [Expr.Name x px, Expr.Name y py, Expr.Name z pz] (compEnvC scope cl C env)).findIdx? (·.1) = none := rfl
  rw [hlen, hstar]
  refine wpAny_bind (wpAny_holding (kun_itemsOf hh hl fun h₁ he => ?_))
  have k₁ : ∀ a o, h.get? a = some o → h₁.get? a = some o := fun a o e => he a o (Nat.ne_of_lt (Heap.lt_size e)) e
  refine assignInOrder_cons (wpAny_assign_Name (wpAny_storeName_local (lookup_relabel_local hx) (hn.at' fun o e => k₁ _ o e) (fun h₂ hn₂ hs₂ => ?_) (by simp [compEnvC, relabel, hkind])))
  refine assignInOrder_cons (wpAny_assign_Name (wpAny_storeName_local (lookup_relabel_local hy) hn₂ (fun h₃ hn₃ hs₃ => ?_) (by simp [compEnvC, relabel, hkind])))
  refine assignInOrder_cons (wpAny_assign_Name (wpAny_storeName_local (lookup_relabel_local hz) hn₃ (fun h₄ hn₄ hs₄ => ?_) (by simp [compEnvC, relabel, hkind])))
  refine assignInOrder_nil ?_
  obtain ⟨oI, oC, Z⟩ := elAt_of X N (fun a o ha e => hs₄.extBut a o ha (hs₃.extBut a o ha (hs₂.extBut a o ha (k₁ a o e)))) hn₄
  exact go h₄ _ oI oC _ Z (by simp [hxy, hxz]) (by simp [hyz]) (by simp)
/-- all that a heap bears beyond its frame stays -/
theorem Base.all {g h h' : Heap} {lits led news' : List (Addr × Obj)} {m' : Str → Option Value} (B : Base g L (lits.map (·.1)) h led) (N : News g L h (lits ++ led)) (F' : Fr g L h' m') (N' : News g L h' news') (hs : ∀ p ∈ lits ++ led, p ∈ news') :
    ∀ a o, a ≠ L → h.get? a = some o → h'.get? a = some o := by
  intro a o hL e
  by_cases hl : a ∈ lits.map (·.1)
  · obtain ⟨p, hp, rfl⟩ := List.mem_map.mp hl
    have z := (N p (List.mem_append_left _ hp)).1
    rw [e] at z; cases z
    exact (N' p (hs p (List.mem_append_left _ hp))).1
  · exact B.get e hL hl F' N' fun p hp => hs p (List.mem_append_right _ hp)
theorem el_end {h h₂ h' : Heap} {I C Dd : Addr} {ys : List Value} {lits led news' : List (Addr × Obj)} {oI oC : Obj} {mC : Str → Option Value} {d : D} {y : Value} {tk : Nat} (Z : ElAt h₀ L m I C Dd h h₂ ys lits oI oC mC)
    (B : Base h₀ L (((I, oI) :: (C, oC) :: (Dd, LCg.lst ys) :: lits).map (·.1)) h₂ led) (N : News h₀ L h₂ (((I, oI) :: (C, oC) :: (Dd, LCg.lst ys) :: lits) ++ led)) (F' : Fr h₀ L h' m) (N' : News h₀ L h' news')
    (hs : ∀ p ∈ ((I, oI) :: (C, oC) :: (Dd, LCg.lst ys) :: lits) ++ led, p ∈ news') (hr : Rep (fun a => a ≠ Dd ∧ PX a) h' y d) : ElEnd PX h₀ L m [C] (OwnC C) I Dd h s d y { s with heap := h', toks := tk } := by
  have k := Base.all B N F' N' hs
  have hC' := (N' (C, oC) (hs _ (.tail _ (.head _)))).1
  have hn' := Z.nsC.ns hC'
  have it' := Z.it.keeps fun o e => k _ o (Z.N _ (.head _)).2.1 e
  refine ⟨h', tk, rfl, F', ⟨mC, hn'⟩, fun a o h1 h2 e => k a o h1 (Z.keep a o (by simpa using h2) e), ?_⟩
  have r1 := hr.off F'.ns
  have r2 := r1.off hn'
  exact (Rep.offI it' r2).weaken fun a p => ⟨p.1.1.2, p.2, by simpa using p.1.2, p.1.1.1⟩
end

theorem begin_B17 : True := by
  w_on
  w_top off
  k_with_none
  k_with "om" => (law_clear; first | with_reducible assumption | (law_purse 20000 => grind))
  k_with "guard" => skip
  trivial
set_option maxHeartbeats 8000000
section
variable {w : World} {A : Around} {s : Shared} {p : Program} {loose : List Str} {mean : ExcName → Option Value} {mg mb : Str → Option Value}
  {name qual : Str} {params : Arguments} {body : List Stmt} {scope : Scope} {dV kV doc pm cdv ct oc : Value} {an od : Option Addr} {osl : Array (Option Value)} {f : Addr} {pos : List Value} {kw : List (Str × Value)} {binds : List (Str × Value)}
theorem enter_defC {Q E : Value → Shared → Prop} (X : (hd.heap_1 w.params).In s.heap) (T : Top p loose mean mg mb s.heap)
    (ho : (hd.heap_1 w.params).lookup f = some ⟨oc, od, .func (fnOf name qual params body scope dV kV doc pm an cdv ct), osl⟩) (hcd : codeIn (hd.heap_1 w.params) cdv qual = true) (hroom : A.depth < recursionLimit)
    (hbind : BindsTo s (fnOf name qual params body scope dV kV doc pm an cdv ct) ⟨pos, kw⟩ binds)
    (hkind : ∀ n, ∀ x ∈ binds, scope.names.lookup x.1 = some .local ∨ (scope.names.lookup x.1 = some .cell ∧ ((cellsFrom n scope.names []).lookup x.1).isSome = true))
    (hnd : ((cellsFrom 0 scope.names []).map (·.1)).Nodup)
    (h : ∀ L h₁ tk cells, Fr s.heap L h₁ (bindL (envOfC qual scope L f cdv).kindOf binds fun _ => none) → News s.heap L h₁ cells → CellsAre (bindC (envOfC qual scope L f cdv).kindOf binds fun _ => none) (cellsFrom (L + 1) scope.names []) cells →
      wpAny (model PySem.Challenge.rw_qh0094_01.row.prog w) (A.deeper (envOfC qual scope L f cdv)) (execs body (envOfC qual scope L f cdv))
        (fun fl s' => Q (match fl with | .ret v => v | _ => .none) s') (fun _ _ => False) { s with heap := h₁, toks := tk })
    (hco : scope.isCoroutine = false) (hgen : scope.isGenerator = false) (hk : scope.kind = .function) : wpAny (model PySem.Challenge.rw_qh0094_01.row.prog w) A (call (.ref f) pos kw) Q E s := by
  refine wpAny_call ?_
  refine codeAny_call_function (fd := fnOf name qual params body scope dV kV doc pm an cdv ct) (body := body) hroom (X _ _ ho) rfl hco hgen rfl (codeRec_of X hcd) (hbind _ _ _ _ ?_)
  refine wpAny_newFunctionEnv_cells hk (hkind _) fun env' he s' x => ?_
  subst he
  refine ⟨T.nolimit.keeps x.toInCall.keep, codeAny_func ?_⟩
  refine @by_no _ fun hNo9 => ?_
  obtain ⟨h₁, tk, rfl, _⟩ := x.done
  obtain ⟨cells, NC, Y⟩ := Cl.news (h₀ := s.heap) (Nat.le_refl _) fun n c hm => ⟨x.cell n c (lookup_of_mem_nodup (cellsFrom_names scope.names 0 (s.heap.objs.size + 1) [] [] rfl ▸ hnd) hm), x.above n c hm⟩
  refine hNo9 ?_
  clear hNo9
  exact wpAny_mono (h s.heap.objs.size h₁ tk cells ⟨x.toInCall.ns, x.toInCall.keep, Nat.le_refl _⟩ NC Y) (fun _ _ x => x) (fun _ _ x => x.elim)
end
theorem kw_B17_1 : True := by
  k_with_none
  k_with "om" => (law_clear; first | with_reducible assumption | (law_purse 20000 => grind))
  k_with "eval BinOp" => (k_here; (with_reducible show wpAny _ _ (eval (Expr.BinOp (Expr.Name _ _) _ (Expr.Constant (Const.int _) _ _) _) _) _ _ _); k_dflt (refine binNC (by k_asm) (by rfl) ?_ (by rfl) (by rfl) (by decide)); (try dsimp only))
  k_with "eval BinOp" => (k_here; (with_reducible show wpAny _ _ (eval (Expr.BinOp (Expr.Name _ _) _ (Expr.Name _ _) _) _) _ _ _); k_dflt (refine binNN (by k_asm) (by rfl) (by rfl) ?_ (by rfl) (by rfl) (by rfl) (by decide) (by decide)); (try dsimp only))
  k_with "isTrue Compare" => (k_here; (with_reducible show wpAny _ _ (isTrue (Expr.Compare (Expr.Name _ _) [_] [Expr.Constant (Const.int _) _ _] _) _ _) _ _ _); k_dflt (refine isNC (by k_asm) (by rfl) ?_ (by rfl) (by rfl) (by decide) (by with_unfolding_all rfl)); (try dsimp only))
  k_with "guard" => ((fail_if_success (with_reducible show Exists _)); (fail_if_success (with_reducible show wpAny _ _ (pyIter _) _ _ _)); (fail_if_success (with_reducible show wpAny _ _ (exec (Stmt.For _ _ _ _ _) _) _ _ _)); (fail_if_success (with_reducible show wpAny _ _ (exec (Stmt.While _ _ _ _) _) _ _ _)); (fail_if_success (with_reducible show wpAny _ _ (eval (Expr.ListComp _ _ _ _) _) _ _ _)); (fail_if_success (with_reducible show wpAny _ _ (call (Value.ref 206) _ _) _ _ _)); (fail_if_success (with_reducible show ElEnd _ _ _ _ _ _ _ _ _ _ _ _ _)); (fail_if_success (with_reducible show CSrc _ _ _ _ _ _ _ _ _ _ _ _ _ _ _ _)))
  k_with "assign Tuple" => ((k_here; k_dflt (refine kun_list (by k_asm) (by k_asm) (by is_list) (by rfl) (by rfl) (by rfl) ?_; k_whole); intro h' F' N'; (try dsimp only)); (try (revert h' F' N'; intros)))
  k_with "binaryOp Add ref ref" => ((k_here; (with_reducible show wpAny _ _ (binaryOp _ (Value.ref _) (Value.ref _)) _ _ _); k_dflt (refine kmk_add_lit (by k_asm) (by k_asm) (by is_list) (by is_list) (by exact rfl) ?_ (by (simp only [sizeLine_eq, List.toList_toArray, List.length_cons, List.length_nil]; omega))); intro D' h' F' N' l1; (try k_lt l1); (try k_sweep); (try simp only [List.toList_toArray] at N')); (try (revert D' h' F' N' l1; intros)))
  k_with "call builtin:len" => (k_here; (with_reducible show wpAny _ _ (call (Value.builtin "len") [Value.ref _]) _ _ _); (refine len_list (by is_list) (by simp only [List.size_toArray, List.length_append, List.length_cons, List.length_nil]; omega) ?_); (try simp only [List.size_toArray, List.length_append, List.length_cons, List.length_nil]); (try k_whole))
  k_with "subscriptTail" => ((k_here; (with_reducible show wpAny _ _ (subscriptTail _ (Expr.Slice none (some _) none _) (Value.ref _) (Value.ref _)) _ _ _); (with_reducible rename Fr _ _ _ _ => F'); (with_reducible rename News _ _ _ _ => N'); (refine slice_m2 (s := ⟨_, _, _, _, _⟩) F' N' (by is_list) ?_ (by omega)); intro D' h' F' N' l1; (try k_lt l1); (try k_sweep); (try dsimp only)); (try (revert D' h' F' N' l1; intros)))
  k_with "subscriptTail" => (k_here; (with_reducible show wpAny _ _ (subscriptTail _ _ (Value.ref _) (Value.int (-2) _)) _ _ _); (refine kde_neg (by is_list) (by decide) (by decide) (seqIndex_m2 _ _ _) (get_m2 _ _ _) ?_))
  k_with "subscriptTail" => (k_here; (with_reducible show wpAny _ _ (subscriptTail _ _ (Value.ref _) (Value.int (-1) _)) _ _ _); (refine kde_neg (by is_list) (by decide) (by decide) (seqIndex_m1 _ _ _) (get_m1 _ _ _) ?_))
  trivial
noncomputable abbrev Rw := Int × List Int
noncomputable abbrev Pcs := Int × List Int × Int
noncomputable def pieceD (q : Pcs) : D := .lst [.int q.1, .lst (q.2.1.map .int), .int q.2.2]
noncomputable def rowD (q : Rw) : D := .lst [.int q.1, .lst (q.2.map .int)]
noncomputable def joinTopR : List Rw → List Rw
  | b :: a :: r => (a.1, a.2 ++ b.2) :: r
  | r => r
noncomputable def joinTopsR : Nat → List Rw → List Rw
  | 0, st => st
  | n + 1, st => joinTopR (joinTopsR n st)
noncomputable def layR (st : List Rw) (q : Pcs) : List Rw := joinTopsR (min q.2.2.toNat st.length) ((q.1, q.2.1) :: st)
noncomputable def stR (pcs : List Pcs) (i : Nat) : List Rw := (pcs.take i).foldl layR []
noncomputable def toldD (x y : Int) (st : List Rw) : D := .lst (st.reverse.map fun q => .lst [.int q.1, .byt (wrK x y q.1 q.2)])
structure StOk (st : List Rw) (n B : Nat) : Prop where
  all : ∀ q ∈ st, K4 q.1 ∧ Oct q.2
  len : st.length ≤ n
  tot : (st.map fun q => q.2.length).sum ≤ B
theorem joinTopR_ok {st : List Rw} {n B : Nat} (h : StOk st n B) : StOk (joinTopR st) n B := by
  match st, h with
  | [], h => exact h
  | [a], h => exact h
  | b :: a :: r, h =>
    refine ⟨fun q hq => ?_, ?_, ?_⟩
    · rcases List.mem_cons.mp hq with rfl | hq
      · exact ⟨(h.all a (.tail _ (.head _))).1, (h.all a (.tail _ (.head _))).2.append (h.all b (.head _)).2⟩
      · exact h.all q (.tail _ (.tail _ hq))
    · have := h.len; simp only [joinTopR, List.length_cons] at *; omega
    · have := h.tot; simp only [joinTopR, List.map_cons, List.sum_cons, List.length_append] at *; omega
theorem joinTopsR_ok {n B : Nat} : ∀ (k : Nat) {st : List Rw}, StOk st n B → StOk (joinTopsR k st) n B
  | 0, _, h => h
  | k + 1, _, h => joinTopR_ok (joinTopsR_ok k h)
theorem joinTopsR_len (st : List Rw) : ∀ (k : Nat), k < st.length → (joinTopsR k st).length = st.length - k
  | 0, _ => rfl
  | k + 1, h => by
    have ih := joinTopsR_len st k (by omega)
    show (joinTopR (joinTopsR k st)).length = _
    match e : joinTopsR k st with
    | [] => rw [e] at ih; simp at ih; omega
    | [a] => rw [e] at ih; simp at ih; omega
    | b :: a :: r => rw [e] at ih; simp only [joinTopR, List.length_cons] at *; omega
structure PcOk (q : Pcs) : Prop where
  k4 : K4 q.1
  oct : Oct q.2.1
  j : 0 ≤ q.2.2 ∧ q.2.2 ≤ 1000
theorem stR_succ (pcs : List Pcs) (i : Nat) (q : Pcs) (h : pcs[i]? = some q) : stR pcs (i + 1) = layR (stR pcs i) q := by
  unfold stR
  rw [List.take_add_one, h, List.foldl_append]; rfl
theorem layR_ok {st : List Rw} {n B : Nat} {q : Pcs} (h : StOk st n B) (hq : PcOk q) : StOk (layR st q) (n + 1) (B + q.2.1.length) := by
  unfold layR
  refine joinTopsR_ok _ ⟨fun p hp => ?_, ?_, ?_⟩
  · rcases List.mem_cons.mp hp with rfl | hp
    · exact ⟨hq.k4, hq.oct⟩
    · exact h.all p hp
  · have := h.len; simp only [List.length_cons]; omega
  · have := h.tot; simp only [List.map_cons, List.sum_cons]; omega
noncomputable def totP (pcs : List Pcs) : Nat := (pcs.map fun q => q.2.1.length).sum
theorem stR_ok {pcs : List Pcs} (hp : ∀ q ∈ pcs, PcOk q) : ∀ i, i ≤ pcs.length → StOk (stR pcs i) i (totP (pcs.take i))
  | 0, _ => ⟨fun q hq => by simp [stR] at hq, Nat.le_refl _, Nat.le_refl _⟩
  | i + 1, hi => by
    have hg : pcs[i]? = some pcs[i] := List.getElem?_eq_getElem hi
    rw [stR_succ pcs i _ hg]
    have := layR_ok (stR_ok hp i (by omega)) (hp _ (List.getElem_mem hi))
    unfold totP at *
    rw [List.take_add_one, hg, List.map_append, List.sum_append]
    simpa using this
theorem totP_take (pcs : List Pcs) (i : Nat) : totP (pcs.take i) ≤ totP pcs := by
  unfold totP
  have e : pcs = pcs.take i ++ pcs.drop i := (List.take_append_drop i pcs).symm
  conv => rhs; rw [e]
  rw [List.map_append, List.sum_append]; omega
noncomputable def pilesM (pc : Value) (td hp kd rw jn k : Option Value) : Str → Option Value := fun q => if q = Str.ofString "k" then k else if q = Str.ofString "joins" then jn else if q = Str.ofString "row" then rw else if q = Str.ofString "kind" then kd else if q = Str.ofString "heaped" then hp else if q = Str.ofString "told" then td else if q = Str.ofString "pieces" then some pc else none
theorem list_offD {h : Heap} {a b : Addr} {o : Obj} {items : Array Value} (e : h.get? b = some o) (hd : ∀ its n, o.data ≠ .seq its n) (l : h.IsList a items) : a ≠ b := by
  rintro rfl
  refine @by_no _ fun hNo9 => ?_
  obtain ⟨o2, ho2, _, n, hd2⟩ := l
  rw [e] at ho2
  cases ho2
  refine hNo9 ?_
  clear hNo9
  exact hd _ _ hd2
theorem walks_list {prog : Program} {w : World} {A : Around} (hh : A.handled = none) (I ax : Addr) (hne : ax ≠ I) (vs : List Value) :
    Walks prog w A I [I, ax] [I] vs.length (fun i v => vs[i]? = some v) (fun i h => h.IsListIter I ax i ∧ h.IsList ax vs.toArray) := by simpa using Walks.list (prog := prog) (w := w) hh I ax hne vs.toArray
theorem Kept.push {P : Addr → Prop} {h : Heap} (o : Obj) : Kept P h (h.push o) := fun _ _ _ _ e => Heap.get?_push_of_some _ e
theorem Reps.newer {P : Addr → Prop} {h : Heap} {vs : List Value} {ds : List D} (r : Reps P h vs ds) : Reps (fun a => P a ∧ a ≠ h.objs.size) h vs ds := r.there.weaken fun a p => ⟨p.1, by
  obtain ⟨o, ho⟩ := Option.isSome_iff_exists.mp p.2
  exact Nat.ne_of_lt (Heap.lt_size ho)⟩
theorem Rep.newer {P : Addr → Prop} {h : Heap} {v : Value} {d : D} (r : Rep P h v d) : Rep (fun a => P a ∧ a ≠ h.objs.size) h v d := r.there.weaken fun a p => ⟨p.1, by
  obtain ⟨o, ho⟩ := Option.isSome_iff_exists.mp p.2
  exact Nat.ne_of_lt (Heap.lt_size ho)⟩
theorem joinTopsR_at (st : List Rw) (k : Nat) (h : k + 1 < st.length) : ∃ b a r, joinTopsR k st = b :: a :: r ∧ joinTopsR (k + 1) st = (a.1, a.2 ++ b.2) :: r := by
  have hl := joinTopsR_len st k (by omega)
  match e : joinTopsR k st with
  | [] => rw [e] at hl; simp at hl; omega
  | [a] => rw [e] at hl; simp at hl; omega
  | b :: a :: r => exact ⟨b, a, r, rfl, by show joinTopR (joinTopsR k st) = _; rw [e]; rfl⟩
mutual
theorem Rep.offD {P : Addr → Prop} {h : Heap} {b : Addr} {o : Obj} (e : h.get? b = some o) (hd : ∀ its n, o.data ≠ .seq its n) : ∀ {v : Value} {d : D}, Rep P h v d → Rep (fun a => P a ∧ a ≠ b) h v d
  | _, _, .int i t => .int i t
  | _, _, .byt t x => .byt t x
  | _, _, .lst p l r => .lst ⟨p, list_offD e hd l⟩ l (Reps.offD e hd r)
theorem Reps.offD {P : Addr → Prop} {h : Heap} {b : Addr} {o : Obj} (e : h.get? b = some o) (hd : ∀ its n, o.data ≠ .seq its n) : ∀ {vs : List Value} {ds : List D}, Reps P h vs ds → Reps (fun a => P a ∧ a ≠ b) h vs ds
  | _, _, .nil => .nil
  | _, _, .cons x r => .cons (Rep.offD e hd x) (Reps.offD e hd r)
end
theorem cell_no_seq {o : Obj} {c : Option Value} (h : o.data = .cell c) : ∀ its n, o.data ≠ .seq its n := fun _ _ e => by rw [h] at e; cases e
theorem item_at {prog : Program} {w : World} {A : Around} {E : Value → Shared → Prop} {s : Shared} {value slice : PySem.Expr} {l : Addr} {vs : List Value} {k : Int} {u : Tok} {v : Value} {Q : Value → Shared → Prop}
    (hx : vs[k.toNat]? = some v) (hl : s.heap.IsList l vs.toArray) (h0 : 0 ≤ k ∧ k < 2 ^ 62) (h : Q v s)
    (hs : subscripted slice false (.ref l) (.int k u) = operate [.ref l, .int k u] (getItem (.ref l) (.int k u)) := by with_unfolding_all rfl) : wpAny (model prog w) A (subscriptTail value slice (.ref l) (.int k u)) Q E s :=
  tail_any hl.typeIs slot_list_getitem.lookup (wpAny_getItem_list hl h0.1 (by omega) (by rw [List.getElem?_toArray]; exact hx) h) hs
theorem kw_B17_2 : True := by
  k_with "subscriptTail" => (k_here; (with_reducible show wpAny _ _ (subscriptTail _ _ (Value.ref _) (Value.int _ _)) _ _ _); (refine item_at (by assumption) (by is_list) (by assumption) ?_); (try dsimp only))
  trivial
theorem AL_in {x y : Int} (p : PairOk x y) : ∀ al ∈ AL x y, KBa.In al := by
  have hf : ∀ z ∈ FREE, 0 ≤ z ∧ z < 256 := by decide
  have hl : KBa.In LET := by unfold KBa.In; decide
  intro al hal
  simp only [AL, List.mem_cons, List.not_mem_nil, or_false] at hal
  rcases hal with rfl | rfl | rfl | rfl
  · exact in_app hl (by unfold KBa.In; decide)
  · exact in_app hl (by unfold KBa.In; decide)
  · refine in_app hl fun n hn => ?_
    simp only [List.mem_cons, List.not_mem_nil, or_false] at hn
    rcases hn with rfl | rfl
    · exact hf _ p.hx
    · exact hf _ p.hy
  · unfold KBa.In; decide
theorem sp_writtenK  {x y : Int} (pok : PairOk x y) (ra sa : Addr) (rv sv : List Value) (ks : List Int) (kind sz : Int) (ts : Tok) (hk : K4 kind) (hsz : sz = if kind = 3 then 4 else 6) (hr : IntsAre rv ks) (hs : IntsAre sv ((AL x y).getD kind.toNat [])) (hz : ks.length ≤ 10000) (hki : Oct ks) :
    Spec 206 [.ref ra, .ref sa, .int sz ts] [] 1 (fun h => h.IsList ra rv.toArray ∧ h.IsList sa sv.toArray) (fun v _ => ∃ r t', v = .bytes r t' ∧ KBw.bInts r = wrK x y kind ks) := by
  have hin := AL_in pok
  rcases hk with rfl | rfl | rfl | rfl
  · subst hsz; exact sp_written6 ra sa rv sv ks _ ts hr hs hz rfl hki (hin _ (.head _))
  · subst hsz; exact sp_written6 ra sa rv sv ks _ ts hr hs hz rfl hki (hin _ (.tail _ (.head _)))
  · subst hsz; exact sp_written6 ra sa rv sv ks _ ts hr hs hz rfl hki (hin _ (.tail _ (.tail _ (.head _))))
  · subst hsz; exact sp_written4 ra sa rv sv ks _ ts hr hs hz rfl hki (hin _ (.tail _ (.tail _ (.tail _ (.head _)))))
theorem ne_fresh {h : Heap} {a b : Addr} {items : Array Value} (l : h.IsList a items) (e : h.get? b = none) : a ≠ b := by
  rintro rfl
  obtain ⟨o, ho, _⟩ := l
  rw [e] at ho; cases ho
noncomputable def toldRow (x y : Int) (q : Rw) : D := .lst [.int q.1, .byt (wrK x y q.1 q.2)]
theorem K4.bd {k : Int} (h : K4 k) : 0 ≤ k ∧ k < 4 := by rcases h with rfl | rfl | rfl | rfl <;> decide
theorem map_getD {α β : Type} (f : α → β) (l : List α) (k : Nat) (a : α) (b : β) (h : k < l.length) : (l.map f).getD k b = f (l.getD k a) := by
  rw [List.getD_eq_getElem?_getD, List.getD_eq_getElem?_getD, List.getElem?_map, List.getElem?_eq_getElem h]; rfl
theorem le_sum_of {st : List Rw} {r : Rw} (h : r ∈ st) : r.2.length ≤ (st.map fun q => q.2.length).sum := by
  induction st with
  | nil => cases h
  | cons a s ih =>
    rw [List.map_cons, List.sum_cons]
    rcases List.mem_cons.mp h with rfl | h
    · omega
    · have := ih h; omega
theorem map_range_getD {α β : Type} (f : α → β) (l : List α) (d : α) : (List.range l.length).map (fun k => f (l.getD k d)) = l.map f := by
  refine List.ext_getElem (by simp) fun k h1 h2 => ?_
  simp only [List.getElem_map, List.getElem_range]
  congr 1
  rw [List.getD_eq_getElem?_getD, List.getElem?_eq_getElem (by simpa using h1)]; rfl
theorem sp_piles  {x y : Int} (pok : PairOk x y) (pa aa : Addr) (pv av : List Value) (pcs : List Pcs) (hpl : pcs.length ≤ 1000) (hpc : ∀ q ∈ pcs, PcOk q) (htot : totP pcs ≤ 1000) :
    Spec 246 [.ref pa, .ref aa] [] 3 (fun h => h.IsList pa pv.toArray ∧ Reps (fun _ => True) h pv (pcs.map pieceD) ∧ h.IsList aa av.toArray ∧ Reps (fun _ => True) h av ((AL x y).map fun al => .lst (al.map .int)))
      (fun v h => Rep (fun _ => True) h v (.lst ((List.range pcs.length).map fun i => toldD x y (stR pcs (i + 1))))) := by
  intro dp un fr gd h₀ gens drawn toks os Q E X T hp hd hu hret
  revert X; k_fill; intro X
  try dsimp only at hp hret
  k_dflt (refine' enter_defC ?k1 ?k2 ?k6 ?k7 ?k8 ?k9 ?kB ?nd ?_ ?c2 ?c3 ?c4; (case k1 => exact X); (case k2 => exact T); (case k6 => k_is); (case k7 => k_is); (case k8 => (show dp < _; omega)); (case k9 => first | exact BindsTo.of_eq rfl | exact binds_K X rfl (by k_is) rfl rfl rfl); (case kB => exact fun n => kinds_of ⟨.inl rfl, .inr ⟨rfl, rfl⟩, trivial⟩); (case nd => decide); (case c2 => exact rfl); (case c3 => exact rfl); (case c4 => exact rfl))
  intro L h₁ tk cells F N Y
  obtain ⟨oc, hce, hcd⟩ := CellsAre.one Y
  subst hce
  clear Y
  dsimp only at F N ⊢
  k_fold
  obtain ⟨hl1, hr1, hl2, hr2⟩ := hp
  have hcd : oc.data = .cell (some (.ref aa)) := hcd
  replace F := Fr.congr (m' := pilesM (.ref pa) none none none none none none) F (by
    intro q
    show (if q = Str.ofString "pieces" then some (Value.ref pa) else none) = _
    unfold pilesM
    by_cases c1 : q = Str.ofString "pieces"
    · subst c1; rfl
    · simp only [if_neg c1, ite_self])
  k_steps
  refine wpAny_For ?_
  k_steps
  refine @by_no _ fun hNo9 => ?_
  rename Fr _ _ _ _ => F2
  rename News _ _ _ _ => N2
  have hplen : pv.length = pcs.length := by rw [hr1.length]; simp
  obtain ⟨pl0, ta, N2, F2, ho1, ho2⟩ : ∃ pl0 ta : Nat, News h₀ L _ [(pl0, W.listOf #[] 0), (ta, W.listOf #[] 0), (L + 1, oc)] ∧ Fr h₀ L _ (fun y => if y = Str.ofString "heaped" then some (.ref pl0) else if y = Str.ofString "told" then some (.ref ta) else pilesM (.ref pa) none none none none none none y) ∧ @LT.lt Nat _ ta pl0 ∧ @LT.lt Nat _ (L + 1) ta := ⟨_, _, N2, F2, by omega, by omega⟩
  refine hNo9 ?_
  clear hNo9
  refine wpAny_pyIter_list (isList_keep hl1 fun o e => F2.keep _ o e) ?_
  dsimp only
  obtain ⟨hI0, hI0e⟩ : ∃ hI0, hI0 = heapOfFr F2 := ⟨_, rfl⟩
  dsimp only [heapOfFr] at hI0e
  rw [← hI0e] at F2 N2 ⊢
  have hLI : L ≠ hI0.objs.size := by
    obtain ⟨o, _, _, hL, _⟩ := F2.ns
    exact Nat.ne_of_lt (Heap.lt_size hL)
  have hIn : h₀.get? hI0.objs.size = none := next_is_new F2
  have hpaI : pa ≠ hI0.objs.size := by
    obtain ⟨o, ho, _⟩ := hl1
    exact Nat.ne_of_lt (Heap.lt_size (F2.keep _ _ ho))
  have htaI : ta ≠ hI0.objs.size := Nat.ne_of_lt (Heap.lt_size (N2 _ (.tail _ (.head _))).1)
  have hcI : L + 1 ≠ hI0.objs.size := Nat.ne_of_lt (Heap.lt_size (N2 _ (.tail _ (.tail _ (.head _)))).1)
  have hplI : pl0 ≠ hI0.objs.size := Nat.ne_of_lt (Heap.lt_size (N2 _ (.head _)).1)
  refine for_heap (walks_list rfl hI0.objs.size pa hpaI pv) (fun (i : Nat) (h : Heap) => Ex74 (α := (Option Value)) (β := (Option Value)) (γ := (Option Value)) (δ := (Option Value)) (ε := Addr) (ζ := (List Value)) (η := Nat) (fun okd orw ojn ok pl _ _ => Fr h₀ L h (pilesM (.ref pa) (some (.ref ta)) (some (.ref pl)) okd orw ojn ok)) (fun _ _ _ _ _ tv tn => News h₀ L h [(ta, W.listOf (List.toArray tv) tn), (L + 1, oc)]) (fun _ _ _ _ pl _ _ => Rep (fun a => a ≠ ta ∧ a ≠ hI0.objs.size) h (.ref pl) (.lst ((stR pcs i).reverse.map rowD))) (fun _ _ _ _ _ tv _ => Reps (fun a => a ≠ ta ∧ a ≠ hI0.objs.size) h tv ((List.range i).map fun j => toldD x y (stR pcs (j + 1))))) 0 (Nat.zero_le _) ?st ?J ?next ?go ?turn ?done
  case st => exact ⟨⟨_, Heap.get?_push_size _ rfl, rfl, rfl⟩, (isList_keep hl1 fun o e => F2.keep _ o e).push _⟩
  case J =>
    have N3 := N2.grown (fun _ _ e => Heap.get?_push_of_some (h := hI0) { cls := .type "list_iterator", data := .fields #[.ref pa, .int 0 0] } e)
    refine ⟨none, none, none, none, pl0, [], 0, Fr.congr (F2.push _) ?_, fun p hp => N3 p (.tail _ hp), .lst ⟨by refine neN ?_; omega, hplI⟩ (News.isList N3 (.head _)) .nil, .nil⟩
    intro q
    unfold pilesM
    by_cases c1 : q = Str.ofString "k"
    · subst c1; rfl
    by_cases c2 : q = Str.ofString "joins"
    · subst c2; rfl
    by_cases c3 : q = Str.ofString "row"
    · subst c3; rfl
    by_cases c4 : q = Str.ofString "kind"
    · subst c4; rfl
    by_cases c5 : q = Str.ofString "heaped"
    · subst c5; rfl
    by_cases c6 : q = Str.ofString "told"
    · subst c6; rfl
    simp only [if_neg c1, if_neg c2, if_neg c3, if_neg c4, if_neg c5, if_neg c6]
  case next =>
    intro i h h' ri7 hk
    refine @by_no _ fun hNo9 => ?_
    obtain ⟨okd, orw, ojn, ok, pl, tv, tn, F, N, R, RR⟩ := ri7
    refine hNo9 ?_
    clear hNo9
    refine ⟨okd, orw, ojn, ok, pl, tv, tn, ⟨F.ns.at' fun o e => hk _ o (by simpa using hLI) e, fun b o e => hk b o ?_ (F.keep b o e), F.above⟩, fun p hp => ⟨?_, (N p hp).2⟩, R.kept fun a o p _ e => hk a o (by simpa using p.2) e, RR.kept fun a o p _ e => hk a o (by simpa using p.2) e⟩
    · have := Nat.ne_of_lt (Heap.lt_size (F2.keep b o e))
      simpa using this
    · refine hk _ _ ?_ (N _ hp).1
      rcases List.mem_cons.mp hp with rfl | hp
      · simpa using htaI
      · obtain rfl := List.mem_singleton.mp hp; simpa using hcI
  case go =>
    intro i v h tk Q' E' hst hP hq
    refine @by_no _ fun hNo9 => ?_
    obtain ⟨v', e', r'⟩ := hr1.get i (.int 0) (by rw [List.length_map, ← hplen]; exact (List.getElem?_eq_some_iff.mp hP).1)
    cases hP.symm.trans e'
    obtain ⟨t, _, rfl, _⟩ := Rep.list_inv (ds := [.int (pcs.getD i default).1, .lst ((pcs.getD i default).2.1.map .int), .int (pcs.getD i default).2.2]) (by
      have hi : i < pcs.length := by rw [← hplen]; exact (List.getElem?_eq_some_iff.mp hP).1
      simpa [pieceD, List.getD_eq_getElem?_getD, List.getElem?_eq_getElem hi] using r')
    refine hNo9 ?_
    clear hNo9
    exact wpAny_letOwnedTupleGo_listiter hst.1 hq
  case turn =>
    intro i v h tk QB1 hQB1 _ _ hi hP ri8 hit
    refine @by_no _ fun hNo9 => ?_
    obtain ⟨okd, orw, ojn, ok, pl, tv, tn, F, N, R, RR⟩ := ri8
    refine hNo9 ?_
    clear hNo9
    dsimp only
    refine @by_no _ fun hno => ?_
    refine @by_no _ fun hNo9 => ?_
    have keepPa : ∀ o, h.get? pa = some o → h₀.get? pa = some o := fun o e => by
      obtain ⟨o', ho', _⟩ := hl1
      have := F.keep _ _ ho'
      rw [e] at this
      cases this
      exact ho'
    rw [hplen] at hi
    obtain ⟨q, hq⟩ : ∃ q, pcs[i]? = some q := ⟨_, List.getElem?_eq_getElem hi⟩
    have hqm := List.mem_of_getElem? hq
    obtain ⟨v', e', r'⟩ := hr1.get i (.int 0) (by rw [List.length_map]; exact hi)
    cases hP.symm.trans e'
    rw [List.getD_eq_getElem?_getD, List.getElem?_map, hq] at r'
    replace r' : Rep (fun _ => True) h₀ v (.lst [.int q.1, .lst (q.2.1.map .int), .int q.2.2]) := r'
    obtain ⟨t, tvs, rfl, _, lt, r'⟩ := r'.list_inv
    obtain ⟨vk, _, rfl, rk, r'⟩ := r'.cons_inv
    obtain ⟨vr, _, rfl, rr, r'⟩ := r'.cons_inv
    obtain ⟨vj, _, rfl, rj, r'⟩ := r'.cons_inv
    obtain rfl := r'.nil_inv
    obtain ⟨tk1, rfl⟩ := rk.int_inv
    obtain ⟨tk2, rfl⟩ := rj.int_inv
    obtain ⟨ra, rvs, rfl, _, lr, rr⟩ := rr.list_inv
    have hints := rep_ints rr
    obtain ⟨qkd, qr, qj⟩ := q
    dsimp only at hints
    have hqo := hpc _ hqm
    have sok := stR_ok hpc i (by omega)
    have htt := totP_take pcs i
    obtain ⟨pl', us, e, hpl2, lpl, R⟩ := R.list_inv
    cases e
    have hul : us.length = (stR pcs i).length := by rw [R.length]; simp
    have hslen := sok.len
    have hqj := hqo.j
    dsimp only at hqj
    have hcell := (N _ (.tail _ (.head _))).1
    have o0 : pl ∉ [(ta, W.listOf tv.toArray tn), (L + 1, oc)].map (·.1) := by
      simp only [List.map_cons, List.map_nil, List.mem_cons, List.not_mem_nil, or_false, not_or]
      exact ⟨hpl2.1, list_offD hcell (cell_no_seq hcd) lpl⟩
    have R5 := (R.off F.ns).offD hcell (cell_no_seq hcd)
    have RR5 := (RR.off F.ns).offD hcell (cell_no_seq hcd)
    obtain ⟨⟨oI1, eI1, cI1⟩, _⟩ := hit
    have n0 := isList_ne F.ns lpl
    obtain ⟨led, N, own, B⟩ := base_of F N
    simp only [List.cons_append, List.nil_append] at N
    clear N2 F2
    refine hNo9 ?_
    clear hNo9
    refine hno ?_
    clear hno
    k_steps
    refine wpAny_For ?_
    k_steps
    refine @by_no _ fun hNo9 => ?_
    rename Fr _ _ _ _ => F2
    rename News _ _ _ _ => N2
    rename IsRange _ _ _ _ _ _ _ _ => hR
    obtain ⟨pl1, kr, F2, N2, ho3, ho4⟩ : ∃ pl1 kr : Nat, Fr h₀ L _ (fun y => if y = Str.ofString "heaped" then some (.ref pl1) else if y = Str.ofString "joins" then some (Value.int qj tk2) else if y = Str.ofString "row" then some (.ref ra) else if y = Str.ofString "kind" then some (Value.int qkd tk1) else pilesM (.ref pa) (some (.ref ta)) (some (.ref pl)) okd orw ojn ok y) ∧
      News h₀ L _ ((pl1, W.listOf (us ++ [Value.ref kr]).toArray 0) :: (_, _) :: (kr, W.listOf #[Value.int qkd tk1, Value.ref ra] 0) :: (ta, W.listOf tv.toArray tn) :: (L + 1, oc) :: led) ∧ @LT.lt Nat _ ta pl1 ∧ @LT.lt Nat _ ta kr := ⟨_, _, F2, N2, by omega, by omega⟩
    obtain ⟨n, hnn⟩ : ∃ n, n = min qj.toNat (stR pcs i).length := ⟨_, rfl⟩
    have hn : (if ((us.length + (0 + 1) : Nat) : Int) - 1 < qj then ((us.length + (0 + 1) : Nat) : Int) - 1 else qj) = (n : Int) := by
      rw [hul]; split <;> omega
    rw [hn] at hR
    refine hNo9 ?_
    clear hNo9
    refine wpAny_pyIter_range hR ?small ?_
    case small => exact small_one (by omega) (by omega) (by omega) (by omega)
    dsimp only
    obtain ⟨hJ0, hJ0e⟩ : ∃ hJ0, hJ0 = heapOfFr F2 := ⟨_, rfl⟩
    dsimp only [heapOfFr] at hJ0e
    rw [← hJ0e] at F2 N2 ⊢
    clear hR hn
    have hLI2 : L ≠ hJ0.objs.size := by
      obtain ⟨o, _, _, hL, _⟩ := F2.ns
      exact Nat.ne_of_lt (Heap.lt_size hL)
    have htaI2 : ta ≠ hJ0.objs.size := Nat.ne_of_lt (Heap.lt_size (N2 _ (.tail _ (.tail _ (.tail _ (.head _))))).1)
    have hcI2 : L + 1 ≠ hJ0.objs.size := Nat.ne_of_lt (Heap.lt_size (N2 _ (.tail _ (.tail _ (.tail _ (.tail _ (.head _)))))).1)
    have eI2 : hJ0.get? hI0.objs.size = some oI1 := B.get eI1 (Ne.symm hLI) (by simpa using ⟨Ne.symm htaI, Ne.symm hcI⟩) F2 N2 (fun p hp => by simp only [List.mem_cons, hp, or_true])
    have hII : hI0.objs.size ≠ hJ0.objs.size := Nat.ne_of_lt (Heap.lt_size eI2)
    have kp : Kept (fun a => ((a ≠ ta ∧ a ≠ hI0.objs.size) ∧ a ≠ L) ∧ a ≠ L + 1) h hJ0 := fun a o p _ e => B.get e p.1.2 (by simpa using ⟨p.1.1.1, p.2⟩) F2 N2 (fun p hp => by simp only [List.mem_cons, hp, or_true])
    have R6 := (R5.kept kp).newer
    have RR6 := (RR5.kept kp).newer
    refine for_heap (Walks.range rfl _ 0 1 n) (fun (j : Nat) (h' : Heap) => Ex25 (α := (Option Value)) (β := Addr) (fun ok pl => Fr h₀ L h' (pilesM (.ref pa) (some (.ref ta)) (some (.ref pl)) (some (.int qkd tk1)) (some (.ref ra)) (some (.int qj tk2)) ok)) (fun _ _ => News h₀ L h' [(ta, W.listOf tv.toArray tn), (L + 1, oc)]) (fun _ _ => h'.get? hI0.objs.size = some oI1) (fun _ pl => Rep (fun a => a ≠ ta ∧ a ≠ hI0.objs.size ∧ a ≠ hJ0.objs.size) h' (.ref pl) (.lst ((joinTopsR j ((qkd, qr) :: stR pcs i)).reverse.map rowD))) (fun _ _ => Reps (fun a => a ≠ ta ∧ a ≠ hI0.objs.size ∧ a ≠ hJ0.objs.size) h' tv ((List.range i).map fun j => toldD x y (stR pcs (j + 1))))) 0 (Nat.zero_le _) ?ist ?iJ ?inext ?igo ?iturn ?idone
    case ist =>
      have e : Builtin.Range.rangeSize 0 (n : Int) 1 = n := by rw [rangeSize_nat]; omega
      show Heap.get? _ _ = _
      rw [e, show (n : Int) - ((0 : Nat) : Int) = n from Int.sub_zero _]
      exact Heap.get?_push_size _ rfl
    case iJ =>
      have up : ∀ b o, hJ0.get? b = some o → (hJ0.push { cls := .type "range_iterator", data := .fields #[rawInt 0, rawInt (Builtin.Range.rangeSize 0 (n : Int) 1), rawInt 1] }).get? b = some o := fun _ _ e => Heap.get?_push_of_some _ e
      have N3 := N2.grown up
      refine ⟨ok, pl1, Fr.congr (F2.push _) ?qfr, fun p hp => N3 p (.tail _ (.tail _ (.tail _ ?qnw))), up _ _ eI2, .lst ⟨by refine neN ?_; omega, ?qp1, ?qp2⟩ (News.isList N3 (.head _)) ?qrr, (RR6.kept (Kept.push _)).weaken fun a p => ⟨p.1.1.1.1, p.1.1.1.2, p.2⟩⟩
      case qfr =>
        intro q
        unfold pilesM
        by_cases c1 : q = Str.ofString "k"
        · subst c1; rfl
        by_cases c2 : q = Str.ofString "joins"
        · subst c2; rfl
        by_cases c3 : q = Str.ofString "row"
        · subst c3; rfl
        by_cases c4 : q = Str.ofString "kind"
        · subst c4; rfl
        by_cases c5 : q = Str.ofString "heaped"
        · subst c5; rfl
        simp only [if_neg c1, if_neg c2, if_neg c3, if_neg c4, if_neg c5]
      case qnw =>
        rcases List.mem_cons.mp hp with rfl | hp
        · exact .head _
        · obtain rfl := List.mem_singleton.mp hp; exact .tail _ (.head _)
      case qp1 =>
        have l9 := News.isList N2 (.head _)
        have i9 : ItI hJ0 hI0.objs.size := .inl ⟨_, _, oI1, eI2, cI1⟩
        exact i9.ne l9
      case qp2 => exact Nat.ne_of_lt (Heap.lt_size (N2 _ (.head _)).1)
      case qrr =>
        show Reps _ _ _ ((List.reverse ((qkd, qr) :: stR pcs i)).map rowD)
        rw [List.reverse_cons, List.map_append]
        refine ((R6.kept (Kept.push _)).weaken fun a p => ⟨p.1.1.1.1, p.1.1.1.2, p.2⟩).append (.one ?_)
        have l9 := News.isList N2 (.tail _ (.tail _ (.head _)))
        have i9 : ItI hJ0 hI0.objs.size := .inl ⟨_, _, oI1, eI2, cI1⟩
        have l8 : hJ0.IsList ra rvs.toArray := isList_keep lr fun o e => F2.keep _ o e
        have n8 : ra ≠ ta := by
          rintro rfl
          obtain ⟨o, ho, _⟩ := lr
          have := (N2 _ (.tail _ (.tail _ (.tail _ (.head _))))).2.2
          rw [ho] at this; cases this
        have l10 := News.isList N3 (.tail _ (.tail _ (.head _)))
        exact .lst ⟨by refine neN ?_; omega, i9.ne l9, Nat.ne_of_lt (Heap.lt_size (N2 _ (.tail _ (.tail _ (.head _)))).1)⟩ l10 (.cons (.int _ _) (.one (.lst ⟨n8, i9.ne l8, by obtain ⟨o, ho, _⟩ := l8; exact Nat.ne_of_lt (Heap.lt_size ho)⟩ (isList_keep l8 fun o e => up _ o e) (ints_rep hints))))
    case inext =>
      intro j h1 h2 ri9 hk
      refine @by_no _ fun hNo9 => ?_
      obtain ⟨ok', pl', F, N, eI, R, RR⟩ := ri9
      refine hNo9 ?_
      clear hNo9
      refine ⟨ok', pl', ⟨F.ns.at' fun o e => hk _ o (by simpa using hLI2) e, fun b o e => hk b o ?_ (F.keep b o e), F.above⟩, fun p hp => ⟨?_, (N p hp).2⟩, hk _ _ (by simpa using hII) eI, R.kept fun a o p _ e => hk a o (by simpa using p.2.2) e, RR.kept fun a o p _ e => hk a o (by simpa using p.2.2) e⟩
      · have := Nat.ne_of_lt (Heap.lt_size (F2.keep b o e))
        simpa using this
      · refine hk _ _ ?_ (N _ hp).1
        rcases List.mem_cons.mp hp with rfl | hp
        · simpa using htaI2
        · obtain rfl := List.mem_singleton.mp hp; simpa using hcI2
    case igo =>
      intro i v h tk Q' E' _ _ hq
      exact wpAny_pure hq
    case iturn =>
      intro j v h2 tk QB2 hQB2 _ _ hj ri10 ri11 hit
      refine @by_no _ fun hNo9 => ?_
      obtain ⟨t9, rfl⟩ := ri10
      obtain ⟨ok', pl', F, N, eI, R, RR⟩ := ri11
      obtain ⟨qb, qa, qr', hq1, hq2⟩ := joinTopsR_at ((qkd, qr) :: stR pcs i) j (by simp only [List.length_cons]; omega)
      have tok := joinTopsR_ok (n := 1001) (B := 1000) j (st := (qkd, qr) :: stR pcs i) ⟨fun p hp => by
        rcases List.mem_cons.mp hp with rfl | hp
        · exact ⟨hqo.k4, hqo.oct⟩
        · exact sok.all p hp, by simp only [List.length_cons]; omega, by
        have hs := stR_ok hpc (i + 1) (by omega)
        have h3 := totP_take pcs (i + 1)
        have h4 := sok.tot
        have e : totP (pcs.take (i + 1)) = totP (pcs.take i) + qr.length := by unfold totP; rw [List.take_add_one, hq, List.map_append, List.sum_append]; simp
        simp only [List.map_cons, List.sum_cons]
        omega⟩
      have ttot := tok.tot
      rw [hq1] at ttot
      simp only [List.map_cons, List.sum_cons] at ttot
      rw [hq2] at hQB2
      refine hNo9 ?_
      clear hNo9
      dsimp only
      refine @by_no _ fun hno => ?_
      refine @by_no _ fun hNo9 => ?_
      rw [hq1] at R
      have hlenj := R
      obtain ⟨_, vs, e, hpl3, lpl2, R⟩ := R.list_inv
      cases e
      have hvs : vs.length ≤ 1002 := by
        have h1 := R.length
        have h2 := tok.len
        rw [hq1] at h2
        simp only [List.length_map, List.length_reverse] at h1
        omega
      rw [show List.map rowD (qb :: qa :: qr').reverse = List.map rowD qr'.reverse ++ [rowD qa, rowD qb] by simp] at R
      obtain ⟨us2, ws, rfl, Ru, Rw⟩ := R.append_inv
      obtain ⟨v1, _, rfl, R1, Rw⟩ := Rw.cons_inv
      obtain ⟨v2, _, rfl, R2, Rw⟩ := Rw.cons_inv
      obtain rfl := Rw.nil_inv
      obtain ⟨a1, w1, rfl, ha1, la1, R1⟩ := R1.list_inv
      obtain ⟨a2, w2, rfl, ha2, la2, R2⟩ := R2.list_inv
      obtain ⟨_, _, rfl, i1, R1⟩ := R1.cons_inv
      obtain ⟨_, _, rfl, b1, R1⟩ := R1.cons_inv
      obtain rfl := R1.nil_inv
      obtain ⟨_, _, rfl, i2, R2⟩ := R2.cons_inv
      obtain ⟨_, _, rfl, b2, R2⟩ := R2.cons_inv
      obtain rfl := R2.nil_inv
      obtain ⟨t1, rfl⟩ := i1.int_inv
      obtain ⟨t2, rfl⟩ := i2.int_inv
      obtain ⟨r1, r1v, rfl, hr1', lr1, b1⟩ := b1.list_inv
      obtain ⟨r2, r2v, rfl, hr2', lr2, b2⟩ := b2.list_inv
      have e1 : r1v.length = qa.2.length := by rw [b1.length]; simp
      have e2 : r2v.length = qb.2.length := by rw [b2.length]; simp
      have hus2 : us2.length ≤ 1002 := by simp only [List.length_append] at hvs; omega
      obtain ⟨led2, N, own2, B2⟩ := base_of F N
      have hcell2 := (N _ (.tail _ (.head _))).1
      have Ru5 := (Ru.off F.ns).offD hcell2 (cell_no_seq hcd)
      have RR7 := (RR.off F.ns).offD hcell2 (cell_no_seq hcd)
      have nc : ∀ {a : Addr} {its : Array Value}, h2.IsList a its → a ≠ ta → a ∉ [(ta, W.listOf tv.toArray tn), (L + 1, oc)].map (·.1) := fun l n => by
        simp only [List.map_cons, List.map_nil, List.mem_cons, List.not_mem_nil, or_false, not_or]
        exact ⟨n, list_offD hcell2 (cell_no_seq hcd) l⟩
      have p0 := nc lpl2 hpl3.1
      have p1 := nc la1 ha1.1
      have p2 := nc la2 ha2.1
      have p3 := nc lr1 hr1'.1
      have p4 := nc lr2 hr2'.1
      have q0 := isList_ne F.ns lpl2
      have q1 := isList_ne F.ns la1
      have q2 := isList_ne F.ns la2
      have q3 := isList_ne F.ns lr1
      have q4 := isList_ne F.ns lr2
      simp only [List.cons_append, List.nil_append] at N
      clear N2 F2 B
      refine hNo9 ?_
      clear hNo9
      refine hno ?_
      clear hno
      k_steps
      refine @by_no _ fun hNo9 => ?_
      rename Fr _ _ _ _ => F6
      rename News _ _ _ _ => N6
      obtain ⟨plN, kn, rn, F6, N6, g1, g2, g3⟩ : ∃ plN kn rn : Nat, Fr h₀ L _ (fun y => if y = Str.ofString "heaped" then some (.ref plN) else if y = Str.ofString "k" then some (.int (0 + (j : Int) * 1) t9) else pilesM (.ref pa) (some (.ref ta)) (some (.ref pl')) (some (.int qkd tk1)) (some (.ref ra)) (some (.int qj tk2)) ok' y) ∧
        News h₀ L _ ((plN, W.listOf (us2 ++ [Value.ref kn]).toArray 0) :: _ :: (kn, W.listOf #[Value.int qa.1 t1, Value.ref rn] 0) :: (rn, W.listOf (r1v ++ r2v).toArray 0) :: _ :: (ta, W.listOf tv.toArray tn) :: (L + 1, oc) :: led2) ∧ @LT.lt Nat _ ta plN ∧ @LT.lt Nat _ ta kn ∧ @LT.lt Nat _ ta rn := ⟨_, _, _, F6, N6, by omega, by omega, by omega⟩
      have eI6 := B2.get eI (Ne.symm hLI) (by simpa using ⟨Ne.symm htaI, Ne.symm hcI⟩) F6 N6 (fun p hp => by simp only [List.mem_cons, hp, or_true])
      have hit6 := B2.get hit (Ne.symm hLI2) (by simpa using ⟨Ne.symm htaI2, Ne.symm hcI2⟩) F6 N6 (fun p hp => by simp only [List.mem_cons, hp, or_true])
      have kp : Kept (fun a => ((a ≠ ta ∧ a ≠ hI0.objs.size ∧ a ≠ hJ0.objs.size) ∧ a ≠ L) ∧ a ≠ L + 1) h2 (heapOfFr F6) := fun a o p _ e => B2.get e p.1.2 (by simpa using ⟨p.1.1.1, p.2⟩) F6 N6 (fun p hp => by simp only [List.mem_cons, hp, or_true])
      have it1 : ItI (heapOfFr F6) hI0.objs.size := .inl ⟨_, _, oI1, eI6, cI1⟩
      have it2 : ItI (heapOfFr F6) hJ0.objs.size := .inr ⟨_, _, _, hit6⟩
      have lP := News.isList N6 (.head _)
      have lK := News.isList N6 (.tail _ (.tail _ (.head _)))
      have lR := News.isList N6 (.tail _ (.tail _ (.tail _ (.head _))))
      refine hNo9 ?_
      clear hNo9
      refine hQB2 _ _ _ (.inl rfl) ⟨some (.int (0 + (j : Int) * 1) t9), plN, Fr.congr F6 ?zfr, fun p hp => ?znw, eI6, .lst ⟨by refine neN ?_; omega, it1.ne lP, it2.ne lP⟩ lP ?zrr, (RR7.kept kp).weaken fun a p => p.1.1⟩ ?zit
      case zfr =>
        intro q
        unfold pilesM
        by_cases c1 : q = Str.ofString "k"
        · subst c1; rfl
        by_cases c2 : q = Str.ofString "joins"
        · subst c2; rfl
        by_cases c3 : q = Str.ofString "row"
        · subst c3; rfl
        by_cases c4 : q = Str.ofString "kind"
        · subst c4; rfl
        by_cases c5 : q = Str.ofString "heaped"
        · subst c5; rfl
        simp only [if_neg c1, if_neg c2, if_neg c3, if_neg c4, if_neg c5]
      case znw =>
        rcases List.mem_cons.mp hp with rfl | hp
        · exact N6 _ (.tail _ (.tail _ (.tail _ (.tail _ (.tail _ (.head _))))))
        · obtain rfl := List.mem_singleton.mp hp; exact N6 _ (.tail _ (.tail _ (.tail _ (.tail _ (.tail _ (.tail _ (.head _)))))))
      case zrr =>
        rw [List.reverse_cons, List.map_append]
        exact ((Ru5.kept kp).weaken fun a p => p.1.1).append (.one (.lst ⟨by refine neN ?_; omega, it1.ne lK, it2.ne lK⟩ lK (.cons (.int _ _) (.one (.lst ⟨by refine neN ?_; omega, it1.ne lR, it2.ne lR⟩ lR (ints_rep ((rep_ints b1).append (rep_ints b2))))))))
      case zit =>
        intro b hb o e
        obtain rfl := List.mem_singleton.mp hb
        have := e.symm.trans hit
        cases this
        exact hit6
    case idone =>
      intro h3 tk ri12
      refine @by_no _ fun hNo9 => ?_
      obtain ⟨ok', pl', F, N, eI, R, RR⟩ := ri12
      refine hNo9 ?_
      clear hNo9
      dsimp only
      refine @by_no _ fun hno => ?_
      refine @by_no _ fun hNo9 => ?_
      have hst' : joinTopsR n ((qkd, qr) :: stR pcs i) = stR pcs (i + 1) := by rw [stR_succ pcs i _ hq, hnn]; rfl
      rw [hst'] at R
      clear hst'
      have sok2 := stR_ok hpc (i + 1) (by omega)
      have htt2 := totP_take pcs (i + 1)
      obtain ⟨_, us3, e, hpl3, lpl3, R⟩ := R.list_inv
      cases e
      have hus3 : us3.length = (stR pcs (i + 1)).length := by rw [R.length]; simp
      have hl3 := sok2.len
      have hcell3 := (N _ (.tail _ (.head _))).1
      have R8 := (R.off F.ns).offD hcell3 (cell_no_seq hcd)
      have RR8 := (RR.off F.ns).offD hcell3 (cell_no_seq hcd)
      obtain ⟨led3, N, own3, B3⟩ := base_of F N
      simp only [List.cons_append, List.nil_append] at N
      have p0 : pl' ∉ [(ta, W.listOf tv.toArray tn), (L + 1, oc)].map (·.1) := by
        simp only [List.map_cons, List.map_nil, List.mem_cons, List.not_mem_nil, or_false, not_or]
        exact ⟨hpl3.1, list_offD hcell3 (cell_no_seq hcd) lpl3⟩
      have q0 := isList_ne F.ns lpl3
      clear N2 F2 B
      refine hNo9 ?_
      clear hNo9
      refine hno ?_
      clear hno
      k_steps
      rename Fr _ _ _ _ => F7
      k_dflt (refine eval_comp (PX := fun a => a ≠ ta) (cl := [(Str.ofString "alphabets", L + 1)]) F7 (by rfl) (by decide) (by rfl) (by decide) ?_)
      k_steps
      have htot3 := sok2.tot
      refine cs_list rfl F7 (fun k => toldRow x y ((stR pcs (i + 1)).reverse.getD k default)) (by rw [sizeLine_eq]; omega) lpl3 ?el ?fin
      case el =>
        intro I C Dd h4 ys XX kx v hkx hv
        refine @by_no _ fun hNo9 => ?_
        try dsimp only at hv
        obtain ⟨r, hr⟩ : ∃ r, (stR pcs (i + 1)).reverse[kx]? = some r := ⟨_, List.getElem?_eq_getElem (by rw [List.length_reverse]; omega)⟩
        obtain ⟨v', e', R9⟩ := R8.get kx (.int 0) (by rw [List.length_map, List.length_reverse]; omega)
        cases hv.symm.trans e'
        rw [List.getD_eq_getElem?_getD, List.getElem?_map, hr] at R9
        refine hNo9 ?_
        clear hNo9
        show ElTurn _ _ _ _ _ _ _ _ _ _ _ _ _ _ _ _ _ (toldRow x y ((stR pcs (i + 1)).reverse.getD kx default))
        rw [show (stR pcs (i + 1)).reverse.getD kx default = r by rw [List.getD_eq_getElem?_getD, hr]; rfl]
        refine @by_no _ fun hno => ?_
        refine @by_no _ fun hNo9 => ?_
        replace R9 : Rep _ h3 v (.lst [.int r.1, .lst (r.2.map .int)]) := R9
        obtain ⟨t4, tvs, rfl, pt, lt4, R9⟩ := R9.list_inv
        obtain ⟨_, _, rfl, ri, R9⟩ := R9.cons_inv
        obtain ⟨_, _, rfl, rro, R9⟩ := R9.cons_inv
        obtain rfl := R9.nil_inv
        obtain ⟨tw, rfl⟩ := ri.int_inv
        obtain ⟨ro, rov, rfl, pro, lro, hro⟩ := rro.list_inv
        have hri := rep_ints hro
        have hrm : r ∈ stR pcs (i + 1) := List.mem_reverse.mp (List.mem_of_getElem? hr)
        obtain ⟨hrk, hrO⟩ := sok2.all r hrm
        have hrl := le_sum_of hrm
        have hkb := hrk.bd
        have hkb2 : 0 ≤ r.1 ∧ r.1 < 2 ^ 62 := by omega
        obtain ⟨va, hva, ra4⟩ := hr2.get r.1.toNat (.int 0) (by rw [List.length_map]; show r.1.toNat < 4; omega)
        rw [map_getD _ _ _ [] _ (by show r.1.toNat < 4; omega)] at ra4
        obtain ⟨sa, sav, rfl, _, lsa, hsa⟩ := ra4.list_inv
        have hsi := rep_ints hsa
        have lt5 : h4.IsList t4 _ := isList_keep lt4 fun o e => XX.keep _ o (isList_ne F7.ns lt4) e
        refine hNo9 ?_
        clear hNo9
        refine hno ?_
        clear hno
        refine elTurn_two XX (lits := [(ta, W.listOf tv.toArray tn), (L + 1, oc)]) (fun p hp => N p ?qsub) rfl lt5 (by rfl) (by rfl) (by decide) (by rfl) ?_
        case qsub =>
          rcases List.mem_cons.mp hp with rfl | hp
          · exact .head _
          · obtain rfl := List.mem_singleton.mp hp; exact .tail _ (.head _)
        intro h5 tk5 oI oC mC Z m1 m2
        have lro5 : h5.IsList ro rov.toArray := isList_keep (isList_keep lro fun o e => XX.keep _ o (isList_ne F7.ns lro) e) fun o e => Z.keep _ o (ne_fresh lro XX.Cs) e
        obtain ⟨led5, hBN⟩ := base_of Z.F Z.N
        have N5 := hBN.1
        have own5 := hBN.2.1
        have B5 := hBN.2.2
        have F5 := Z.F
        have nsC := Z.nsC
        have p1 : ro ∉ ((I, oI) :: (C, oC) :: (Dd, LCg.lst ys) :: [(ta, W.listOf tv.toArray tn), (L + 1, oc)]).map (·.1) := by
          simp only [List.map_cons, List.map_nil, List.mem_cons, List.not_mem_nil, or_false, not_or]
          exact ⟨ne_fresh lro XX.Is, ne_fresh lro XX.Cs, ne_fresh lro XX.Ds, pro.1.1.1, pro.2⟩
        have q1 := isList_ne F7.ns lro
        simp only [List.cons_append, List.nil_append] at N5
        clear N F7 B3 own3
        k_steps
        all_goals (
          k_dflt (refine' use_spec (sp_writtenK pok ro sa rov sav r.2 r.1 _ _ hrk (by (try simp only [decide_eq_true_eq, decide_eq_false_iff_not] at *); split <;> first | rfl | omega) hri hsi (by omega) hrO) ?F ?N ?X ?T ?hp ?hd ?hu ?_; (case F => k_asm); (case N => k_asm); (case X => k_asm); (case T => k_asm); (case hp => exact ⟨lro5, isList_keep lsa fun o e => Z.F.keep _ o e⟩); (case hd => (dsimp only [Around.deeper]; omega)); (case hu => (dsimp only [Around.deeper]; omega)); k_whole)
          intro v' h' tk' F' N' st' hv'
          obtain ⟨r', t', hv', hr'⟩ := hv'
          subst hv'
          clear st'
          k_steps
          rename Fr _ _ _ _ => F8
          rename News _ _ _ _ => N8
          exact el_end Z hBN.2.2 hBN.1 F8 N8 (fun p hp => .tail _ hp) (.lst ⟨by refine neN ?_; omega, by refine neN ?_; omega⟩ (News.isList N8 (.head _)) (.cons (.int _ _) (.one (.byt _ hr')))))
      case fin =>
        intro Dd h4 tk4 ys O
        dsimp only
        have N4 : News h₀ L h4 [(ta, W.listOf tv.toArray tn), (L + 1, oc)] := fun p hp => by
          have hp2 : p ∈ (ta, W.listOf tv.toArray tn) :: (L + 1, oc) :: led3 := by
            rcases List.mem_cons.mp hp with rfl | hp
            · exact .head _
            · obtain rfl := List.mem_singleton.mp hp; exact .tail _ (.head _)
          have z := N p hp2
          exact ⟨O.keep _ _ z.2.1 z.1, z.2⟩
        have F4 := O.F
        have hcn := (N _ (.tail _ (.head _))).2.1
        have hDta : @Ne Nat Dd ta := by
          rintro rfl
          have z := (N _ (.head _)).1
          rw [O.new] at z; cases z
        have kp : Kept (fun a => ((a ≠ ta ∧ a ≠ hI0.objs.size ∧ a ≠ hJ0.objs.size) ∧ a ≠ L) ∧ a ≠ L + 1) h3 h4 := fun a o p _ e => O.keep a o p.1.2 e
        have R10 := R8.kept kp
        have RR10 := RR8.kept kp
        have eI4 : h4.get? hI0.objs.size = some oI1 := O.keep _ _ (Ne.symm hLI) eI
        have hDI : Dd ≠ hI0.objs.size := by
          rintro rfl
          have := O.new
          rw [eI] at this; cases this
        obtain ⟨led4, N, own4, B4⟩ := base_of F4 N4
        simp only [List.cons_append, List.nil_append] at N
        have htv : tv.length = i := by rw [RR.length]; simp
        clear F7 B3 own3 N4
        k_steps
        rename Fr _ _ _ _ => F9
        rename News _ _ _ _ => N9
        try simp only [List.push_toArray] at N9
        have eI9 := B4.get eI4 (Ne.symm hLI) (by simpa using ⟨Ne.symm htaI, Ne.symm hcI⟩) F9 N9 (fun p hp => by simp only [List.mem_cons, hp, or_true])
        have kp2 : Kept (fun a => ((a ≠ ta ∧ a ≠ hI0.objs.size ∧ a ≠ hJ0.objs.size) ∧ a ≠ L) ∧ a ≠ L + 1) h4 (heapOfFr F9) := fun a o p _ e => B4.get e p.1.2 (by simpa using ⟨p.1.1.1, p.2⟩) F9 N9 (fun p hp => by simp only [List.mem_cons, hp, or_true])
        have nc : ∀ {a : Addr}, a ≠ L + 1 → a ≠ ta → a ∉ [(ta, W.listOf tv.toArray tn), (L + 1, oc)].map (·.1) := fun h1 h2 => by simpa using ⟨h2, h1⟩
        have lD : h4.IsList Dd ys.toArray := ⟨_, O.get, rfl, _, rfl⟩
        have hcell4 : h4.get? (L + 1) = some oc := O.keep _ _ hcn hcell3
        have lD9 := B4.list lD O.ne (nc (list_offD hcell4 (cell_no_seq hcd) lD) hDta) F9 N9 (fun p hp => by simp only [List.mem_cons, hp, or_true])
        have reps : Reps (fun a => a ≠ L ∧ a ≠ Dd ∧ a ≠ ta) h4 ys ((stR pcs (i + 1)).reverse.map (toldRow x y)) := by
          have e : (List.range us3.length).map (fun k => toldRow x y ((stR pcs (i + 1)).reverse.getD k default)) = (stR pcs (i + 1)).reverse.map (toldRow x y) := by
            rw [hus3, ← List.length_reverse]
            exact map_range_getD _ _ _
          rw [← e]; exact O.reps
        have it4 : ItI h4 hI0.objs.size := .inl ⟨_, _, oI1, eI4, cI1⟩
        have reps2 := ((reps.offI it4).offD hcell4 (cell_no_seq hcd))
        refine hQB1 _ _ _ (.inl rfl) ⟨some (.int qkd tk1), some (.ref ra), some (.int qj tk2), ok', pl', tv ++ [.ref Dd], tn + 1, F9, fun p hp => ?ynw, ?yR, ?yRR⟩ ?yit
        case ynw =>
          rcases List.mem_cons.mp hp with rfl | hp
          · exact N9 _ (.head _)
          · obtain rfl := List.mem_singleton.mp hp; exact N9 _ (.tail _ (.head _))
        case yR => exact .lst ⟨hpl3.1, hpl3.2.1⟩ (B4.list (isList_keep lpl3 fun o e => O.keep _ o q0 e) q0 p0 F9 N9 (fun p hp => by simp only [List.mem_cons, hp, or_true])) ((R10.kept kp2).weaken fun a p => ⟨p.1.1.1, p.1.1.2.1⟩)
        case yRR =>
          rw [List.range_succ, List.map_append]
          refine ((RR10.kept kp2).weaken fun a p => ⟨p.1.1.1, p.1.1.2.1⟩).append (.one (.lst ⟨hDta, hDI⟩ lD9 ?_))
          exact (reps2.kept fun a o p _ e => B4.get e p.1.1.1 (by simpa using ⟨p.1.1.2.2, p.2⟩) F9 N9 (fun p hp => by simp only [List.mem_cons, hp, or_true])).weaken fun a p => ⟨p.1.1.2.2, p.1.2⟩
        case yit =>
          intro b hb o e
          rcases List.mem_cons.mp hb with rfl | hb
          · have := e.symm.trans eI1
            cases this
            exact eI9
          · obtain rfl := List.mem_singleton.mp hb
            exact F9.keep _ _ (keepPa o e)
  case done =>
    intro h tk ri13
    refine @by_no _ fun hNo9 => ?_
    obtain ⟨okd, orw, ojn, ok, pl, tv, tn, F, N, R, RR⟩ := ri13
    refine hNo9 ?_
    clear hNo9
    dsimp only
    k_steps
    rename Fr _ _ _ _ => F9
    rename News _ _ _ _ => N9
    rw [hplen] at RR
    exact hret _ _ _ F9.keep (.lst trivial (News.isList N9 (.head _)) (RR.weaken fun _ _ => trivial))

theorem begin_B18 : True := by
  w_on
  w_top off
  k_with_none
  k_with "om" => (law_clear; first | with_reducible assumption | (law_purse 20000 => grind))
  k_with "guard" => skip
  trivial
set_option maxHeartbeats 8000000
theorem kw_B18_1 : True := by
  k_with_none
  k_with "om" => (law_clear; first | with_reducible assumption | (law_purse 20000 => grind))
  k_with "eval BinOp" => (k_here; (with_reducible show wpAny _ _ (eval (Expr.BinOp (Expr.Name _ _) _ (Expr.Constant (Const.int _) _ _) _) _) _ _ _); k_dflt (refine binNC (by k_asm) (by rfl) ?_ (by rfl) (by rfl) (by decide)); (try dsimp only))
  k_with "eval BinOp" => (k_here; (with_reducible show wpAny _ _ (eval (Expr.BinOp (Expr.Name _ _) _ (Expr.Name _ _) _) _) _ _ _); k_dflt (refine binNN (by k_asm) (by rfl) (by rfl) ?_ (by rfl) (by rfl) (by rfl) (by decide) (by decide)); (try dsimp only))
  k_with "isTrue Compare" => (k_here; (with_reducible show wpAny _ _ (isTrue (Expr.Compare (Expr.Name _ _) [_] [Expr.Constant (Const.int _) _ _] _) _ _) _ _ _); k_dflt (refine isNC (by k_asm) (by rfl) ?_ (by rfl) (by rfl) (by decide) (by with_unfolding_all rfl)); (try dsimp only))
  k_with "guard" => ((fail_if_success (with_reducible show Exists _)); (fail_if_success (with_reducible show And (FnAt _ _) _)); (fail_if_success (with_reducible show wpAny _ _ (pyIter _) _ _ _)); (fail_if_success (with_reducible show wpAny _ _ (exec (Stmt.For _ _ _ _ _) _) _ _ _)); (fail_if_success (with_reducible show wpAny _ _ (exec (Stmt.While _ _ _ _) _) _ _ _)); (fail_if_success (with_reducible show wpAny _ _ (eval (Expr.ListComp _ _ _ _) _) _ _ _)))
  trivial
noncomputable def KeepO (o : Obj) : Prop := (∀ es ep, o.data ≠ .dict es ep) ∧ ∀ l i, o.data ≠ .fields #[.ref l, .int i 0]
noncomputable abbrev itObj (l : Addr) (i : Int) : Obj := { cls := .type "list_iterator", data := .fields #[.ref l, .int i 0] }
noncomputable def LitIs (o : Obj) (l : Addr) (i : Nat) : Prop := o.cls = .type "list_iterator" ∧ o.data = .fields #[.ref l, .int i 0]
section
variable {prog : Program} {w : World} {A : Around} {E : Value → Shared → Prop} {s : Shared} {h₀ : Heap} {L l it : Addr} {m : Str → Option Value} {news : List (Addr × Obj)} {g : Obj → List (Addr × Obj)} {vs : List Value}
theorem iter_list {Q : Value → Shared → Prop} (F : Fr h₀ L s.heap m) (N : News h₀ L s.heap news) (hl : s.heap.IsList l vs.toArray)
    (h : ∀ (I : Addr) h' o, LitIs o l 0 → Fr h₀ L h' m → News h₀ L h' ((I, o) :: news) → (∀ p ∈ news, p.1 < I) → Q (.ref I) { s with heap := h' }) :
    wpAny (model prog w) A (call (.builtin "iter") [.ref l]) Q E s := by
  refine call_function_entry (by decide +kernel) (by decide +kernel) kdk_entry_iter (kdk_args_iter _) ?_
  unfold Builtin.«iter»
  refine wpAny_bind (m := someArgs "iter" 1 2 _) (wpAny_of_eq (a := [Value.ref l]) (by first | rfl | kernel_rfl!) ?_)
  show wpAny _ _ (pyIter (.ref l) >>= _) _ _ _
  refine wpAny_bind (wpAny_pyIter_list hl ?_)
  exact wpAny_pure ⟨_, rfl, h _ _ _ ⟨rfl, rfl⟩ (F.push _) (News.push F N _ rfl) (fun q hq => Heap.lt_size (N q hq).1)⟩
theorem next_special {i : Nat} {x : Value} {Q : Option Value → Shared → Prop} (hit : s.heap.IsListIter it l i) (hl : s.heap.IsList l vs.toArray) (hx : vs[i]? = some x)
    (hQ : ∀ h', h'.IsListIter it l (i + 1) → Heap.SameBut it s.heap h' → Q (some x) { s with heap := h' }) :
    wpAny (model prog w) A (callSpecial? (.ref it) (Str.ofString "__next__")) Q E s := by
  refine @by_no _ fun hNo9 => ?_
  obtain ⟨o, ho, hc, hd⟩ := id hit
  obtain ⟨ol, hol, _, nl, hdl⟩ := hl
  refine hNo9 ?_
  clear hNo9
  refine wpAny_callSpecial?_slot (name := Str.ofString "__next__") hit.typeIs slot_listiter_next
    (wpAny_call_entry slot_listiter_next hit.typeIs entry_listiter_next ?_ (args_listiter_next _))
  show wpAny _ _ (field (.ref it) 0 >>= _) _ _ s
  refine wpAny_bind (wpAny_field ho hd (x := .ref l) rfl ?_)
  show wpAny _ _ (if (Value.ref l == Value.none) = true then _ else _) _ _ s
  rw [if_neg (show ¬ ((Value.ref l == Value.none) = true) from Bool.false_ne_true)]
  show wpAny _ _ (field (.ref it) 1 >>= _) _ _ s
  refine wpAny_bind (wpAny_field ho hd (x := .int i 0) rfl ?_)
  show wpAny _ _ (seqItems? (.ref l) >>= _) _ _ s
  refine wpAny_bind (wpAny_seqItems hol hdl ?_)
  simp only [Int.toNat_natCast, List.getElem?_toArray, hx]
  refine wpAny_bind (wpAny_setField ho hd (by simp) (wpAny_pure ⟨x, rfl, hQ _ ?_ (Heap.SameBut.update ..)⟩))
  exact ⟨_, Heap.get?_update_self _ ho (Obj.isFreed_of_fields (Obj.data_mapFields hd _)), (Obj.cls_mapFields ..).trans hc, by
    rw [Obj.data_mapFields hd]; simp [rawInt]⟩
theorem next_item {i : Nat} {x : Value} {io : Obj} {Q : Value → Shared → Prop} (F : Fr h₀ L s.heap m) (N : News h₀ L s.heap news) (U : UpdF it io news g) (hi : LitIs io l i) (hl : s.heap.IsList l vs.toArray) (hx : vs[i]? = some x)
    (h : ∀ h' o', LitIs o' l (i + 1) → Fr h₀ L h' m → News h₀ L h' (g o') → Q x { s with heap := h' }) :
    wpAny (model prog w) A (call (.builtin "next") [.ref it]) Q E s := by
  refine @by_no _ fun hNo9 => ?_
  obtain ⟨pre, post, hl', hg, a, b⟩ := U.split
  have hmem : (it, io) ∈ news := by rw [hl']; exact List.mem_append_right _ (.head _)
  have hm := N (it, io) hmem
  have hit : s.heap.IsListIter it l i := ⟨io, hm.1, hi.1, hi.2⟩
  refine hNo9 ?_
  clear hNo9
  refine call_function_entry (by decide +kernel) (by decide +kernel) kdk_entry_next (kdk_args_next _) ?_
  unfold Builtin.«next»
  refine wpAny_bind (m := someArgs "next" 1 2 _) (wpAny_of_eq (a := [Value.ref it]) (by first | rfl | kernel_rfl!) ?_)
  dsimp only
  refine wpAny_bind (wpAny_specialOf (name := Str.ofString "__next__") hit.typeIs slot_listiter_next.lookup ?_)
  refine wpAny_ite_split (fun hab => absurd hab (by decide)) (fun _ => ?_)
  refine wpAny_bind (next_special hit hl hx fun h' hit' hs => ?_)
  obtain ⟨o', ho', hc', hd'⟩ := hit'
  exact wpAny_pure ⟨_, rfl, h h' o' ⟨hc', hd'⟩ (F.change hs hm.2.1 hm.2.2) (hg o' ▸ (show News h₀ L s.heap (pre ++ (it, io) :: post) from hl' ▸ N).setIn a b hs ho')⟩
end
theorem kw_B18_2 : True := by
  k_with "call builtin:iter" => ((k_here; (with_reducible show wpAny _ _ (call (Value.builtin "iter") [Value.ref _]) _ _ _); k_dflt (refine iter_list (by k_asm) (by k_asm) (by is_list) ?_); intro D' h' o' hi' F' N' l1; (try k_lt l1)); (try (revert D' h' o' hi' F' N' l1; intros)))
  k_with "call builtin:next" => ((k_here; (with_reducible show wpAny _ _ (call (Value.builtin "next") [Value.ref _]) _ _ _); k_dflt (refine next_item (by k_asm) (by k_asm) (by k_updF) (by k_asm) (by is_list) (by rfl) ?_); intro h' o' hi' F' N'; (try dsimp only at N')); (try (revert h' o' hi' F' N'; intros)))
  trivial
noncomputable def redM (fn sq ini : Value) (it vl el : Option Value) : Str → Option Value := fun q => if q = Str.ofString "element" then el else if q = Str.ofString "value" then vl else if q = Str.ofString "it" then it else if q = Str.ofString "initial" then some ini else if q = Str.ofString "sequence" then some sq else if q = Str.ofString "function" then some fn else none
theorem use_specN {f : Addr} {pos : List Value} {k : Nat} {noted : Addr} {pre : Heap → Prop} {post : Heap → Value → Heap → Prop}
    {dp un : Nat} {fr : Option (List Env)} {gd : Option (List Code)} {s : Shared} {Q E : Value → Shared → Prop} {g : Heap}
    (C : SpecN f pos k noted pre post) (X : (hd.heap_1 w.params).In g) (T : Top p loose mean mg mb g) (st : g.StaysIn s.heap) (hgn : g.get? noted = none)
    (hp : pre s.heap) (hd : dp + k < recursionLimit) (hu : un + 8 * k < cLine)
    (h : ∀ v h' tk', (∀ b o, b ≠ noted → s.heap.get? b = some o → h'.get? b = some o) → post s.heap v h' → Q v { s with heap := h', toks := tk' }) :
    wpAny (model PySem.Challenge.rw_qh0094_01.row.prog w) (Ar dp un fr gd) (call (.ref f) pos) Q E s := C dp un fr gd s.heap s.gens s.drawn s.toks s.os Q E g X T st hgn hp hd hu h
theorem is_list_other {prog : Program} {w : World} {A : Around} {E : Value → Shared → Prop} {s : Shared} {g : Heap} {L : Addr} {m : Str → Option Value} {K : Frag} {x y : Addr} {items : Array Value} {oy : Obj} {Q : Value → Shared → Prop} (F : Fr g L s.heap m) (l : g.IsList x items) (hxy : x ≠ y) (X : K.In g) (hy : K.lookup y = some oy)
    (hq : Q (.bool false) s) : wpAny (model prog w) A (compareOp .Is (.ref x) (.ref y)) Q E s := by
  obtain ⟨o, ho, hc, _⟩ := l
  refine wpAny_is_ref_other hxy (F.keep _ _ ho) (F.keep _ _ (X _ _ hy)) (fun z => ?_) hq
  rw [hc] at z
  exact absurd (Value.type.inj z) (by decide)
section
variable {prog : Program} {w : World} {A : Around} {E : Value → Shared → Prop} {s : Shared} {env : Env}
theorem for_heap2 {target : Expr} {body : List Stmt} {Q : Flow → Shared → Prop} {I : Addr} {fp wr : List Addr} {n : Nat} {P : Nat → Value → Prop} {St : Nat → Heap → Prop} (W : Walks prog w A I fp wr n P St) (J : Nat → Heap → Prop) (i₀ : Nat) (hi₀ : i₀ ≤ n) (hst : St i₀ s.heap) (hj : J i₀ s.heap)
    (hnext : ∀ i h h', St i h → J i h → (∀ b o, b ∉ wr → h.get? b = some o → h'.get? b = some o) → J i h')
    (hgo : ∀ i v h tk (Q' : Unit → Shared → Prop) (E' : Value → Shared → Prop), St (i + 1) h → P i v → Q' () { s with heap := h, toks := tk } → wpAny (model prog w) A (letOwnedTupleGo target (.ref I) v) Q' E' { s with heap := h, toks := tk })
    (turn : ∀ i v h tk (QB : Flow → Shared → Prop), (∀ h' tk' f, (f = .next ∨ f = .cont) → J (i + 1) h' → (∀ b ∈ fp, ∀ o, h.get? b = some o → h'.get? b = some o) → QB f { s with heap := h', toks := tk' }) → (∀ s₃, Q .next s₃ → QB .brk s₃) → (∀ v s₃, Q (.ret v) s₃ → QB (.ret v) s₃) → i < n → P i v → J i h → St (i + 1) h → wpAny (model prog w) A (assign target env v) (fun _ s₂ => wpAny (model prog w) A (execs body env) QB (fun _ _ => False) s₂) (fun _ _ => False) { s with heap := h, toks := tk })
    (done : ∀ h tk, J n h → Q .next { s with heap := h, toks := tk }) :
    codeAny (model prog w) A (.forLoop target (.ref I) body [] env) (fun r s' => match r with | .ok f => Q f s' | .error e => cameBackBy (model prog w) A env E e s') s := by
  refine codeAny_forLoop_any (fun k s' => ∃ h' tk i, s' = { s with heap := h', toks := tk } ∧ St i h' ∧ J i h' ∧ i ≤ n ∧ k = n + 1 - i) ?_ (n + 1 - i₀) ⟨s.heap, s.toks, i₀, rfl, hst, hj, hi₀, rfl⟩
  intro k s' ri14
  refine @by_no _ fun hNo9 => ?_
  obtain ⟨h', tk, i, rfl, hst', hJ, hi, rfl⟩ := ri14
  refine hNo9 ?_
  clear hNo9
  by_cases hlt : i < n
  · refine W.item i _ _ _ hlt hst' fun v h₁ tk₁ hP hst₁ hk₁ => ?_
    refine hgo i v h₁ tk₁ _ _ hst₁ hP ?_
    refine wpAny_mono (turn i v h₁ tk₁ (fun f s₃ => match f with | .ret v => Q (.ret v) s₃ | .brk => Q .next s₃ | _ => ∃ h' tk', s₃ = { s with heap := h', toks := tk' } ∧ J (i + 1) h' ∧ ∀ b ∈ fp, ∀ o, h₁.get? b = some o → h'.get? b = some o) (fun h' tk' f hf a b => by rcases hf with rfl | rfl <;> exact ⟨h', tk', rfl, a, b⟩) (fun _ x => x) (fun _ _ x => x) hlt hP (hnext i _ _ hst' hJ hk₁) hst₁) (fun _ s₂ h₂ => wpAny_mono h₂ (fun f s₃ h₃ => ?_) fun _ _ x => x.elim) fun _ _ x => x.elim
    cases f with
    | ret v => exact h₃
    | brk => exact h₃
    | cont =>
      refine @by_no _ fun hNo9 => ?_
      obtain ⟨h3, tk3, rfl, hJ3, hf3⟩ := h₃
      refine hNo9 ?_
      clear hNo9
      exact ⟨n + 1 - (i + 1), by omega, h3, tk3, i + 1, rfl, W.frame _ _ _ hst₁ hf3, hJ3, hlt, rfl⟩
    | next =>
      refine @by_no _ fun hNo9 => ?_
      obtain ⟨h3, tk3, rfl, hJ3, hf3⟩ := h₃
      refine hNo9 ?_
      clear hNo9
      exact ⟨n + 1 - (i + 1), by omega, h3, tk3, i + 1, rfl, W.frame _ _ _ hst₁ hf3, hJ3, hlt, rfl⟩
  · have hin : i = n := by omega
    subst hin
    refine W.done _ _ _ hst' fun h₁ tk₁ hk₁ => wpAny_execs_nil ?_
    exact done h₁ tk₁ (hnext _ _ _ hst' hJ hk₁)
end
theorem sp_reduce3  (fl sa va noted : Addr) (on : Obj) (es : List Value) (hsa : sa ≠ noted) (vav : List Value) (hva : @Ne Nat va 39) (hvn : va ≠ noted) (k : Nat) (J : Nat → Heap → Value → Prop)
    (hmono : ∀ i h h' v, J i h v → (∀ a o, KeepO o → h.get? a = some o → h'.get? a = some o) → J i h' v)
    (hfn : ∀ i h v, J i h v → FnAt fl h)
    (step : ∀ i e v, es[i]? = some e → SpecN fl [v, e] k noted (fun h => J i h v) (fun _ v' h' => J (i + 1) h' v')) :
    SpecN 47 [.ref fl, .ref sa, .ref va] (k + 2) noted (fun h => h.get? noted = some on ∧ h.IsList sa es.toArray ∧ h.IsList va vav.toArray ∧ J 0 h (.ref va)) (fun _ v' h' => J es.length h' v') := by
  intro dp un fr gd hs gens drawn toks os Q E hbs X0 T0 st0 hn0 hp hd hu hret
  revert X0; k_fill; intro X0
  try dsimp only at hp hret
  obtain ⟨hno, hp⟩ := hp
  k_dflt (refine' enter_defN X0 T0 st0 hn0 hno ?k6 ?k7 ?k8 ?k9 ?kB ?_ ?c2 ?c3 ?c4 ?c5; (case k6 => k_is); (case k7 => k_is); (case k8 => (show dp < _; omega)); (case k9 => exact binds_K (X0.keeps st0) rfl (by k_is) rfl rfl rfl); (case kB => exact locs rfl); (case c2 => exact rfl); (case c3 => exact rfl); (case c4 => exact rfl); (case c5 => decide))
  intro g L h₁ tk X T hg F N hg2
  dsimp only at hg F N hg2 ⊢
  k_fold
  obtain ⟨hl0, hlv0, hJ0⟩ := hp
  have hlv1 : g.IsList va vav.toArray := isList_keep hlv0 fun o e => hg _ o hvn e
  replace F := Fr.congr (m' := redM (.ref fl) (.ref sa) (.ref va) none none none) F (by
    intro q
    unfold redM
    show List.lookup q [(Str.ofString "initial", Value.ref va), (Str.ofString "sequence", Value.ref sa), (Str.ofString "function", Value.ref fl)] = _
    simp only [lk, List.lookup_nil]
    by_cases c1 : q = Str.ofString "element"
    · subst c1; rfl
    by_cases c2 : q = Str.ofString "value"
    · subst c2; rfl
    by_cases c3 : q = Str.ofString "it"
    · subst c3; rfl
    simp only [if_neg c1, if_neg c2, if_neg c3])
  have hl1 : g.IsList sa es.toArray := isList_keep hl0 fun o e => hg _ o hsa e
  k_steps
  refine is_list_other (by assumption) hlv1 (by refine neN ?_; exact hva) X (by k_is) ?_
  k_steps
  refine wpAny_For ?_
  k_steps
  rename Fr _ _ _ _ => F2
  rename News _ _ _ _ => N2
  rename Obj => oI
  rename LitIs _ _ _ => hI
  rename_i I hA lA hB hC
  have ho : @LT.lt Nat _ noted I := by omega
  obtain ⟨hJ1, hJ1e⟩ : ∃ hJ1, hJ1 = heapOfFr F2 := ⟨_, rfl⟩
  dsimp only [heapOfFr] at hJ1e
  rw [← hJ1e] at F2 N2 ⊢
  have hgI : g.get? I = none := (N2 _ (.head _)).2.2
  have hIL : I ≠ L := (N2 _ (.head _)).2.1
  have hgn : g.get? noted = none := (N2 _ (.tail _ (.head _))).2.2
  have hnL : noted ≠ L := (N2 _ (.tail _ (.head _))).2.1
  have hnI : I ≠ noted := by refine neN ?_; omega
  have hsI : sa ≠ I := by
    rintro rfl
    obtain ⟨o, ho, _⟩ := hl1
    rw [hgI] at ho; cases ho
  have hit : hJ1.IsListIter I sa 0 := ⟨oI, (N2 _ (.head _)).1, hI.1, hI.2⟩
  refine wpAny_pyIter_listiter hit ?_
  have noK : ∀ {h : Heap} {m : Str → Option Value} {a : Addr} {o : Obj}, h.Ns L m → KeepO o → h.get? a = some o → a ≠ L := fun n k e q => by
    refine @by_no _ fun hNo9 => ?_
    obtain ⟨o', es, ep, e', hd, _⟩ := n
    rw [q, e'] at e; cases e
    refine hNo9 ?_
    clear hNo9
    exact k.1 _ _ hd
  refine for_heap2 (walks_list rfl I sa hsI (es)) (fun (i : Nat) (h : Heap) => 0 ≤ i ∧ ∃ vl el, Fr g L h (redM (.ref fl) (.ref sa) (.ref va) (some (.ref I)) (some vl) el) ∧ J (i) h vl) 0 (by first | exact Nat.zero_le _ | (simp only [List.length_cons]; omega)) ?st ?J ?next ?go ?turn ?done
  case st => exact ⟨hit, isList_keep hl1 fun o e => F2.keep _ o e⟩
  case J =>
    refine ⟨Nat.le_refl _, .ref va, none, Fr.congr F2 ?_, hmono _ _ _ _ hJ0 fun a o hk e => ?_⟩
    · intro q
      unfold redM
      by_cases c1 : q = Str.ofString "value"
      · subst c1; rfl
      by_cases c2 : q = Str.ofString "it"
      · subst c2; rfl
      simp only [if_neg c1, if_neg c2]
    · by_cases ha : a = noted
      · subst ha
        have := hno.symm.trans e
        cases this
        exact (N2 _ (.tail _ (.head _))).1
      · exact F2.keep _ _ (hg a o ha e)
  case next =>
    intro i h h' ri15 ri16 hk
    refine @by_no _ fun hNo9 => ?_
    obtain ⟨⟨oi, e1, e2, e3⟩, _⟩ := ri15
    obtain ⟨hi, vl, el, F, j⟩ := ri16
    refine hNo9 ?_
    clear hNo9
    refine ⟨hi, vl, el, ⟨F.ns.at' fun o e => hk _ o (by simpa using Ne.symm hIL) e, fun b o e => hk b o ?_ (F.keep b o e), F.above⟩, hmono _ _ _ _ j fun a o hko e => hk a o ?_ e⟩
    · simp only [List.mem_singleton]
      rintro rfl
      rw [hgI] at e; cases e
    · simp only [List.mem_singleton]
      rintro rfl
      rw [e1] at e; cases e
      exact hko.2 _ _ e3
  case go =>
    intro i v h tk Q' E' _ _ hq
    exact wpAny_pure hq
  case turn =>
    intro i v h tk QB1 hQB1 _ _ hi hP ri17 ri18
    refine @by_no _ fun hNo9 => ?_
    obtain ⟨hi0, vl, el, F, j⟩ := ri17
    obtain ⟨hit5, hls5⟩ := ri18
    refine hNo9 ?_
    clear hNo9
    dsimp only
    have nsL := F.ns
    obtain ⟨led, hBN⟩ := base_of F (News.nil (h₀ := g) (L := L) (h := h))
    have N : News g L h led := hBN.1
    clear N2 F2
    k_steps
    rename Fr _ _ _ _ => F5
    rename News _ _ _ _ => N5
    have all := Base.all hBN.2.2 hBN.1 F5 N5 (fun p hp => hp)
    have j5 := hmono _ _ _ _ j fun a o hko e => all a o (noK nsL hko e) e
    k_dflt (refine' callWith_F (hfn _ _ _ j5) ?_)
    k_steps
    refine ⟨hfn _ _ _ j5, ?_⟩
    try dsimp only [List.nil_append]
    k_dflt (refine' use_specN (step (i) v vl (by exact hP)) X T ?qst hgn ?qhp ?qhd ?qhu ?_; (case qst => exact F5.keep); (case qhp => exact j5); (case qhd => (dsimp only [Around.deeper]; omega)); (case qhu => (dsimp only [Around.deeper]; omega)))
    intro v' h6 tk6 k6 j6
    dsimp only at k6
    have F6 : Fr g L h6 _ := ⟨F5.ns.at' fun o e => k6 _ o (Ne.symm hnL) e, fun b o e => k6 b o (fun q => by rw [q, hgn] at e; cases e) (F5.keep b o e), F5.above⟩
    have ns6 := F6.ns
    obtain ⟨led6, hBN6⟩ := base_of F6 (News.nil (h₀ := g) (L := L) (h := h6))
    have N6 : News g L h6 led6 := hBN6.1
    clear F5 N5
    k_steps
    rename Fr _ _ _ _ => F7
    rename News _ _ _ _ => N7
    have all6 := Base.all hBN6.2.2 hBN6.1 F7 N7 (fun p hp => hp)
    refine hQB1 _ _ _ (.inl rfl) ⟨Nat.le_succ_of_le hi0, v', some v, Fr.congr F7 ?zfr, ?zJ⟩ ?zit
    case zfr =>
      intro q
      unfold redM
      by_cases c1 : q = Str.ofString "value"
      · subst c1; rfl
      by_cases c2 : q = Str.ofString "element"
      · subst c2; rfl
      simp only [if_neg c1, if_neg c2]
    case zJ =>
      have j7 := hmono _ _ _ _ j6 fun a o hko e => all6 a o (noK ns6 hko e) e
      exact j7
    case zit =>
      intro b hb o e
      have hbs : b ≠ noted ∧ b ≠ L := by
        rcases List.mem_cons.mp hb with rfl | hb
        · exact ⟨hnI, hIL⟩
        · obtain rfl := List.mem_singleton.mp hb
          exact ⟨hsa, isList_ne nsL hls5⟩
      exact all6 b o hbs.2 (k6 b o hbs.1 (all b o hbs.2 e))
  case done =>
    rintro h tk ⟨hi0, vl, el, F, j⟩
    dsimp only
    have nsL := F.ns
    obtain ⟨led, hBN⟩ := base_of F (News.nil (h₀ := g) (L := L) (h := h))
    have N : News g L h led := hBN.1
    clear N2 F2
    k_steps
    rename Fr _ _ _ _ => F5
    exact hret _ _ _ (fun b o hb e => F5.keep b o (hg b o hb e)) j
theorem sp_reduce2  (fl sa va noted : Addr) (on : Obj) (e₀ : Value) (es : List Value) (hsa : sa ≠ noted) (k : Nat) (J : Nat → Heap → Value → Prop)
    (hmono : ∀ i h h' v, J i h v → (∀ a o, KeepO o → h.get? a = some o → h'.get? a = some o) → J i h' v)
    (hfn : ∀ i h v, J i h v → FnAt fl h)
    (step : ∀ i e v, es[i]? = some e → SpecN fl [v, e] k noted (fun h => J i h v) (fun _ v' h' => J (i + 1) h' v')) :
    SpecN 47 [.ref fl, .ref sa] (k + 2) noted (fun h => h.get? noted = some on ∧ h.IsList sa (e₀ :: es).toArray ∧ J 0 h e₀) (fun _ v' h' => J es.length h' v') := by
  intro dp un fr gd hs gens drawn toks os Q E hbs X0 T0 st0 hn0 hp hd hu hret
  revert X0; k_fill; intro X0
  try dsimp only at hp hret
  obtain ⟨hno, hp⟩ := hp
  k_dflt (refine' enter_defN X0 T0 st0 hn0 hno ?k6 ?k7 ?k8 ?k9 ?kB ?_ ?c2 ?c3 ?c4 ?c5; (case k6 => k_is); (case k7 => k_is); (case k8 => (show dp < _; omega)); (case k9 => exact binds_K (X0.keeps st0) rfl (by k_is) rfl rfl rfl); (case kB => exact locs rfl); (case c2 => exact rfl); (case c3 => exact rfl); (case c4 => exact rfl); (case c5 => decide))
  intro g L h₁ tk X T hg F N hg2
  dsimp only at hg F N hg2 ⊢
  k_fold
  obtain ⟨hl0, hJ0⟩ := hp
  replace F := Fr.congr (m' := redM (.ref fl) (.ref sa) (.ref 39) none none none) F (by
    intro q
    unfold redM
    show List.lookup q [(Str.ofString "initial", Value.ref 39), (Str.ofString "sequence", Value.ref sa), (Str.ofString "function", Value.ref fl)] = _
    simp only [lk, List.lookup_nil]
    by_cases c1 : q = Str.ofString "element"
    · subst c1; rfl
    by_cases c2 : q = Str.ofString "value"
    · subst c2; rfl
    by_cases c3 : q = Str.ofString "it"
    · subst c3; rfl
    simp only [if_neg c1, if_neg c2, if_neg c3])
  have hl1 : g.IsList sa (e₀ :: es).toArray := isList_keep hl0 fun o e => hg _ o hsa e
  k_steps
  refine wpAny_For ?_
  k_steps
  rename Fr _ _ _ _ => F2
  rename News _ _ _ _ => N2
  rename Obj => oI
  rename LitIs _ _ _ => hI
  rename_i I hA oA hiA lA hB tkA hC hD
  have ho : @LT.lt Nat _ noted I := by omega
  obtain ⟨hJ1, hJ1e⟩ : ∃ hJ1, hJ1 = heapOfFr F2 := ⟨_, rfl⟩
  dsimp only [heapOfFr] at hJ1e
  rw [← hJ1e] at F2 N2 ⊢
  have hgI : g.get? I = none := (N2 _ (.head _)).2.2
  have hIL : I ≠ L := (N2 _ (.head _)).2.1
  have hgn : g.get? noted = none := (N2 _ (.tail _ (.head _))).2.2
  have hnL : noted ≠ L := (N2 _ (.tail _ (.head _))).2.1
  have hnI : I ≠ noted := by refine neN ?_; omega
  have hsI : sa ≠ I := by
    rintro rfl
    obtain ⟨o, ho, _⟩ := hl1
    rw [hgI] at ho; cases ho
  have hit : hJ1.IsListIter I sa 1 := ⟨oI, (N2 _ (.head _)).1, hI.1, hI.2⟩
  refine wpAny_pyIter_listiter hit ?_
  have noK : ∀ {h : Heap} {m : Str → Option Value} {a : Addr} {o : Obj}, h.Ns L m → KeepO o → h.get? a = some o → a ≠ L := fun n k e q => by
    refine @by_no _ fun hNo9 => ?_
    obtain ⟨o', es, ep, e', hd, _⟩ := n
    rw [q, e'] at e; cases e
    refine hNo9 ?_
    clear hNo9
    exact k.1 _ _ hd
  refine for_heap2 (walks_list rfl I sa hsI (e₀ :: es)) (fun (i : Nat) (h : Heap) => 1 ≤ i ∧ ∃ vl el, Fr g L h (redM (.ref fl) (.ref sa) (.ref 39) (some (.ref I)) (some vl) el) ∧ J (i - 1) h vl) 1 (by first | exact Nat.zero_le _ | (simp only [List.length_cons]; omega)) ?st ?J ?next ?go ?turn ?done
  case st => exact ⟨hit, isList_keep hl1 fun o e => F2.keep _ o e⟩
  case J =>
    refine ⟨Nat.le_refl _, e₀, none, Fr.congr F2 ?_, hmono _ _ _ _ hJ0 fun a o hk e => ?_⟩
    · intro q
      unfold redM
      by_cases c1 : q = Str.ofString "value"
      · subst c1; rfl
      by_cases c2 : q = Str.ofString "it"
      · subst c2; rfl
      simp only [if_neg c1, if_neg c2]
    · by_cases ha : a = noted
      · subst ha
        have := hno.symm.trans e
        cases this
        exact (N2 _ (.tail _ (.head _))).1
      · exact F2.keep _ _ (hg a o ha e)
  case next =>
    intro i h h' ri20 ri21 hk
    refine @by_no _ fun hNo9 => ?_
    obtain ⟨⟨oi, e1, e2, e3⟩, _⟩ := ri20
    obtain ⟨hi, vl, el, F, j⟩ := ri21
    refine hNo9 ?_
    clear hNo9
    refine ⟨hi, vl, el, ⟨F.ns.at' fun o e => hk _ o (by simpa using Ne.symm hIL) e, fun b o e => hk b o ?_ (F.keep b o e), F.above⟩, hmono _ _ _ _ j fun a o hko e => hk a o ?_ e⟩
    · simp only [List.mem_singleton]
      rintro rfl
      rw [hgI] at e; cases e
    · simp only [List.mem_singleton]
      rintro rfl
      rw [e1] at e; cases e
      exact hko.2 _ _ e3
  case go =>
    intro i v h tk Q' E' _ _ hq
    exact wpAny_pure hq
  case turn =>
    intro i v h tk QB1 hQB1 _ _ hi hP ri22 ri23
    refine @by_no _ fun hNo9 => ?_
    obtain ⟨hi0, vl, el, F, j⟩ := ri22
    obtain ⟨hit5, hls5⟩ := ri23
    refine hNo9 ?_
    clear hNo9
    dsimp only
    have nsL := F.ns
    obtain ⟨led, hBN⟩ := base_of F (News.nil (h₀ := g) (L := L) (h := h))
    have N : News g L h led := hBN.1
    clear N2 F2
    k_steps
    rename Fr _ _ _ _ => F5
    rename News _ _ _ _ => N5
    have all := Base.all hBN.2.2 hBN.1 F5 N5 (fun p hp => hp)
    have j5 := hmono _ _ _ _ j fun a o hko e => all a o (noK nsL hko e) e
    k_dflt (refine' callWith_F (hfn _ _ _ j5) ?_)
    k_steps
    refine ⟨hfn _ _ _ j5, ?_⟩
    try dsimp only [List.nil_append]
    k_dflt (refine' use_specN (step (i - 1) v vl (by (obtain ⟨j, rfl⟩ : ∃ j, i = j + 1 := ⟨i - 1, by omega⟩; simpa using hP))) X T ?qst hgn ?qhp ?qhd ?qhu ?_; (case qst => exact F5.keep); (case qhp => exact j5); (case qhd => (dsimp only [Around.deeper]; omega)); (case qhu => (dsimp only [Around.deeper]; omega)))
    intro v' h6 tk6 k6 j6
    dsimp only at k6
    have F6 : Fr g L h6 _ := ⟨F5.ns.at' fun o e => k6 _ o (Ne.symm hnL) e, fun b o e => k6 b o (fun q => by rw [q, hgn] at e; cases e) (F5.keep b o e), F5.above⟩
    have ns6 := F6.ns
    obtain ⟨led6, hBN6⟩ := base_of F6 (News.nil (h₀ := g) (L := L) (h := h6))
    have N6 : News g L h6 led6 := hBN6.1
    clear F5 N5
    k_steps
    rename Fr _ _ _ _ => F7
    rename News _ _ _ _ => N7
    have all6 := Base.all hBN6.2.2 hBN6.1 F7 N7 (fun p hp => hp)
    refine hQB1 _ _ _ (.inl rfl) ⟨Nat.le_succ_of_le hi0, v', some v, Fr.congr F7 ?zfr, ?zJ⟩ ?zit
    case zfr =>
      intro q
      unfold redM
      by_cases c1 : q = Str.ofString "value"
      · subst c1; rfl
      by_cases c2 : q = Str.ofString "element"
      · subst c2; rfl
      simp only [if_neg c1, if_neg c2]
    case zJ =>
      have j7 := hmono _ _ _ _ j6 fun a o hko e => all6 a o (noK ns6 hko e) e
      (obtain ⟨j, rfl⟩ : ∃ j, i = j + 1 := ⟨i - 1, by omega⟩; exact j7)
    case zit =>
      intro b hb o e
      have hbs : b ≠ noted ∧ b ≠ L := by
        rcases List.mem_cons.mp hb with rfl | hb
        · exact ⟨hnI, hIL⟩
        · obtain rfl := List.mem_singleton.mp hb
          exact ⟨hsa, isList_ne nsL hls5⟩
      exact all6 b o hbs.2 (k6 b o hbs.1 (all b o hbs.2 e))
  case done =>
    rintro h tk ⟨hi0, vl, el, F, j⟩
    dsimp only
    have nsL := F.ns
    obtain ⟨led, hBN⟩ := base_of F (News.nil (h₀ := g) (L := L) (h := h))
    have N : News g L h led := hBN.1
    clear N2 F2
    k_steps
    rename Fr _ _ _ _ => F5
    exact hret _ _ _ (fun b o hb e => F5.keep b o (hg b o hb e)) (by simpa using j)
section
variable {w : World} {A : Around} {s : Shared} {p : Program} {loose : List Str} {mean : ExcName → Option Value} {mg mb : Str → Option Value}
  {name qual : Str} {params : Arguments} {body : Expr} {scope : Scope} {cl : List (Str × Addr)} {pm ctv : Value} {c' f : Addr} {pos : List Value} {binds : List (Str × Value)}
/-- a lambda entered where the object at `noted` may be turned -/
theorem enter_lamN {Q E : Value → Shared → Prop} {hb : Heap} {noted : Addr} {on : Obj} (X : (hd.heap_1 w.params).In hb) (T : Top p loose mean mg mb hb) (st : hb.StaysIn s.heap) (hn : hb.get? noted = none) (hno : s.heap.get? noted = some on)
    (hf : s.heap.get? f = some (kla_obj name qual params body scope cl pm c' ctv)) (hcd : s.heap.CodeRec (.ref c') qual) (hroom : A.depth < recursionLimit)
    (hbind : bindArgs (kla_fn name qual params body scope cl pm (.ref c') ctv) ⟨pos, []⟩ = pure binds) (hloc : ∀ y ∈ binds, scope.names.lookup y.1 = some .local)
    (h : ∀ g L h₁ tk, (hd.heap_1 w.params).In g → Top p loose mean mg mb g → (∀ b o, b ≠ noted → s.heap.get? b = some o → g.get? b = some o) → Fr g L h₁ (fun y => binds.reverse.lookup y) → News g L h₁ [(noted, on)] → (∀ b o, g.get? b = some o → s.heap.get? b = some o) →
      wpAny (model PySem.Challenge.rw_qh0094_01.row.prog w) (A.deeper (envX qual scope L f (.ref c') cl)) (eval body (envX qual scope L f (.ref c') cl)) Q (fun _ _ => False) { s with heap := h₁, toks := tk })
    (hco : scope.isCoroutine = false) (hgen : scope.isGenerator = false) (hk : scope.kind = .function)
    (hcell : ∀ x ∈ scope.names, x.2 ≠ .cell) : wpAny (model PySem.Challenge.rw_qh0094_01.row.prog w) A (call (.ref f) pos) Q E s := by
  refine wpAny_call ?_
  have hst : hb.StaysIn (hideAll s.heap [noted]) := fun b o e => hideAll_get _ (st b o e) (by
    intro hm
    rw [List.mem_singleton.mp hm, hn] at e
    cases e)
  refine kla_callFunE hroom hf rfl hco hgen rfl hcd ?_
  rw [hbind]
  refine wpAny_pure (wpAny_newFunctionEnv hcell hloc (fun h₁ hns hsb => ⟨((T.keeps st).nolimit).fresh _ hsb, ?_⟩) hk)
  show codeAny _ _ (.expr body (envX qual scope s.heap.objs.size f (.ref c') cl)) _ _
  have hk₁ : ∀ b o, s.heap.get? b = some o → h₁.get? b = some o := fun b o e => hsb.extBut b o (Nat.ne_of_lt (Heap.lt_size e)) (Heap.get?_push_of_some _ e)
  refine kla_codeExpr (wpAny_mono (h (hideAll s.heap [noted]) s.heap.objs.size h₁ _ (X.keeps hst) (T.keeps hst) (fun b o hb e => hideAll_get _ e (by simpa using hb)) ⟨hns, fun b o e => hk₁ b o (of_hideAll _ e), Nat.le_of_eq (hideAll_size _ _)⟩ (fun q hq => ?_) (fun b o e => of_hideAll _ e)) (fun _ _ x => x) (fun _ _ x => x.elim))
  rw [List.mem_singleton.mp hq]
  exact ⟨hk₁ _ _ hno, Nat.ne_of_lt (Heap.lt_size hno), hideAll_none _ (List.mem_singleton.mpr rfl)⟩
end
theorem name_free {M : Model} {A : Around} {E : Value → Shared → Prop} {s : Shared} {g : Heap} {L a c : Addr} {m : Str → Option Value} {cn : Str} {cs : Scope} {ccd : Value} {cl : List (Str × Addr)} {x : Str} {pos : Pos} {v : Value} {o : Obj} {Q : Value → Shared → Prop} (F : Fr g L s.heap m)
    (hc : cl.lookup x = some c) (hg : g.get? c = some o) (hd : o.data = .cell (some v)) (h : Q v s)
    (hk : cs.kind = .function := by rfl) (hx : (envX cn cs L a ccd cl).kindOf x = some .free := by rfl) (hb : (x == ("__debug__" : Str)) = false := by decide) (hn : (x == ("__classdict__" : Str)) = false := by decide) :
    wpAny M A (eval (.Name x pos) (envX cn cs L a ccd cl)) Q E s := wpAny_Name (wpAny_loadName_free hk hx hc ⟨o, F.keep _ _ hg, hd⟩ h hn) hb

theorem begin_Ex1 : True := by
  w_on
  w_top off
  k_with_none
  k_with "om" => (law_clear; first | with_reducible assumption | (law_purse 20000 => grind))
  k_with "guard" => skip
  trivial
set_option maxHeartbeats 2000000
/-- an exception under way: its object, the head of its track -/
structure Fly (base : Heap) (l : List Env) (e tb : Addr) (oe otb : Obj) (vs tvs : Array Value) (h : Heap) : Prop where
  stay : base.StaysIn h
  funs : h.FunFrames base l
  ge : h.get? e = some oe
  hd : oe.data = .fields vs
  v1 : vs[1]? = some (.ref tb)
  gt : h.get? tb = some otb
  td : otb.data = .fields tvs
  tz : 3 < tvs.size
  ne : tb ≠ e
  be : base.get? e = none
  bt : base.get? tb = none
section
variable {M : Model} {A : Around} {E : Value → Shared → Prop} {s : Shared}
theorem Fly.flying {base h : Heap} {l : List Env} {e tb : Addr} {oe otb : Obj} {vs tvs : Array Value} {a0 : Value} (Z : Fly base l e tb oe otb vs tvs h) (h0 : vs[0]? = some a0) (h3 : tvs[3]? = some .none) : Heap.FlyingW base l e oe.cls a0 h :=
  ⟨Z.stay, Z.be, Z.funs, oe, vs, tb, otb, tvs, Z.ge, ⟨rfl, h0⟩, Z.hd, Z.v1, Z.bt, Z.ne, Z.gt, Z.td, h3⟩
/-- the flight mark of the head is set -/
theorem fly_set {base : Heap} {l : List Env} {e tb : Addr} {oe otb : Obj} {vs tvs : Array Value} {f : Option Addr} {Q : Unit → Shared → Prop} (Z : Fly base l e tb oe otb vs tvs s.heap)
    (h : ∀ h' otb', Fly base l e tb oe otb' vs (tvs.setIfInBounds 3 (f.elim .none fun f => rawInt f)) h' → (∀ b, b ≠ tb → h'.get? b = s.heap.get? b) → Q () { s with heap := h' }) : wpAny M A (setFlight (.ref e) f) Q E s := by
  unfold setFlight
  refine wpAny_bind (wpAny_field Z.ge Z.hd Z.v1 ?_)
  rw [if_pos (show (Value.ref tb != Value.none) = true from by simp)]
  refine wpAny_setField Z.gt Z.td Z.tz ?_
  have oth : ∀ b, b ≠ tb → (s.heap.update tb (Obj.mapFields (·.setIfInBounds 3 (f.elim .none fun f => rawInt f)))).get? b = s.heap.get? b := fun b hb => Heap.get?_update_other _ _ (Ne.symm hb)
  refine h _ _ ⟨fun b o hb => (oth b fun q => by rw [q, Z.bt] at hb; cases hb).trans (Z.stay b o hb), Z.funs.of_keeps fun b o hb hn => ⟨o, (oth b fun q => by rw [q, Z.gt] at hb; cases hb; exact hn _ Z.td).trans hb, rfl⟩, (oth e (Ne.symm Z.ne)).trans Z.ge, Z.hd, Z.v1,
    Heap.get?_update_self _ Z.gt (Obj.isFreed_of_fields (Obj.data_mapFields Z.td _)), Obj.data_mapFields Z.td _, by simpa using Z.tz, Z.ne, Z.be, Z.bt⟩ oth
/-- the first note on an exception's track -/
theorem note_first {base : Heap} {env : Env} {outer : List Env} {L e : Addr} {oe : Obj} {vs : Array Value} {Q : Unit → Shared → Prop} (hfr : A.frames = some (env :: outer)) (hl : s.heap.FunFrames base (env :: outer)) (hf : env.frame = some L)
    (hkb : base.StaysIn s.heap) (he : s.heap.get? e = some oe) (hen : base.get? e = none) (hd : oe.data = .fields vs) (h1 : vs[1]? = some .none)
    (h : ∀ h' tb otb tvs, Fly base (env :: outer) e tb (oe.mapFields (·.setIfInBounds 1 (.ref tb))) otb (vs.setIfInBounds 1 (.ref tb)) tvs h' → tvs[3]? = some (rawInt L) → s.heap.get? tb = none → (∀ b o, b ≠ e → s.heap.get? b = some o → ∃ sl, h'.get? b = some { o with slots := sl }) →
      (∀ b o, b ≠ e → b ∉ (env :: outer).filterMap (·.frame) → s.heap.get? b = some o → h'.get? b = some o) → Q () { s with heap := h' }) :
    wpAny M A (noteFrame (.ref e) env) Q E s := by
  have hsz : 1 < vs.size := (Array.getElem?_eq_some_iff.mp h1).1
  have hene : e ∉ (env :: outer).filterMap (·.frame) := fun hm => by
    obtain ⟨_, o, ho, hnf⟩ := hl.mem hm
    rw [he] at ho; cases ho; exact hnf vs hd
  unfold noteFrame
  simp only [hf]
  refine wpAny_bind (wpAny_field he hd h1 ?_)
  rw [if_neg (by decide)]
  refine wpAny_bind (wpAny_frameOf_fun hfr hl hf fun h₁ hs₁ => ?_)
  refine wpAny_bind (wpAny_entryPlaceOf fun pl hpl => ?_)
  unfold EntryCells.newEntry newFields
  refine wpAny_bind (wpAny_newObj_type ?_ (hpl.sizeOk5 _ _ _ _ _))
  have he₁ : h₁.get? e = some oe := (hs₁.2.1 e hene).trans he
  have kb₁ : base.StaysIn h₁ := fun b o hb => (hs₁.2.1 b fun hm => by rw [(hl.mem hm).1] at hb; cases hb).trans (hkb b o hb)
  obtain ⟨T, hT⟩ : ∃ T : Obj, T = { cls := .type "traceback", dict := none, data := .fields ([Value.none, .ref L, .none, rawInt L, .none] ++ (if pl.isEmpty then List.replicate 6 Value.none else pl)).toArray } := ⟨_, rfl⟩
  rw [← hT]
  have he₂ := Heap.get?_push_of_some T he₁
  refine wpAny_setField he₂ hd hsz ?_
  have nE : ∀ b o, h₁.get? b = some o → h₁.objs.size ≠ b := fun b o hb => Nat.ne_of_gt (Heap.lt_size hb)
  have keep : ∀ b o, b ≠ e → h₁.get? b = some o → ((h₁.push T).update e (Obj.mapFields (·.setIfInBounds 1 (Value.ref h₁.objs.size)))).get? b = some o := fun b o hb q => by
    rw [Heap.get?_update_other _ _ (Ne.symm hb)]; exact Heap.get?_push_of_some _ q
  have Tf : T.isFreed = false := by rw [hT]; rfl
  refine h _ h₁.objs.size T ([Value.none, .ref L, .none, rawInt L, .none] ++ (if pl.isEmpty then List.replicate 6 Value.none else pl)).toArray ⟨fun b o hb => keep b o (fun q => by rw [q, hen] at hb; cases hb) (kb₁ b o hb), hl.of_keeps fun b o hb hnf => ?_, Heap.get?_update_self _ he₂ (Obj.isFreed_of_fields (Obj.data_mapFields hd _)), Obj.data_mapFields hd _, by simp [hsz],
    (Heap.get?_update_other _ _ (Ne.symm (nE e _ he₁))).trans (Heap.get?_push_size h₁ Tf), by rw [hT], by simp, nE e _ he₁, hen, kb₁.fresh⟩ (by simp) ?_ (fun b o hb q => ?_) (fun b o hb hm q => keep b o hb ((hs₁.2.1 b hm).trans q))
  · obtain ⟨sl, q⟩ := hs₁.2.2 b o hb
    exact ⟨_, keep b _ (fun r => by rw [r, he] at hb; cases hb; exact hnf vs hd) q, rfl⟩
  · cases q : s.heap.get? h₁.objs.size with
    | none => rfl
    | some o =>
      obtain ⟨sl, q⟩ := hs₁.2.2 _ o q
      exact absurd (Heap.lt_size q) (Nat.lt_irrefl _)
  · obtain ⟨sl, q⟩ := hs₁.2.2 b o q
    exact ⟨sl, keep b _ hb q⟩
/-- a note that is there already -/
theorem note_again {base : Heap} {env : Env} {l : List Env} {L e tb : Addr} {oe otb : Obj} {vs tvs : Array Value} {Q : Unit → Shared → Prop} (hf : env.frame = some L) (Z : Fly base l e tb oe otb vs tvs s.heap) (h3 : tvs[3]? = some (rawInt L)) (h : Q () s) : wpAny M A (noteFrame (.ref e) env) Q E s :=
  wpAny_noteFrame_inFlight hf Z.ge Z.hd Z.v1 Z.gt Z.td h3 h
end
section
variable {prog : Program} {w : World} {A : Around} {E : Value → Shared → Prop} {s : Shared}
theorem entry_unchain : entryFor table "proto.unchain" = some Builtin.«proto.unchain» := entryFor_of_fast (by kernel_rfl)
theorem unchain_none {v : Value} {x : Addr} {ox : Obj} {vs : Array Value} {Q : Value → Shared → Prop} (hx : s.heap.get? x = some ox) (hd : ox.data = .fields vs) (h2 : vs[2]? = some .none) (h : Q .none s) :
    wpAny (model prog w) A (runValue (.builtin "proto.unchain" ⟨[v, .ref x, .ref x, .bool false], []⟩)) Q E s := by
  refine wpAny_runValue (codeAny_builtin entry_unchain ?_)
  unfold Builtin.«proto.unchain»
  show wpAny _ _ (field (.ref x) 2 >>= _) _ _ s
  refine wpAny_bind (wpAny_field hx hd h2 ?_)
  exact wpAny_pure h
theorem raiseNew_held {α : Type} {e x : Addr} {oe ox : Obj} {ws vs : Array Value} {Q : α → Shared → Prop} (hh : A.handled = some (.ref x)) (hne : x ≠ e) (hx : s.heap.get? x = some ox) (hd : ox.data = .fields vs) (h2 : vs[2]? = some .none)
    (he : s.heap.get? e = some oe) (hw : oe.data = .fields ws) (hz : 2 < ws.size) (h : E (.ref e) { s with heap := s.heap.update e (Obj.mapFields (·.setIfInBounds 2 (.ref x))) }) : wpAny (model prog w) A (raiseNew (.ref e) : Sem α) Q E s := by
  unfold raiseNew
  refine wpAny_bind (wpAny_handled ?_)
  rw [hh]
  dsimp only
  rw [if_pos (show (Value.ref x != Value.ref e) = true from by simp [hne])]
  refine wpAny_bind (wpAny_holding (unchain_none hx hd h2 ?_))
  refine wpAny_bind ?_
  show wpAny _ _ (setField (.ref e) 2 (.ref x)) _ _ _
  exact wpAny_setField he hw hz (wpAny_throw h)
theorem special_end {it l : Addr} {i : Nat} {items : Array Value} {Q : Option Value → Shared → Prop} (hh : A.handled = none) (hit : s.heap.IsListIter it l i) (hl : s.heap.IsList l items) (hx : items[i]? = none)
    (h : ∀ h₁ h' e, Heap.SameBut it s.heap h₁ → Heap.MadeExc h₁ h' e "StopIteration" [] → E (.ref e) { s with heap := h' }) : wpAny (model prog w) A (callSpecial? (.ref it) (Str.ofString "__next__")) Q E s := by
  refine @by_no _ fun hNo9 => ?_
  obtain ⟨o, ho, hc, hd⟩ := id hit
  obtain ⟨ol, hol, _, nl, hdl⟩ := hl
  refine hNo9 ?_
  clear hNo9
  refine wpAny_callSpecial?_slot (name := Str.ofString "__next__") hit.typeIs slot_listiter_next
    (wpAny_call_entry slot_listiter_next hit.typeIs entry_listiter_next ?_ (args_listiter_next _))
  show wpAny _ _ (field (.ref it) 0 >>= _) _ _ s
  refine wpAny_bind (wpAny_field ho hd (x := .ref l) rfl ?_)
  show wpAny _ _ (if (Value.ref l == Value.none) = true then _ else _) _ _ s
  rw [if_neg (show ¬ ((Value.ref l == Value.none) = true) from Bool.false_ne_true)]
  show wpAny _ _ (field (.ref it) 1 >>= _) _ _ s
  refine wpAny_bind (wpAny_field ho hd (x := .int i 0) rfl ?_)
  show wpAny _ _ (seqItems? (.ref l) >>= _) _ _ s
  refine wpAny_bind (wpAny_seqItems hol hdl ?_)
  simp only [Int.toNat_natCast, hx]
  refine wpAny_bind (wpAny_rule (wpAny_bind (wpAny_setField ho hd (by simp) ?_)))
  show wpAny _ _ (newExc (.type "StopIteration") [] >>= _) _ _ _
  refine wpAny_bind ?_
  simp only [newExc, newTuple]
  refine wpAny_bind (wpAny_newObj_type ?_ (by size_fits))
  refine wpAny_bind (m := firstArgMember _ _) (wpAny_of_eq (a := Value.none) (by first | rfl | (simp only [firstArgMember]; rfl)) ?_)
  refine wpAny_newObj_type ?_ (by size_fits)
  simp only [raiseNew]
  refine wpAny_bind (wpAny_handled ?_)
  rw [show A.in1.handled = none from hh]
  refine wpAny_bind (wpAny_pure (wpAny_throw ?_))
  refine h _ _ _ (Heap.SameBut.update ..) ⟨fun b o q => Heap.get?_push_of_some _ (Heap.get?_push_of_some _ q), Heap.get?_none_of_le (by rw [Heap.size_push]; exact Nat.le_succ _), _, Heap.get?_push_size _ rfl, Heap.get?_none_of_le (Nat.le_refl _), Heap.get?_push_of_some _ (Heap.get?_push_size _ rfl)⟩
theorem next_end {it l : Addr} {i : Nat} {items : Array Value} {Q : Value → Shared → Prop} (hh : A.handled = none) (hit : s.heap.IsListIter it l i) (hl : s.heap.IsList l items) (hx : items[i]? = none)
    (h : ∀ h₁ h' e, Heap.SameBut it s.heap h₁ → Heap.MadeExc h₁ h' e "StopIteration" [] → E (.ref e) { s with heap := h' }) : wpAny (model prog w) A (call (.builtin "next") [.ref it]) Q E s := by
  refine call_function_entry (by decide +kernel) (by decide +kernel) kdk_entry_next (kdk_args_next _) ?_
  unfold Builtin.«next»
  refine wpAny_bind (m := someArgs "next" 1 2 _) (wpAny_of_eq (a := [Value.ref it]) (by first | rfl | kernel_rfl!) ?_)
  dsimp only
  refine wpAny_bind (wpAny_specialOf (name := Str.ofString "__next__") hit.typeIs slot_listiter_next.lookup ?_)
  refine wpAny_ite_split (fun hab => absurd hab (by decide)) (fun _ => ?_)
  exact wpAny_bind (special_end hh hit hl hx h)
end

theorem begin_Ex2 : True := by
  w_on
  w_top off
  k_with_none
  k_with "om" => (law_clear; first | with_reducible assumption | (law_purse 20000 => grind))
  k_with "guard" => skip
  trivial
set_option maxHeartbeats 2000000
section
variable {prog : Program} {w : World} {A : Around} {E : Value → Shared → Prop} {s : Shared} {env : Env}
theorem raiseStmt_from_none {cls : String} (G : ExcRaiseFacts cls) {x : Sem Value} {c : Sem Value} {y : Addr} {oy : Obj} {vs : Array Value} {Q : Flow → Shared → Prop} (hh : A.handled = some (.ref y)) (hd : oy.data = .fields vs) (h2 : vs[2]? = some .none)
    (hc : ∀ (Q' : Value → Shared → Prop) s', Q' .none s' → wpAny (model prog w) A c Q' E s')
    (h : wpAny (model prog w) A x (fun v s₁ => ∃ e t, v = .ref e ∧ y ≠ e ∧ s₁.heap.get? y = some oy ∧ s₁.heap.get? e = some { cls := .type cls, data := .fields #[.ref t, .none, .none, .none, .bool false, .none] } ∧
      ∀ h', h'.get? e = some { cls := .type cls, data := .fields #[.ref t, .none, .ref y, .none, .bool true, .none] } → (∀ b, b ≠ e → h'.get? b = s₁.heap.get? b) → E (.ref e) { s₁ with heap := h' }) E s) :
    wpAny (model prog w) A (raiseStmt env (some x) (some c)) Q E s := by
  unfold raiseStmt
  refine wpAny_bind (wpAny_mono h (fun v s₁ h₁ => ?_) fun _ _ x => x)
  refine @by_no _ fun hNo9 => ?_
  obtain ⟨e, t, rfl, hye, hy, he, hE⟩ := h₁
  refine hNo9 ?_
  clear hNo9
  refine wpAny_bind (wpAny_holding (hc _ _ ?_))
  refine wpAny_bind (wpAny_pure ?_)
  obtain ⟨hp, g, d, tk, os⟩ := s₁
  have hsub := G.isExc
  have hmeta := G.plainMeta
  dsimp only at he hy hE
  repeat (first | refine wpAny_loadPart he ?_ | wp_step)
  have e1 := Heap.get?_update_self (Obj.mapFields fun x => x.setIfInBounds 3 Value.none) he rfl
  have e2 := Heap.get?_update_self (Obj.mapFields fun x => x.setIfInBounds 4 (Value.bool true)) e1 rfl
  have oth : ∀ b, b ≠ e → ((hp.update e (Obj.mapFields fun x => x.setIfInBounds 3 Value.none)).update e (Obj.mapFields fun x => x.setIfInBounds 4 (Value.bool true))).get? b = hp.get? b := fun b hb => by
    rw [Heap.get?_update_other _ _ (Ne.symm hb), Heap.get?_update_other _ _ (Ne.symm hb)]
  refine raiseNew_held hh hye ((oth y hye).trans hy) hd h2 e2 rfl (by simp) ?_
  exact hE _ (Heap.get?_update_self _ e2 rfl) (fun b hb => (Heap.get?_update_other _ _ (Ne.symm hb)).trans (oth b hb))
theorem Raise_from_none {cls newId initId : String} (F : ExcCallFacts cls newId initId) (G : ExcRaiseFacts cls) {n : Str} {np cpos pos p1 p2 : Pos} {str : Str} {k1 k2 : Nat} {y : Addr} {oy : Obj} {vs : Array Value} {Q : Flow → Shared → Prop} (hh : A.handled = some (.ref y)) (hy : s.heap.get? y = some oy) (hd : oy.data = .fields vs) (h2 : vs[2]? = some .none)
    (hn : ∀ (Q' : Value → Shared → Prop), Q' (.type cls) s → wpAny (model prog w) A (eval (.Name n np) env) Q' E s)
    (h : ∀ h' e t tk, s.heap.get? e = none → s.heap.get? t = none → (∀ b o, s.heap.get? b = some o → h'.get? b = some o) → h'.get? e = some { cls := .type cls, data := .fields #[.ref t, .none, .ref y, .none, .bool true, .none] } → E (.ref e) { s with heap := h', toks := tk }) :
    wpAny (model prog w) A (exec (.Raise (some (.Call (.Name n np) [.Constant (.str str) k1 p1] [] cpos)) (some (.Constant .none k2 p2)) pos) env) Q E s := by
  rw [arm_exec_Raise]
  refine wpAny_bind (wpAny_standAt ?_)
  refine raiseStmt_from_none (cls := cls) G hh hd h2 (fun Q' s' hq => wpAny_bind (wpAny_Constant_none (wpAny_bind (wpAny_standAt (wpAny_pure hq))))) ?_
  refine wpAny_bind (wpAny_Call_ofName (hn _ ?_))
  refine callWith_excType rfl ?_
  refine Calls.evalArgs_plain (spliced_cons (wpAny_Constant_str (k := k1) (pos := p1) (spliced_nil ?_)))
  obtain ⟨hp, g, d, tk, os⟩ := s
  dsimp only at hy h ⊢
  refine wpAny_call_exc F (fun h' e hm => ?_) (by simp [sizeLine_eq])
  refine wpAny_bind (wpAny_standAt (wpAny_pure ?_))
  obtain ⟨t, he, ht, _⟩ := hm.there
  have hye : y ≠ e := fun q => by rw [q, hm.new] at hy; cases hy
  refine ⟨e, t, rfl, hye, hm.keeps _ _ hy, he, fun h2 e2 k2 => h h2 e t _ hm.new ht (fun b o q => (k2 b fun r => by rw [r, hm.new] at q; cases q).trans (hm.keeps b o q)) e2⟩
end

theorem begin_Ex3 : True := by
  w_on
  w_top off
  k_with_none
  k_with "om" => (law_clear; first | with_reducible assumption | (law_purse 20000 => grind))
  k_with "guard" => skip
  trivial
set_option maxHeartbeats 2000000
theorem Fly.upto {base h h' : Heap} {l : List Env} {e tb : Addr} {oe otb : Obj} {vs tvs : Array Value} (Z : Fly base l e tb oe otb vs tvs h) (k : ∀ b, b ≠ tb → h'.get? b = h.get? b) : h.UpToSlots h' := fun b o q hn =>
  ⟨o.slots, (k b fun r => by rw [r, Z.gt] at q; cases q; exact hn _ Z.td).trans q⟩
section
variable {prog : Program} {w : World} {A : Around} {E : Value → Shared → Prop} {s : Shared} {env : Env}
theorem catch_raise {base : Heap} {outer : List Env} {L2 e1 t1 : Addr} {m : Str → Option Value} {n1 n2 : Str} {str : Str} {k1 k2 : Nat} {np np2 cpos pos p1 p2 hpos : Pos} {Q : Flow → Shared → Prop}
    (hfr : A.frames = some (env :: outer)) (hf : env.frame = some L2) (hkb : base.StaysIn s.heap) (hfu : s.heap.FunFrames base (env :: outer)) (hns : s.heap.Ns L2 m)
    (he : s.heap.get? e1 = some { cls := .type "StopIteration", data := .fields #[.ref t1, .none, .none, .none, .bool false, .none] }) (hen : base.get? e1 = none)
    (hn1 : ∀ (A' : Around) (Q' : Value → Shared → Prop) (E' : Value → Shared → Prop) (s' : Shared), base.StaysIn s'.heap → s'.heap.Ns L2 m → Q' (.type "StopIteration") s' → wpAny (model prog w) A' (eval (.Name n1 np) env) Q' E' s')
    (hn2 : ∀ (A' : Around) (Q' : Value → Shared → Prop) (E' : Value → Shared → Prop) (s' : Shared), base.StaysIn s'.heap → s'.heap.Ns L2 m → Q' (.type "TypeError") s' → wpAny (model prog w) A' (eval (.Name n2 np2) env) Q' E' s')
    (hE : ∀ e2 t2 h' tk, Heap.FlyingW base outer e2 (.type "TypeError") (.ref t2) h' → s.heap.UpToSlots h' → E (.ref e2) { s with heap := h', toks := tk }) :
    wpAny (model prog w) A (noteFrame (.ref e1) env) (fun _ s₂ => wpAny (model prog w) A (setFlight (.ref e1) none) (fun _ s₃ => wpAny (model prog w) A (handleBy (.ref e1) env [.ExceptHandler (some (.Name n1 np)) none [.Raise (some (.Call (.Name n2 np2) [.Constant (.str str) k1 p1] [] cpos)) (some (.Constant .none k2 p2)) pos] hpos]) Q (fun e s' => wpAny (model prog w) A (leaving env e) (fun _ s'' => E e s'') (fun e' s'' => E e' s'') s') s₃)
      (fun e s' => wpAny (model prog w) A (leaving env e) (fun _ s'' => E e s'') (fun e' s'' => E e' s'') s') s₂) (fun e s' => wpAny (model prog w) A (leaving env e) (fun _ s'' => E e s'') (fun e' s'' => E e' s'') s') s := by
  refine note_first hfr hfu hf hkb he hen rfl rfl fun h2 tb otb tvs Z2 z3 ztb up2 kp2 => ?_
  have U2 : s.heap.UpToSlots h2 := fun b o q hn => up2 b o (fun r => by rw [r, he] at q; cases q; exact hn _ rfl) q
  refine fly_set (s := { s with heap := h2 }) Z2 fun h3 otb3 Z3 kp3 => ?_
  have U3 := U2.trans (Z2.upto kp3)
  refine wpAny_handleBy_builtin (X := "StopIteration") (T := "StopIteration") (b := true) ?_ ?_ ?_ ?_
  · rw [isSubtype_type]; kernel_rfl
  · rw [isSubtype_type]; kernel_rfl
  · rw [isSubtype_type]; kernel_rfl
  refine hn1 _ _ _ { s with heap := h3 } Z3.stay (U3.ns hns) ⟨rfl, ⟨_, Z3.ge, rfl⟩, ?_⟩
  rw [if_pos rfl]
  refine fly_set (s := { s with heap := h3 }) Z3 fun h4 otb4 Z4 kp4 => ?_
  have U4 := U3.trans (Z3.upto kp4)
  refine wpAny_execs_cons (Raise_from_none (y := e1) F.excCall_TypeError F.excRaise_TypeError rfl Z4.ge Z4.hd rfl (fun Q' hq => hn2 _ _ _ { s with heap := h4 } Z4.stay (U4.ns hns) hq) fun h5 e2 t2 tk5 n5 nt5 k5 g5 => ?_)
  have U5 := U4.trans (Heap.UpToSlots.of_keeps k5)
  unfold notedBy
  have fr2 : ((A.mark (some (.ref e1))).frames) = some (env :: outer) := hfr
  have be2 : base.get? e2 = none := by
    cases q : base.get? e2 with
    | none => rfl
    | some o => have := Z4.stay e2 o q; rw [n5] at this; cases this
  refine note_first (s := { s with heap := h5, toks := tk5 }) fr2 (Z4.funs.of_keeps fun b o q _ => ⟨o, k5 b o q, rfl⟩) hf (fun b o q => k5 b o (Z4.stay b o q)) g5 be2 rfl rfl fun h6 tb6 otb6 tvs6 Z6 z6 ztb6 up6 kp6 => ?_
  have U6 := U5.trans (fun b o q hn => up6 b o (fun r => by rw [r, g5] at q; cases q; exact hn _ rfl) q)
  unfold cameBackBy
  refine wpAny_bind (wpAny_field Z6.ge Z6.hd Z6.v1 ?_)
  rw [if_neg (show ¬ ((Value.ref tb6 == Value.none) = true) from by simp)]
  rw [hf]
  refine fly_set (s := { s with heap := h6, toks := tk5 }) Z6 fun h7 otb7 Z7 kp7 => ?_
  have U7 := U6.trans (Z6.upto kp7)
  unfold leaving
  refine wpAny_bind (note_again (s := { s with heap := h7, toks := tk5 }) hf Z7 (by simp [Z6.tz]) ?_)
  refine fly_set (s := { s with heap := h7, toks := tk5 }) Z7 fun h8 otb8 Z8 kp8 => ?_
  refine @by_no _ fun hNo9 => ?_
  have U8 := U7.trans (Z7.upto kp8)
  have Z9 := Z8.flying (a0 := .ref t2) rfl (by simp [Z6.tz])
  obtain ⟨q1, q2, ⟨_, _, q3⟩, q4⟩ := Z9
  refine hNo9 ?_
  clear hNo9
  exact hE e2 t2 h8 tk5 ⟨q1, q2, q3, q4⟩ U8
end

theorem begin_Ex4 : True := by
  w_on
  w_top off
  k_with_none
  k_with "om" => (law_clear; first | with_reducible assumption | (law_purse 20000 => grind))
  k_with "guard" => skip
  trivial
set_option maxHeartbeats 4000000
section
variable {w : World} {A : Around} {s : Shared} {p : Program} {loose : List Str} {mean : ExcName → Option Value} {mg mb : Str → Option Value}
  {name qual : Str} {params : Arguments} {body : List Stmt} {scope : Scope} {dV kV doc pm cdv ct oc : Value} {an od : Option Addr} {osl : Array (Option Value)} {f : Addr} {pos : List Value} {kw : List (Str × Value)} {binds : List (Str × Value)}
theorem enter_defE {Q E : Value → Shared → Prop} (X : (hd.heap_1 w.params).In s.heap) (T : Top p loose mean mg mb s.heap)
    (ho : (hd.heap_1 w.params).lookup f = some ⟨oc, od, .func (fnOf name qual params body scope dV kV doc pm an cdv ct), osl⟩) (hcd : codeIn (hd.heap_1 w.params) cdv qual = true) (hroom : A.depth < recursionLimit)
    (hbind : BindsTo s (fnOf name qual params body scope dV kV doc pm an cdv ct) ⟨pos, kw⟩ binds) (hloc : ∀ y ∈ binds, scope.names.lookup y.1 = some .local)
    (h : ∀ L h₁ tk, Fr s.heap L h₁ (fun y => binds.reverse.lookup y) → News s.heap L h₁ [] →
      wpAny (model PySem.Challenge.rw_qh0094_01.row.prog w) (A.deeper (envOf qual scope L f cdv)) (execs body (envOf qual scope L f cdv))
        (fun fl s' => Q (match fl with | .ret v => v | _ => .none) s') (fun e s' => wpAny (model PySem.Challenge.rw_qh0094_01.row.prog w) (A.deeper (envOf qual scope L f cdv)) (leaving (envOf qual scope L f cdv) e) (fun _ s'' => E e s'') (fun e' s'' => E e' s'') s') { s with heap := h₁, toks := tk })
    (hco : scope.isCoroutine = false) (hgen : scope.isGenerator = false) (hk : scope.kind = .function)
    (hcell : ∀ x ∈ scope.names, x.2 ≠ .cell) : wpAny (model PySem.Challenge.rw_qh0094_01.row.prog w) A (call (.ref f) pos kw) Q E s := by
  refine wpAny_call ?_
  refine codeAny_call_def (fd := fnOf name qual params body scope dV kV doc pm an cdv ct) (body := body) (binds := binds) hroom (X _ _ ho) rfl T.nolimit (codeRec_of X hcd) rfl hbind hcell hloc (fun h₁ hns hk₁ => ?_) hco hgen hk
  exact h s.heap.objs.size h₁ _ ⟨hns, hk₁, Nat.le_refl _⟩ News.nil
end
theorem name_BO {M : Model} {A : Around} {E : Value → Shared → Prop} {s : Shared} {K : Frag} {h₀ : Heap} {L a : Addr} {mg mb : Str → Option Value} {cn : Str} {cs : Scope} {ccd : Value} {p : Program} {loose : List Str} {mean : ExcName → Option Value} {x : Str} {pos : Pos} {v : Value} {Q : Value → Shared → Prop}
    (F : h₀.StaysIn s.heap) (X : K.In h₀) (T : Top p loose mean mg mb h₀) (e : nsIn K mainGlobals x = some none) (hv : bootBuiltins x = some v) (hn : x ≠ "__name__") (hk : cs.kind = .function) (hx : cs.names.lookup x = some .globalImplicit) (hd : (x == ("__debug__" : Str)) = false) (h : Q v s) :
    wpAny M A (eval (.Name x pos) (envOf cn cs L a ccd)) Q E s :=
  Name_function_global hk hx (loadGlobal_builtin (env := envOf cn cs L a ccd) (T.g.keeps F) (mg_none_of X T.g e) (T.b.keeps F) ((T.builtins x hn).trans hv) h) hd
theorem kw_Ex4_1 : True := by
  k_with_none
  k_with "om" => (law_clear; first | with_reducible assumption | (law_purse 20000 => grind))
  k_with "eval BinOp" => (k_here; (with_reducible show wpAny _ _ (eval (Expr.BinOp (Expr.Name _ _) _ (Expr.Constant (Const.int _) _ _) _) _) _ _ _); k_dflt (refine binNC (by k_asm) (by rfl) ?_ (by rfl) (by rfl) (by decide)); (try dsimp only))
  k_with "eval BinOp" => (k_here; (with_reducible show wpAny _ _ (eval (Expr.BinOp (Expr.Name _ _) _ (Expr.Name _ _) _) _) _ _ _); k_dflt (refine binNN (by k_asm) (by rfl) (by rfl) ?_ (by rfl) (by rfl) (by rfl) (by decide) (by decide)); (try dsimp only))
  k_with "isTrue Compare" => (k_here; (with_reducible show wpAny _ _ (isTrue (Expr.Compare (Expr.Name _ _) [_] [Expr.Constant (Const.int _) _ _] _) _ _) _ _ _); k_dflt (refine isNC (by k_asm) (by rfl) ?_ (by rfl) (by rfl) (by decide) (by with_unfolding_all rfl)); (try dsimp only))
  k_with "guard" => ((fail_if_success (with_reducible show Exists _)); (fail_if_success (with_reducible show And (FnAt _ _) _)); (fail_if_success (with_reducible show wpAny _ _ (pyIter _) _ _ _)); (fail_if_success (with_reducible show wpAny _ _ (exec (Stmt.For _ _ _ _ _) _) _ _ _)); (fail_if_success (with_reducible show wpAny _ _ (exec (Stmt.While _ _ _ _) _) _ _ _)); (fail_if_success (with_reducible show wpAny _ _ (eval (Expr.ListComp _ _ _ _) _) _ _ _)))
  k_with "call builtin:iter" => ((k_here; (with_reducible show wpAny _ _ (call (Value.builtin "iter") [Value.ref _]) _ _ _); k_dflt (refine iter_list (by k_asm) (by k_asm) (by is_list) ?_); intro D' h' o' hi' F' N' l1; (try k_lt l1)); (try (revert D' h' o' hi' F' N' l1; intros)))
  trivial
theorem red_raise  {dp un : Nat} {gd : Option (List Code)} {s : Shared} {Q E : Value → Shared → Prop} {g : Heap} {outer : List Env}
    (X : (hd.heap_1 w.params).In g) (T : Top p loose mean mg mb g) (st : g.StaysIn s.heap) (hgs : g.objs.size ≤ s.heap.objs.size) (hfu : s.heap.FunFrames g outer) (fl D : Addr) (l : s.heap.IsList D #[]) (hdp : dp + 3 < recursionLimit) (hun : un + 8 * 3 < cLine)
    (hE : ∀ e2 t2 h' tk, Heap.FlyingW g outer e2 (.type "TypeError") (.ref t2) h' → s.heap.UpToSlots h' → E (.ref e2) { s with heap := h', toks := tk }) :
    wpAny (model PySem.Challenge.rw_qh0094_01.row.prog w) (Ar dp un (some outer) gd) (call (.ref 47) [.ref fl, .ref D]) Q E s := by
  revert X; k_fill; intro X
  obtain ⟨s0, gens, drawn, toks, os⟩ := s
  dsimp only at st hgs hfu l hE
  have X0 := X.keeps st
  have T0 := T.keeps st
  k_dflt (refine' enter_defE ?k1 ?k2 ?k6 ?k7 ?k8 ?k9 ?kB ?_ ?c2 ?c3 ?c4 ?c5; (case k1 => exact X0); (case k2 => exact T0); (case k6 => k_is); (case k7 => k_is); (case k8 => (show dp < _; omega)); (case k9 => exact binds_K X0 rfl (by k_is) rfl rfl rfl); (case kB => exact locs rfl); (case c2 => exact rfl); (case c3 => exact rfl); (case c4 => exact rfl); (case c5 => decide))
  intro L2 h₁ tk F N
  dsimp only at F N ⊢
  replace F := Fr.congr (m' := redM (.ref fl) (.ref D) (.ref 39) none none none) F (by
    intro q
    unfold redM
    show List.lookup q [(Str.ofString "initial", Value.ref 39), (Str.ofString "sequence", Value.ref D), (Str.ofString "function", Value.ref fl)] = _
    simp only [lk, List.lookup_nil]
    by_cases c1 : q = Str.ofString "element"
    · subst c1; rfl
    by_cases c2 : q = Str.ofString "value"
    · subst c2; rfl
    by_cases c3 : q = Str.ofString "it"
    · subst c3; rfl
    simp only [if_neg c1, if_neg c2, if_neg c3])
  have Xg := X
  clear X
  have X := X0
  have Tg := T
  clear T
  have T := T0
  have l0 : s0.IsList D ([] : List Value).toArray := l
  k_steps
  rename Fr _ _ _ _ => F2
  rename News _ _ _ _ => N2
  rename Obj => oI
  rename LitIs _ _ _ => hI
  rename_i I hA hT hB
  refine next_end (l := D) (i := 0) (items := #[]) rfl ⟨oI, (N2 _ (.head _)).1, hI.1, hI.2⟩ (isList_keep l0 fun o e => F2.keep _ o e) rfl ?_
  intro h3 h4 e1 hs3 hm
  refine @by_no _ fun hNo9 => ?_
  dsimp only at hs3
  obtain ⟨t1, ge1, gt1, _⟩ := hm.there
  have hgI : s0.get? I = none := (N2 _ (.head _)).2.2
  have hIL : L2 ≠ I := Ne.symm (N2 _ (.head _)).2.1
  have k3 : ∀ b o, s0.get? b = some o → h3.get? b = some o := fun b o q => (hs3.2 b (fun r => by rw [r, hgI] at q; cases q)).trans (F2.keep b o q)
  have k4 : ∀ b o, s0.get? b = some o → h4.get? b = some o := fun b o q => hm.keeps b o (k3 b o q)
  have ns4 : h4.Ns L2 _ := (F2.ns.sameBut hs3 hIL).keeps hm.keeps
  have n4 : g.get? e1 = none := by
    cases q : g.get? e1 with
    | none => rfl
    | some o => have := k3 _ _ (st _ _ q); rw [hm.new] at this; cases this
  have hgL : g.get? L2 = none := Heap.get?_none_of_le (Nat.le_trans hgs F2.above)
  obtain ⟨oL, es, ep, gL, dL, rL⟩ := id ns4
  refine hNo9 ?_
  clear hNo9
  dsimp only
  refine catch_raise (base := g) (L2 := L2) (outer := outer) (E := E) rfl rfl (fun b o q => k4 b o (st b o q)) ⟨(by intro q; cases q), ⟨L2, oL, rfl, hgL, gL, fun vs q => by rw [dL] at q; cases q⟩, hfu.of_keeps fun b o q _ => ⟨o, k4 b o q, rfl⟩⟩ ns4 ge1 n4 ?n1 ?n2 (fun e2 t2 h' tk Z U => hE e2 t2 h' tk Z ((Heap.UpToSlots.of_keeps k4).trans U))
  case n1 => exact fun A' Q' E' s' st' _ hq => name_BO (K := hd.heap_1 w.params) st' Xg Tg (by k_is) PyProof.Rows.Boot.«StopIteration» (by decide +kernel) rfl (by decide +kernel) (by decide) hq
  case n2 => exact fun A' Q' E' s' st' _ hq => name_BO (K := hd.heap_1 w.params) st' Xg Tg (by k_is) PyProof.Rows.Boot.«TypeError» (by decide +kernel) rfl (by decide +kernel) (by decide) hq

theorem begin_P4 : True := by
  w_on
  w_top off
  k_with_none
  k_with "om" => (law_clear; first | with_reducible assumption | (law_purse 20000 => grind))
  k_with "guard" => skip
  trivial
set_option maxHeartbeats 2000000
noncomputable def encP (x y : Int) (q : Rw) : Pc := (q.1, wrK x y q.1 q.2)
theorem toldD_enc (x y : Int) (st : List Rw) : toldD x y st = .lst ((st.map (encP x y)).reverse.map pairD) := by
  unfold toldD
  rw [← List.map_reverse, List.map_map]; rfl
theorem joinTopsR_succ' : ∀ (n : Nat) (st : List Rw), joinTopsR (n + 1) st = joinTopsR n (joinTopR st)
  | 0, _ => rfl
  | n + 1, st => by
    show joinTopR (joinTopsR (n + 1) st) = joinTopR (joinTopsR n (joinTopR st))
    rw [joinTopsR_succ' n st]
theorem row_le {st : List Rw} {N B : Nat} (h : StOk st N B) {q : Rw} (hq : q ∈ st) : q.2.length ≤ B := Nat.le_trans (le_sum_of hq) h.tot
theorem tops_enc {x y : Int} (pok : PairOk x y) {N B : Nat} (hB : B ≤ 100) : ∀ (n : Nat) (st : List Rw), StOk st N B → n + 1 ≤ st.length → TopsOk x y n (st.map (encP x y)) ∧ joinTops x y n (st.map (encP x y)) = (joinTopsR n st).map (encP x y)
  | 0, st, _, _ => ⟨trivial, rfl⟩
  | n + 1, st, h, hn => by
    match st, h, hn with
    | b :: a :: r, h, hn =>
      have ha := h.all a (.tail _ (.head _))
      have hb := h.all b (.head _)
      have la := row_le h (q := a) (.tail _ (.head _))
      have lb := row_le h (q := b) (.head _)
      obtain ⟨j1, j2⟩ := join_wr ha.1 hb.1 pok ha.2 hb.2 (by omega) (by omega)
      have e : joinTop x y ((b :: a :: r).map (encP x y)) = (joinTopR (b :: a :: r)).map (encP x y) := by
        show (a.1, joinL a.1 b.1 x y (wrK x y a.1 a.2) (wrK x y b.1 b.2)) :: _ = (a.1, wrK x y a.1 (a.2 ++ b.2)) :: _
        rw [j2]
      have ih := tops_enc pok hB n (joinTopR (b :: a :: r)) (joinTopR_ok h) (by simp only [joinTopR, List.length_cons] at *; omega)
      refine ⟨⟨⟨encP x y a, encP x y b, r.map (encP x y), rfl, j1⟩, by rw [e]; exact ih.1⟩, ?_⟩
      show joinTops x y n (joinTop x y _) = _
      rw [e, ih.2, joinTopsR_succ']
theorem lay_enc {x y : Int} (pok : PairOk x y) {N B : Nat} {st : List Rw} {q : Pcs} (h : StOk st N B) (hq : PcOk q) (hB : B + q.2.1.length ≤ 100) :
    TopsOk x y (min q.2.2.toNat (st.map (encP x y)).length) ((q.1, wrK x y q.1 q.2.1) :: st.map (encP x y)) ∧
    (joinTops x y (min q.2.2.toNat (st.map (encP x y)).length) ((q.1, wrK x y q.1 q.2.1) :: st.map (encP x y))) = (layR st q).map (encP x y) := by
  have h2 : StOk ((q.1, q.2.1) :: st) (N + 1) (B + q.2.1.length) := by
    refine ⟨fun p hp => ?_, ?_, ?_⟩
    · rcases List.mem_cons.mp hp with rfl | hp
      · exact ⟨hq.k4, hq.oct⟩
      · exact h.all p hp
    · have := h.len; simp only [List.length_cons]; omega
    · have := h.tot; simp only [List.map_cons, List.sum_cons]; omega
  have := tops_enc pok hB (min q.2.2.toNat st.length) ((q.1, q.2.1) :: st) h2 (by simp only [List.length_cons]; omega)
  rw [List.length_map]
  exact this

theorem begin_L1 : True := by
  w_on
  w_top off
  k_with_none
  k_with "om" => (law_clear; first | with_reducible assumption | (law_purse 20000 => grind))
  k_with "guard" => skip
  trivial
set_option maxHeartbeats 4000000
theorem ite_push {q x y : Str} {v u w w' : Option Value} (h : x ≠ y) (k : (if q = x then v else w) = w') : (if q = x then v else if q = y then u else w) = if q = y then u else w' := by
  by_cases e : q = y
  · rw [if_neg (fun c => h (c.symm.trans e)), if_pos e, if_pos e]
  · rw [if_neg e, if_neg e, k]
theorem ite_same {q x : Str} {v u w : Option Value} : (if q = x then v else if q = x then u else w) = if q = x then v else w := by
  by_cases e : q = x
  · rw [if_pos e, if_pos e]
  · rw [if_neg e, if_neg e, if_neg e]
section
variable {sc nu pi to fr fi le gi pl oc wr on en pa du at_ sz st : Option Value} {v : Value}
theorem lm_script : ∀ q, (if q = Str.ofString "script" then some v else lawM sc nu pi to fr fi le gi pl oc wr on en pa du at_ sz st q) = lawM (some v) nu pi to fr fi le gi pl oc wr on en pa du at_ sz st q := by
  intro q
  repeat (first | exact ite_same | refine ite_push (by decide) ?_)
theorem lm_numbers : ∀ q, (if q = Str.ofString "numbers" then some v else lawM sc nu pi to fr fi le gi pl oc wr on en pa du at_ sz st q) = lawM sc (some v) pi to fr fi le gi pl oc wr on en pa du at_ sz st q := by
  intro q
  repeat (first | exact ite_same | refine ite_push (by decide) ?_)
theorem lm_pieces : ∀ q, (if q = Str.ofString "pieces" then some v else lawM sc nu pi to fr fi le gi pl oc wr on en pa du at_ sz st q) = lawM sc nu (some v) to fr fi le gi pl oc wr on en pa du at_ sz st q := by
  intro q
  repeat (first | exact ite_same | refine ite_push (by decide) ?_)
theorem lm_total : ∀ q, (if q = Str.ofString "total" then some v else lawM sc nu pi to fr fi le gi pl oc wr on en pa du at_ sz st q) = lawM sc nu pi (some v) fr fi le gi pl oc wr on en pa du at_ sz st q := by
  intro q
  repeat (first | exact ite_same | refine ite_push (by decide) ?_)
theorem lm_free : ∀ q, (if q = Str.ofString "free" then some v else lawM sc nu pi to fr fi le gi pl oc wr on en pa du at_ sz st q) = lawM sc nu pi to (some v) fi le gi pl oc wr on en pa du at_ sz st q := by
  intro q
  repeat (first | exact ite_same | refine ite_push (by decide) ?_)
theorem lm_first : ∀ q, (if q = Str.ofString "first" then some v else lawM sc nu pi to fr fi le gi pl oc wr on en pa du at_ sz st q) = lawM sc nu pi to fr (some v) le gi pl oc wr on en pa du at_ sz st q := by
  intro q
  repeat (first | exact ite_same | refine ite_push (by decide) ?_)
theorem lm_letters : ∀ q, (if q = Str.ofString "letters" then some v else lawM sc nu pi to fr fi le gi pl oc wr on en pa du at_ sz st q) = lawM sc nu pi to fr fi (some v) gi pl oc wr on en pa du at_ sz st q := by
  intro q
  repeat (first | exact ite_same | refine ite_push (by decide) ?_)
theorem lm_given : ∀ q, (if q = Str.ofString "given" then some v else lawM sc nu pi to fr fi le gi pl oc wr on en pa du at_ sz st q) = lawM sc nu pi to fr fi le (some v) pl oc wr on en pa du at_ sz st q := by
  intro q
  repeat (first | exact ite_same | refine ite_push (by decide) ?_)
theorem lm_pile : ∀ q, (if q = Str.ofString "pile" then some v else lawM sc nu pi to fr fi le gi pl oc wr on en pa du at_ sz st q) = lawM sc nu pi to fr fi le gi (some v) oc wr on en pa du at_ sz st q := by
  intro q
  repeat (first | exact ite_same | refine ite_push (by decide) ?_)
theorem lm_octets : ∀ q, (if q = Str.ofString "octets" then some v else lawM sc nu pi to fr fi le gi pl oc wr on en pa du at_ sz st q) = lawM sc nu pi to fr fi le gi pl (some v) wr on en pa du at_ sz st q := by
  intro q
  repeat (first | exact ite_same | refine ite_push (by decide) ?_)
theorem lm_written : ∀ q, (if q = Str.ofString "written" then some v else lawM sc nu pi to fr fi le gi pl oc wr on en pa du at_ sz st q) = lawM sc nu pi to fr fi le gi pl oc (some v) on en pa du at_ sz st q := by
  intro q
  repeat (first | exact ite_same | refine ite_push (by decide) ?_)
theorem lm_ones : ∀ q, (if q = Str.ofString "ones" then some v else lawM sc nu pi to fr fi le gi pl oc wr on en pa du at_ sz st q) = lawM sc nu pi to fr fi le gi pl oc wr (some v) en pa du at_ sz st q := by
  intro q
  repeat (first | exact ite_same | refine ite_push (by decide) ?_)
theorem lm_ends : ∀ q, (if q = Str.ofString "ends" then some v else lawM sc nu pi to fr fi le gi pl oc wr on en pa du at_ sz st q) = lawM sc nu pi to fr fi le gi pl oc wr on (some v) pa du at_ sz st q := by
  intro q
  repeat (first | exact ite_same | refine ite_push (by decide) ?_)
theorem lm_parts : ∀ q, (if q = Str.ofString "parts" then some v else lawM sc nu pi to fr fi le gi pl oc wr on en pa du at_ sz st q) = lawM sc nu pi to fr fi le gi pl oc wr on en (some v) du at_ sz st q := by
  intro q
  repeat (first | exact ite_same | refine ite_push (by decide) ?_)
theorem lm_due : ∀ q, (if q = Str.ofString "due" then some v else lawM sc nu pi to fr fi le gi pl oc wr on en pa du at_ sz st q) = lawM sc nu pi to fr fi le gi pl oc wr on en pa (some v) at_ sz st q := by
  intro q
  repeat (first | exact ite_same | refine ite_push (by decide) ?_)
theorem lm_at : ∀ q, (if q = Str.ofString "at" then some v else lawM sc nu pi to fr fi le gi pl oc wr on en pa du at_ sz st q) = lawM sc nu pi to fr fi le gi pl oc wr on en pa du (some v) sz st q := by
  intro q
  repeat (first | exact ite_same | refine ite_push (by decide) ?_)
theorem lm_size : ∀ q, (if q = Str.ofString "size" then some v else lawM sc nu pi to fr fi le gi pl oc wr on en pa du at_ sz st q) = lawM sc nu pi to fr fi le gi pl oc wr on en pa du at_ (some v) st q := by
  intro q
  repeat (first | exact ite_same | refine ite_push (by decide) ?_)
theorem lm_state : ∀ q, (if q = Str.ofString "state" then some v else lawM sc nu pi to fr fi le gi pl oc wr on en pa du at_ sz st q) = lawM sc nu pi to fr fi le gi pl oc wr on en pa du at_ sz (some v) q := by
  intro q
  repeat (first | exact ite_same | refine ite_push (by decide) ?_)
end
noncomputable abbrev lawL (L : Addr) : List Addr := [L + 1 + 1 + 1 + 1 + 1, L + 1 + 1 + 1 + 1, L + 1 + 1 + 1, L + 1 + 1, L + 1, 248]
noncomputable def PP (L : Addr) : Addr → Prop := fun a => a ≠ L ∧ a ∉ lawL L

theorem begin_Lm : True := by
  w_on
  w_top off
  k_with_none
  k_with "om" => (law_clear; first | with_reducible assumption | (law_purse 20000 => grind))
  k_with "guard" => skip
  trivial
set_option maxHeartbeats 4000000
/-- a lambda laid in a def with cells -/
theorem lam_nest {M : Model} {A : Around} {E : Value → Shared → Prop} {s : Shared} {h₀ : Heap} {L a c P : Addr} {m mg mb : Str → Option Value} {cn : Str} {cs : Scope} {news : List (Addr × Obj)} {g : Obj → List (Addr × Obj)}
    {p : Program} {loose : List Str} {mean : ExcName → Option Value} {params : Arguments} {body : Expr} {scope : Scope} {ps : Array Value} {pos : Pos} {clos : List (Str × Addr)} {Q : Value → Shared → Prop}
    (F : Fr h₀ L s.heap m) (N : News h₀ L s.heap news) (T : Top p loose mean mg mb h₀) (C : CodeHd h₀ c P) (U : UpdF P (tabObj ps) news g) (ht : TriplesOk ps.toList) (hnf : codeAmong pos ps.toList = none)
    (hcl : closureFor scope (envOfC cn cs L a (.ref c)) = pure clos) (hdef : defaultsOf params (envOfC cn cs L a (.ref c)) = ([], []))
    (h : ∀ f lo c' oc vs t ctv h' tk, lo = kla_obj "<lambda>" (cn ++ ".<locals>." ++ "<lambda>") params body scope clos ((mg "__name__").getD .none) c' ctv → Fr h₀ L h' m →
      News h₀ L h' ((f, lo) :: (c', oc) :: g (tabObj (ps ++ #[rawInt pos.line, rawInt pos.col, .ref c']))) →
      oc.data = .fields vs → vs[1]? = some (.str (cn ++ ".<locals>." ++ "<lambda>") t) → (∀ q ∈ news, q.1 < c') → c' < f → Q (.ref f) { s with heap := h', toks := tk }) :
    wpAny M A (eval (.Lambda params body scope pos) (envOfC cn cs L a (.ref c))) Q E s :=
  kla_eval hdef (kla_nest (cn := cn) (cs := cs) (L := L) (a := a) (ccd := .ref c) (cl := cellsFrom (L + 1) cs.names []) F N T C rfl U ht hnf hcl fun f c' oc vs t ctv h' tk F' N' d1 d2 l1 l2 => h f _ c' oc vs t ctv h' tk rfl F' N' d1 d2 l1 l2)
theorem name_BC {M : Model} {A : Around} {E : Value → Shared → Prop} {s : Shared} {K : Frag} {h₀ : Heap} {L a : Addr} {m mg mb : Str → Option Value} {cn : Str} {cs : Scope} {ccd : Value} {p : Program} {loose : List Str} {mean : ExcName → Option Value} {x : Str} {pos : Pos} {v : Value} {Q : Value → Shared → Prop}
    (F : Fr h₀ L s.heap m) (X : K.In h₀) (T : Top p loose mean mg mb h₀) (e : nsIn K mainGlobals x = some none) (hv : bootBuiltins x = some v) (hn : x ≠ "__name__") (hk : cs.kind = .function) (hx : cs.names.lookup x = some .globalImplicit) (hd : (x == ("__debug__" : Str)) = false) (h : Q v s) :
    wpAny M A (eval (.Name x pos) (envOfC cn cs L a ccd)) Q E s :=
  Name_function_global hk hx (loadGlobal_builtin (env := envOfC cn cs L a ccd) (T.g.keeps F.keep) (mg_none_of X T.g e) (T.b.keeps F.keep) ((T.builtins x hn).trans hv) h) hd
theorem name_GC {M : Model} {A : Around} {E : Value → Shared → Prop} {s : Shared} {K : Frag} {h₀ : Heap} {L a : Addr} {m mg mb : Str → Option Value} {cn : Str} {cs : Scope} {ccd : Value} {p : Program} {loose : List Str} {mean : ExcName → Option Value} {x : Str} {pos : Pos} {v : Value} {Q : Value → Shared → Prop}
    (F : Fr h₀ L s.heap m) (X : K.In h₀) (T : Top p loose mean mg mb h₀) (e : nsIn K mainGlobals x = some (some v)) (hk : cs.kind = .function) (hx : cs.names.lookup x = some .globalImplicit) (hd : (x == ("__debug__" : Str)) = false) (h : Q v s) :
    wpAny M A (eval (.Name x pos) (envOfC cn cs L a ccd)) Q E s :=
  Name_function_global hk hx (loadGlobal_global (env := envOfC cn cs L a ccd) (T.g.keeps F.keep) (mg_of X T.g e) h) hd

theorem begin_L2 : True := by
  w_on
  w_top off
  k_with_none
  k_with "om" => (law_clear; first | with_reducible assumption | (law_purse 20000 => grind))
  k_with "guard" => skip
  trivial
set_option maxHeartbeats 4000000
theorem kw_L2_1 : True := by
  k_with_none
  k_with "om" => (law_clear; first | with_reducible assumption | (law_purse 20000 => grind))
  k_with "eval BinOp" => (k_here; (with_reducible show wpAny _ _ (eval (Expr.BinOp (Expr.Name _ _) _ (Expr.Constant (Const.int _) _ _) _) _) _ _ _); k_dflt (refine binNC (by k_asm) (by rfl) ?_ (by rfl) (by rfl) (by decide)); (try dsimp only))
  k_with "eval BinOp" => (k_here; (with_reducible show wpAny _ _ (eval (Expr.BinOp (Expr.Name _ _) _ (Expr.Name _ _) _) _) _ _ _); k_dflt (refine binNN (by k_asm) (by rfl) (by rfl) ?_ (by rfl) (by rfl) (by rfl) (by decide) (by decide)); (try dsimp only))
  k_with "isTrue Compare" => (k_here; (with_reducible show wpAny _ _ (isTrue (Expr.Compare (Expr.Name _ _) [_] [Expr.Constant (Const.int _) _ _] _) _ _) _ _ _); k_dflt (refine isNC (by k_asm) (by rfl) ?_ (by rfl) (by rfl) (by decide) (by with_unfolding_all rfl)); (try dsimp only))
  k_with "guard" => ((fail_if_success (with_reducible show Exists _)); (fail_if_success (with_reducible show wpAny _ _ (pyIter _) _ _ _)); (fail_if_success (with_reducible show wpAny _ _ (exec (Stmt.For _ _ _ _ _) _) _ _ _)); (fail_if_success (with_reducible show wpAny _ _ (exec (Stmt.While _ _ _ _) _) _ _ _)); (fail_if_success (with_reducible show wpAny _ _ (eval (Expr.ListComp _ _ _ _) _) _ _ _)))
  trivial
noncomputable def lawNs (ns : List Int) : List Int := ns.take 6 ++ [12054, 2346984, 1, 754913661, 95147]
theorem st_numbers {s0 : Heap} {toks : Nat} {Q : Flow → Shared → Prop}
    (X : (hd.heap_1 w.params).In g) (T : Top p loose mean mg mb g) (hdp : dp + 40 < recursionLimit) (hun : un + 8 * 40 < cLine) (h48 : @LT.lt Nat _ 248 L) (sa : Addr) (vs : List Value) (ns : List Int) (hl : g.IsList sa vs.toArray) (hi : IntsAre vs ns) (hz : ns.length ≤ 63)
    (S : LawAt g L s0 (lawM (some (.ref sa)) none none none none none none none none none none none none none none none none none) none none none none none #[])
    (h : ∀ h' tk' na nv, LawAt g L h' (lawM (some (.ref sa)) (some (.ref na)) none none none none none none none none none none none none none none none none) none none none none none #[] → h'.IsList na (List.toArray nv) → IntsAre nv (lawNs ns) → Q .next ⟨h', gens, drawn, tk', os⟩) :
    wpAny (model PySem.Challenge.rw_qh0094_01.row.prog w) (Ar dp un fr gd) (exec (lawBody.getD 0 (.Pass default)) (lawEnv L fa)) Q E ⟨s0, gens, drawn, toks, os⟩ := by
  show wpAny _ _ (exec (Stmt.Assign _ _ _) (envOfC _ lawScope _ _ _)) _ _ _
  conv in lawScope => whnf
  refine @by_no _ fun hNo9 => ?_
  obtain ⟨ow, ot, op, on, oa, F, N, d1, d2, d3, d4, d5⟩ := S
  refine hNo9 ?_
  clear hNo9
  revert X; k_fill; intro X
  k_steps
  rename Fr _ _ _ _ => F1
  rename News _ _ _ _ => N1
  refine h _ _ _ _ ⟨_, _, _, _, _, Fr.congr F1 lm_numbers, fun p hp => N1 p ?n, d1, d2, d3, d4, d5⟩ (News.isList N1 (.head _)) (by assumption)
  case n => exact List.mem_of_mem_drop (i := 3) hp
theorem sum_any {prog : Program} {w : World} {A : Around} {E : Value → Shared → Prop} {s : Shared} {l : Addr} {vs : List Value} {ms : List Int} {h₀ : Heap} {L : Addr} {m : Str → Option Value} {news : List (Addr × Obj)} {Q : Value → Shared → Prop} (F : Fr h₀ L s.heap m) (N : News h₀ L s.heap news) (hh : A.handled = none) (hl : s.heap.IsList l vs.toArray) (hi : IntsAre vs ms)
    (h : ∀ h' tk t', Fr h₀ L h' m → News h₀ L h' news → Q (.int ms.sum t') { s with heap := h', toks := tk }) :
    wpAny (model prog w) A (call (.builtin "sum") [.ref l]) Q E s := by
  obtain ⟨xs, hx⟩ := hi.allInts.items
  rw [hx] at hl
  refine sum_intListG hh hl fun h' tk t' hk => ?_
  have e : preSum (numAt xs) xs.size = ms.sum := by
    have e1 : numsOf vs.toArray.toList = ms := by rw [show vs.toArray.toList = vs from rfl, hi.numsOf]
    rw [← e1, hx, nums_intItems, preSum_eq, List.take_of_length_le (by simp)]
  rw [e]
  exact h h' tk t' (F.keeps hk) (N.grown hk)
theorem name_B {M : Model} {A : Around} {E : Value → Shared → Prop} {s : Shared} {K : Frag} {h₀ : Heap} {L a : Addr} {m mg mb : Str → Option Value} {cn : Str} {cs : Scope} {ccd : Value} {cl : List (Str × Addr)} {p : Program} {loose : List Str} {mean : ExcName → Option Value} {x : Str} {pos : Pos} {v : Value} {Q : Value → Shared → Prop}
    (F : Fr h₀ L s.heap m) (X : K.In h₀) (T : Top p loose mean mg mb h₀) (e : nsIn K mainGlobals x = some none) (hv : bootBuiltins x = some v) (hn : x ≠ "__name__") (h : Q v s)
    (hk : cs.kind = .function := by rfl) (hx : (envX cn cs L a ccd cl).kindOf x = some .globalImplicit := by rfl) (hd : (x == ("__debug__" : Str)) = false := by decide) :
    wpAny M A (eval (.Name x pos) (envX cn cs L a ccd cl)) Q E s :=
  Name_function_global hk hx (loadGlobal_builtin (env := envX cn cs L a ccd cl) (T.g.keeps F.keep) (mg_none_of X T.g e) (T.b.keeps F.keep) ((T.builtins x hn).trans hv) h) hd
theorem kw_L2_2 : True := by
  k_with "eval Name" => (k_here; (with_reducible show wpAny _ _ (eval (Expr.Name _ _) (envOfC _ _ _ _ _)) _ _ _); k_dflt (refine name_B (by k_asm) (by k_asm) (by k_asm) (by k_is) (by boot_by_name) (by decide) ?_))
  k_with "call builtin:sum" => ((k_here; (with_reducible show wpAny _ _ (call (Value.builtin "sum") [Value.ref _]) _ _ _); k_dflt (refine sum_any (by k_asm) (by k_asm) (by rfl) (by is_list) (by assumption) ?_); intro h' tk' t' F' N'); (try (revert h' tk' t' F' N'; intros)))
  trivial
theorem list_PP {g h : Heap} {L a : Addr} {m : Str → Option Value} {ow ot op on oa : Obj} {ca cn cp ct cw : Option Value} {ps : Array Value} {items : Array Value} (F : Fr g L h m) (N : News g L h [(L + 1 + 1 + 1 + 1 + 1, ow), (L + 1 + 1 + 1 + 1, ot), (L + 1 + 1 + 1, op), (L + 1 + 1, on), (L + 1, oa), (248, tabObj ps)])
    (d1 : ow.data = .cell cw) (d2 : ot.data = .cell ct) (d3 : op.data = .cell cp) (d4 : on.data = .cell cn) (d5 : oa.data = .cell ca) (l : h.IsList a items) : PP L a := by
  refine ⟨isList_ne F.ns l, ?_⟩
  simp only [lawL, List.mem_cons, List.not_mem_nil, or_false, not_or]
  refine ⟨list_offD (N _ (.head _)).1 (cell_no_seq d1) l, list_offD (N _ (.tail _ (.head _))).1 (cell_no_seq d2) l, list_offD (N _ (.tail _ (.tail _ (.head _)))).1 (cell_no_seq d3) l, list_offD (N _ (.tail _ (.tail _ (.tail _ (.head _))))).1 (cell_no_seq d4) l,
    list_offD (N _ (.tail _ (.tail _ (.tail _ (.tail _ (.head _)))))).1 (cell_no_seq d5) l, list_offD (N _ (.tail _ (.tail _ (.tail _ (.tail _ (.tail _ (.head _))))))).1 (by intro its n e; cases e) l⟩
mutual
theorem Rep.onL {P P' : Addr → Prop} {h : Heap} (k : ∀ a items, h.IsList a items → P' a) : ∀ {v : Value} {d : D}, Rep P h v d → Rep (fun a => P a ∧ P' a) h v d
  | _, _, .int i t => .int i t
  | _, _, .byt t x => .byt t x
  | _, _, .lst p l r => .lst ⟨p, k _ _ l⟩ l (Reps.onL k r)
theorem Reps.onL {P P' : Addr → Prop} {h : Heap} (k : ∀ a items, h.IsList a items → P' a) : ∀ {vs : List Value} {ds : List D}, Reps P h vs ds → Reps (fun a => P a ∧ P' a) h vs ds
  | _, _, .nil => .nil
  | _, _, .cons x r => .cons (Rep.onL k x) (Reps.onL k r)
end
theorem LawAt.pp {g h : Heap} {L : Addr} {m : Str → Option Value} {ca cn cp ct cw : Option Value} {ps : Array Value} (S : LawAt g L h m ca cn cp ct cw ps) : ∀ a items, h.IsList a items → PP L a := by
  refine @by_no _ fun hNo9 => ?_
  obtain ⟨ow, ot, op, on, oa, F, N, d1, d2, d3, d4, d5⟩ := S
  refine hNo9 ?_
  clear hNo9
  exact fun a items l => list_PP F N d1 d2 d3 d4 d5 l
theorem LawAt.ne {g h : Heap} {L : Addr} {m : Str → Option Value} {ca cn cp ct cw : Option Value} {ps : Array Value} (S : LawAt g L h m ca cn cp ct cw ps) {a : Addr} {items : Array Value} (l : h.IsList a items) : a ≠ L ∧ a ∉ lawL L := S.pp a items l
theorem st_total {s0 : Heap} {toks : Nat} {Q : Flow → Shared → Prop}
    (X : (hd.heap_1 w.params).In g) (T : Top p loose mean mg mb g) (hdp : dp + 40 < recursionLimit) (hun : un + 8 * 40 < cLine) (h48 : @LT.lt Nat _ 248 L) (sa na pa : Addr) (nv : List Value) (ms : List Int) (hl : s0.IsList na nv.toArray) (hi : IntsAre nv ms) (hz : ms.length ≤ 63)
    (S : LawAt g L s0 (lawM (some (.ref sa)) (some (.ref na)) (some (.ref pa)) none none none none none none none none none none none none none none none) none none none none none #[])
    (h : ∀ h' tk' tt, LawAt g L h' (lawM (some (.ref sa)) (some (.ref na)) (some (.ref pa)) (some (.int ms.sum tt)) none none none none none none none none none none none none none none) none none none none none #[] → Kept (PP L) s0 h' → Q .next ⟨h', gens, drawn, tk', os⟩) :
    wpAny (model PySem.Challenge.rw_qh0094_01.row.prog w) (Ar dp un fr gd) (exec (lawBody.getD 2 (.Pass default)) (lawEnv L fa)) Q E ⟨s0, gens, drawn, toks, os⟩ := by
  show wpAny _ _ (exec (Stmt.Assign _ _ _) (envOfC _ lawScope _ _ _)) _ _ _
  conv in lawScope => whnf
  refine @by_no _ fun hNo9 => ?_
  obtain ⟨ow, ot, op, on, oa, F, N, d1, d2, d3, d4, d5⟩ := S
  refine hNo9 ?_
  clear hNo9
  revert X; k_fill; intro X
  have n0 := isList_ne F.ns hl
  have n1 := (list_PP F N d1 d2 d3 d4 d5 hl).2
  obtain ⟨led, hBN⟩ := base_of F N
  have N := hBN.1
  have B := hBN.2.2
  simp only [List.cons_append, List.nil_append] at N
  k_steps
  rename Fr _ _ _ _ => F1
  rename News _ _ _ _ => N1
  refine h _ _ _ ⟨_, _, _, _, _, Fr.congr F1 lm_total, fun p hp => N1 p ?n, d1, d2, d3, d4, d5⟩ (fun a o q _ e => hBN.2.2.get e q.1 q.2 F1 N1 ?kb)
  case n => exact List.mem_append_left led hp
  case kb => intro p hp; simp only [List.mem_cons, hp, or_true]

theorem begin_X1 : True := by
  w_on
  w_top off
  k_with_none
  k_with "om" => (law_clear; first | with_reducible assumption | (law_purse 20000 => grind))
  k_with "guard" => skip
  trivial
set_option maxHeartbeats 4000000
section
variable {prog : Program} {w : World} {A : Around} {E : Value → Shared → Prop} {s : Shared}
noncomputable abbrev BytAt (b : Array UInt8) (i : Nat) (v : Value) : Prop := ∃ c u, b[i]? = some c ∧ v = .int (c.toNat : Int) u
theorem extend_bytes {R : Result → Shared → Prop} (hh : A.handled = none) (x : Array UInt8) (t : Tok) (S : Addr) (res : Value) (c₀ : Nat) (hS : s.heap.get? S = some { cls := .type "list", data := .seq #[] c₀ })
    (hR : ∀ h' tk acc' c', (∀ b o, b ≠ S → s.heap.get? b = some o → h'.get? b = some o) → h'.get? S = some { cls := .type "list", dict := none, data := .seq acc' c', slots := #[] } →
      ItemsOf (BytAt x) acc' x.size → R (.ok (.ret res)) { s with heap := h', toks := tk }) (hn : x.size ≤ sizeLine) :
    wpAny (model prog w) A.in1 (Builtin.List.listExtendWith (.ref S) (.bytes x t) res)
      (fun fin s' => match fin with | .done f => R (.ok f) s' | .again c' => c'.quiet = true ∧ codeAny (model prog w) A c' R s') (fun e s' => R (.error e) s') s := by
  have hSI : S ≠ s.heap.objs.size := Nat.ne_of_lt (Heap.lt_size hS)
  have hSf : S ∉ [s.heap.objs.size] := fun hm => hSI (List.mem_singleton.mp hm)
  unfold Builtin.List.listExtendWith
  refine wpAny_bind (wpAny_typeOf (T := "bytes") (v := .bytes x t) rfl ?_)
  have h1 : Builtin.List.listSameRef (.ref S) (.bytes x t) = false := rfl
  have h2 : (Value.type "bytes" == Value.type "list") = false := by decide
  have h3 : (Value.type "bytes" == Value.type "tuple") = false := by decide
  simp only [h1, h2, h3, Bool.or_false, Bool.false_eq_true, if_false]
  refine wpAny_bind (KBw.pyIter_bytes ?_)
  refine wpAny_bind (wpAny_holding ?_)
  unfold Builtin.List.listLengthHint
  refine wpAny_bind (wpAny_specialOf (T := "bytes") (v := .bytes x t) rfl FB.slot_bytes_len.lookup ?_)
  wp_delta
  refine wpAny_bind (wpAny_isInstance (T := "bytes") (v := .bytes x t) (b := true) rfl (by rw [isSubtype_type]; kernel_rfl) ?_)
  show wpAny _ _ (typeOf (Value.bytes x t) >>= _) _ _ _
  refine wpAny_bind (wpAny_typeOf (T := "bytes") (v := .bytes x t) rfl ?_)
  refine wpAny_pure ?_
  rw [if_neg (by decide)]
  refine wpAny_pure ⟨plainId_quiet F.plain_extend_loop _, codeAny_extend_loopS (P := BytAt x) (KBw.walks (A := A.in1) hh _ x t).toS hn _ hSf _ x.size 0 _ _ _ rfl (Nat.zero_le _) ⟨_, Heap.get?_push_size _ rfl, rfl, rfl⟩ (Heap.get?_push_of_some _ hS) (ItemsOf.nil _) fun s' acc' c' hm hS' hacc => ?_⟩
  rw [Moved.eq_with hm]
  refine hR s'.heap s'.toks acc' c' (fun b ob hb e => hm.heap b ob (fun hmem => ?_) (Heap.get?_push_of_some _ e)) hS' hacc
  rcases List.mem_cons.mp hmem with e' | hmem
  · exact hb e'
  · exact absurd (Heap.lt_size e) (by rw [List.mem_singleton.mp hmem]; exact Nat.lt_irrefl _)
theorem list_init_bytes {R : Result → Shared → Prop} (hh : A.handled = none) (x : Array UInt8) (t : Tok) (S : Addr) (hS : s.heap.get? S = some { cls := .type "list", data := .seq #[] })
    (hR : ∀ h' tk acc' c', (∀ b o, b ≠ S → s.heap.get? b = some o → h'.get? b = some o) → h'.get? S = some { cls := .type "list", dict := none, data := .seq acc' c', slots := #[] } →
      ItemsOf (BytAt x) acc' x.size → R (.ok (.ret .none)) { s with heap := h', toks := tk }) (hn : x.size ≤ sizeLine) :
    wpAny (model prog w) A.in1 (Builtin.«list.__init__» ⟨[.ref S, .bytes x t], []⟩)
      (fun fin s' => match fin with | .done f => R (.ok f) s' | .again c' => c'.quiet = true ∧ codeAny (model prog w) A c' R s') (fun e s' => R (.error e) s') s := by
  show wpAny _ _ (do let old ← Builtin.List.listItems (.ref S); Builtin.List.listUpdate (.ref S) (fun _ => #[]); letGo old.toList.reverse; Builtin.List.listExtendWith (.ref S) (.bytes x t) .none) _ _ s
  refine wpAny_bind ?_
  unfold Builtin.List.listItems
  refine wpAny_bind (wpAny_seqItems hS rfl (wpAny_pure ?_))
  show wpAny _ _ (updateSeq S (fun _ => #[]) >>= fun _ => letGo (#[] : Array Value).toList.reverse >>= fun _ => Builtin.List.listExtendWith (.ref S) (.bytes x t) .none) _ _ s
  refine wpAny_bind (wpAny_updateSeq hS rfl ?_)
  have hS₂ := Heap.get?_update_self (Obj.mapSeq (fun _ => (#[] : Array Value))) hS rfl
  have oth : ∀ b o, b ≠ S → s.heap.get? b = some o → (s.heap.update S (Obj.mapSeq (fun _ => (#[] : Array Value)))).get? b = some o :=
    fun b o hb e => (Heap.get?_update_other _ _ (Ne.symm hb)).trans e
  refine wpAny_bind (wpAny_letGo ?_)
  refine extend_bytes (hn := hn) hh x t S .none _ hS₂ fun h' tk acc' c' hk hS' hacc => ?_
  exact hR h' tk acc' c' (fun b o hb e => hk b o hb (oth b o hb e)) hS' hacc
theorem call_list_bytes {Q : Value → Shared → Prop} (hh : A.handled = none) (x : Array UInt8) (t : Tok)
    (hQ : ∀ h' tk acc' c', (∀ b o, s.heap.get? b = some o → h'.get? b = some o) →
      h'.get? s.heap.objs.size = some { cls := .type "list", dict := none, data := .seq acc' c', slots := #[] } → ItemsOf (BytAt x) acc' x.size → Q (.ref s.heap.objs.size) { s with heap := h', toks := tk }) (hn : x.size ≤ sizeLine) :
    wpAny (model prog w) A (call (.type "list") [.bytes x t]) Q E s := by
  refine callType_codes (Q₁ := fun obj s₁ => obj = .ref s.heap.objs.size ∧ s₁ = { s with heap := s.heap.push { cls := .type "list", data := .seq #[] } }) F.called_list (F.typeCall_list_1 _) F.entry_list_init
    (code_list_new _ ⟨rfl, rfl⟩) fun obj s₁ h₁ => ?_
  obtain ⟨rfl, rfl⟩ := h₁
  have hS : (s.heap.push { cls := .type "list", data := .seq #[] }).get? s.heap.objs.size = some { cls := .type "list", data := .seq #[] } := Heap.get?_push_size _ rfl
  refine ⟨⟨_, hS, rfl⟩, F.args_list_init_2 _ _, list_init_bytes (A := A.in1) (hn := hn) hh x t _ hS fun h' tk acc' c' hk hS' hacc => ?_⟩
  exact ⟨rfl, hQ h' tk acc' c' (fun b o e => hk b o (Nat.ne_of_lt (Heap.lt_size e)) (Heap.get?_push_of_some _ e)) hS' hacc⟩
theorem ints_of_list : ∀ (l : List Value) (m : List UInt8), l.length = m.length → (∀ (j : Nat) (v : Value), l[j]? = some v → ∃ (c : UInt8) (u : Tok), m[j]? = some c ∧ v = Value.int (c.toNat : Int) u) → IntsAre l (m.map fun c => ((c.toNat : Nat) : Int))
  | [], [], _, _ => .nil
  | [], _ :: _, hl, _ => by cases hl
  | _ :: _, [], hl, _ => by cases hl
  | v :: l, c :: m, hl, hP => by
    refine @by_no _ fun hNo9 => ?_
    obtain ⟨c', u, e1, e2⟩ := hP 0 v rfl
    cases e1; subst e2
    refine hNo9 ?_
    clear hNo9
    exact .cons _ _ (ints_of_list l m (by simpa using hl) fun j v hj => hP (j + 1) v hj)
theorem ints_of_items {b : Array UInt8} {acc : Array Value} (h : ItemsOf (BytAt b) acc b.size) : IntsAre acc.toList (KBw.bInts b) :=
  ints_of_list acc.toList b.toList (by simpa using h.1) fun j v hj => by
    obtain ⟨c, u, e1, e2⟩ := h.2 j v (by simpa using hj)
    exact ⟨c, u, by simpa using e1, e2⟩
theorem list_bytes {h₀ : Heap} {L : Addr} {m : Str → Option Value} {news : List (Addr × Obj)} {Q : Value → Shared → Prop} (F : Fr h₀ L s.heap m) (N : News h₀ L s.heap news) (hh : A.handled = none) (x : Array UInt8) (t : Tok) (n : Nat) (hxn : x.size = n) (hn : n ≤ sizeLine)
    (h : ∀ (D : Addr) h' tk vs c, List.length vs = n → IntsAre vs (KBw.bInts x) → Fr h₀ L h' m → News h₀ L h' ((D, W.listOf (List.toArray vs) c) :: news) → (∀ p ∈ news, p.1 < D) → Q (.ref D) { s with heap := h', toks := tk }) :
    wpAny (model prog w) A (call (.type "list") [.bytes x t]) Q E s := by
  subst hxn
  refine call_list_bytes hh x t (fun h' tk acc c hk hg hi => ?_) hn
  refine h _ h' tk acc.toList c (by simpa using hi.1) (ints_of_items hi) (F.keeps hk) (fun p hp => ?_) fun p hp => Heap.lt_size (N p hp).1
  rcases List.mem_cons.mp hp with rfl | hp
  · refine ⟨by simpa using hg, Ne.symm (Nat.ne_of_lt F.ns.lt), next_is_new F⟩
  · exact ⟨hk _ _ (N p hp).1, (N p hp).2⟩
end

theorem begin_L3 : True := by
  w_on
  w_top off
  k_with_none
  k_with "om" => (law_clear; first | with_reducible assumption | (law_purse 20000 => grind))
  k_with "guard" => skip
  trivial
set_option maxHeartbeats 4000000
theorem kw_L3_1 : True := by
  k_with_none
  k_with "om" => (law_clear; first | with_reducible assumption | (law_purse 20000 => grind))
  k_with "eval BinOp" => (k_here; (with_reducible show wpAny _ _ (eval (Expr.BinOp (Expr.Name _ _) _ (Expr.Constant (Const.int _) _ _) _) _) _ _ _); k_dflt (refine binNC (by k_asm) (by rfl) ?_ (by rfl) (by rfl) (by decide)); (try dsimp only))
  k_with "eval BinOp" => (k_here; (with_reducible show wpAny _ _ (eval (Expr.BinOp (Expr.Name _ _) _ (Expr.Name _ _) _) _) _ _ _); k_dflt (refine binNN (by k_asm) (by rfl) (by rfl) ?_ (by rfl) (by rfl) (by rfl) (by decide) (by decide)); (try dsimp only))
  k_with "isTrue Compare" => (k_here; (with_reducible show wpAny _ _ (isTrue (Expr.Compare (Expr.Name _ _) [_] [Expr.Constant (Const.int _) _ _] _) _ _) _ _ _); k_dflt (refine isNC (by k_asm) (by rfl) ?_ (by rfl) (by rfl) (by decide) (by with_unfolding_all rfl)); (try dsimp only))
  k_with "guard" => ((fail_if_success (with_reducible show Exists _)); (fail_if_success (with_reducible show wpAny _ _ (pyIter _) _ _ _)); (fail_if_success (with_reducible show wpAny _ _ (exec (Stmt.For _ _ _ _ _) _) _ _ _)); (fail_if_success (with_reducible show wpAny _ _ (exec (Stmt.While _ _ _ _) _) _ _ _)); (fail_if_success (with_reducible show wpAny _ _ (eval (Expr.ListComp _ _ _ _) _) _ _ _)))
  k_with "eval Name" => (k_here; (with_reducible show wpAny _ _ (eval (Expr.Name _ _) (envOfC _ _ _ _ _)) _ _ _); k_dflt (refine name_B (by k_asm) (by k_asm) (by k_asm) (by k_is) (by boot_by_name) (by decide) ?_))
  k_with "call builtin:sum" => ((k_here; (with_reducible show wpAny _ _ (call (Value.builtin "sum") [Value.ref _]) _ _ _); k_dflt (refine sum_any (by k_asm) (by k_asm) (by rfl) (by is_list) (by assumption) ?_); intro h' tk' t' F' N'); (try (revert h' tk' t' F' N'; intros)))
  k_with "call type:list" => ((k_here; (with_reducible show wpAny _ _ (call (Value.type "list") [Value.bytes _ _]) _ _ _); k_dflt (refine list_bytes (by k_asm) (by k_asm) (by rfl) _ _ _ (by exact rfl) (by (rw [sizeLine_eq]; first | decide | exact Nat.le_of_ble_eq_true rfl)) ?_; k_whole); intro D' h' tk' vs' c' hLn' hI' F' N' l1; (try simp only [List.size_toArray, List.length_cons, List.length_nil] at hLn'); (try k_lt l1)); (try (revert D' h' tk' vs' c' hLn' hI' F' N' l1; intros)))
  trivial
theorem cut_at (fv : List Value) : ∀ (k : Nat) (h : k < fv.length), kl_cut fv k = some (fv.take k, fv[k], fv.drop (k + 1)) := by
  induction fv with
  | nil => intro k h; cases h
  | cons v fv ih =>
    intro k h
    cases k with
    | zero => rfl
    | succ k =>
      unfold kl_cut
      rw [ih k (by simpa using h)]; rfl
theorem erase_split (fv : List Value) (k : Nat) : fv.take k ++ fv.drop (k + 1) = fv.eraseIdx k := by rw [List.eraseIdx_eq_take_drop_succ]
theorem ints_erase {vs : List Value} {ns : List Int} (h : IntsAre vs ns) : ∀ k, IntsAre (vs.eraseIdx k) (ns.eraseIdx k) := by
  induction h with
  | nil => intro k; exact .nil
  | cons n t r ih =>
    intro k
    cases k with
    | zero => exact r
    | succ k => exact .cons n t (ih k)
theorem fits_i (i : Nat) (h : i < 10) : Builtin.List.listFitsIndex (i : Int) = true := by
  unfold Builtin.List.listFitsIndex
  rw [Bool.and_eq_true, decide_eq_true_eq, decide_eq_true_eq]
  omega
theorem seq_i (fv : List Value) (i : Nat) (h : i < fv.length) : seqIndex? (i : Int) fv.toArray.size = some i := seq_at h
theorem size_i (fv : List Value) (h : fv.length ≤ 10) : fv.toArray.toList.length ≤ sizeLine := by
  rw [sizeLine_eq]; simp; omega
theorem ints_eq {vs : List Value} {a b : List Int} (h : IntsAre vs a) (e : a = b) : IntsAre vs b := e ▸ h
theorem free_pair : ∀ i : Fin 10, ∀ j : Fin 9, FREE.getD i.val 0 ≠ (FREE.eraseIdx i.val).getD j.val 0 ∧ FREE.getD i.val 0 ∈ FREE ∧ (FREE.eraseIdx i.val).getD j.val 0 ∈ FREE := by decide +kernel
theorem kw_L3_2 : True := by
  k_with "binaryOp Add ref ref" => ((k_here; (with_reducible show wpAny _ _ (binaryOp _ (Value.ref _) (Value.ref _)) _ _ _); k_dflt (refine kmk_add_lit (by k_asm) (by k_asm) (by is_list) (by is_list) (by exact rfl) ?_ (by (simp only [sizeLine_eq, List.toList_toArray, List.length_cons, List.length_nil]; omega))); intro D' h' F' N' l1; (try k_lt l1); (try k_sweep); (try simp only [List.toList_toArray] at N')); (try (revert D' h' F' N' l1; intros)))
  k_with "subscriptTail" => (k_here; (with_reducible show wpAny _ _ (subscriptTail _ _ (Value.ref _) (Value.int _ _)) _ _ _); (refine item_at (by assumption) (by is_list) (by assumption) ?_); (try dsimp only))
  trivial
theorem st_first {s0 : Heap} {toks : Nat} {Q : Flow → Shared → Prop}
    (X : (hd.heap_1 w.params).In g) (T : Top p loose mean mg mb g) (hdp : dp + 40 < recursionLimit) (hun : un + 8 * 40 < cLine) (h48 : @LT.lt Nat _ 248 L) (sa na pa fra : Addr) (fv : List Value) (tot : Int) (tt : Tok) (hg : g.get? fra = none) (hfr : s0.get? fra = some (W.listOf fv.toArray 0)) (hi : IntsAre fv FREE)
    (S : LawAt g L s0 (lawM (some (.ref sa)) (some (.ref na)) (some (.ref pa)) (some (.int tot tt)) (some (.ref fra)) none none none none none none none none none none none none none) none none none none none #[])
    (h : ∀ h' tk' (i : Nat) tx, i < 10 → LawAt g L h' (lawM (some (.ref sa)) (some (.ref na)) (some (.ref pa)) (some (.int tot tt)) (some (.ref fra)) (some (.int (FREE.getD i 0) tx)) none none none none none none none none none none none none) none none none none none #[] → h'.IsList fra (fv.eraseIdx i).toArray → Kept (fun a => PP L a ∧ a ≠ fra) s0 h' → Q .next ⟨h', gens, drawn, tk', os⟩) :
    wpAny (model PySem.Challenge.rw_qh0094_01.row.prog w) (Ar dp un fr gd) (exec (lawBody.getD 4 (.Pass default)) (lawEnv L fa)) Q E ⟨s0, gens, drawn, toks, os⟩ := by
  have hpp := (S.pp fra _ ⟨_, hfr, rfl, _, rfl⟩)
  show wpAny _ _ (exec (Stmt.Assign _ _ _) (envOfC _ lawScope _ _ _)) _ _ _
  conv in lawScope => whnf
  refine @by_no _ fun hNo9 => ?_
  obtain ⟨ow, ot, op, on, oa, F, N, d1, d2, d3, d4, d5⟩ := S
  refine hNo9 ?_
  clear hNo9
  revert X; k_fill; intro X
  refine @by_no _ fun hNo9 => ?_
  have hfl := hi.length
  have hlen : FREE.length = 10 := rfl
  have N2 : News g L s0 ((fra, W.listOf fv.toArray 0) :: [(L + 1 + 1 + 1 + 1 + 1, ow), (L + 1 + 1 + 1 + 1, ot), (L + 1 + 1 + 1, op), (L + 1 + 1, on), (L + 1, oa), (248, tabObj #[])]) := fun p hp => by
    rcases List.mem_cons.mp hp with rfl | hp
    · exact ⟨hfr, hpp.1, hg⟩
    · exact N p hp
  have hne : fra ∉ lawL L := hpp.2
  simp only [lawL, List.mem_cons, List.not_mem_nil, or_false, not_or] at hne
  obtain ⟨n1, n2, n3, n4, n5, n6⟩ : (@Ne Nat fra (L + 1 + 1 + 1 + 1 + 1)) ∧ (@Ne Nat fra (L + 1 + 1 + 1 + 1)) ∧ (@Ne Nat fra (L + 1 + 1 + 1)) ∧ (@Ne Nat fra (L + 1 + 1)) ∧ (@Ne Nat fra (L + 1)) ∧ (@Ne Nat fra 248) := hne
  obtain ⟨led, hBN⟩ := base_of F N2
  have own := hBN.2.1
  have N := hBN.1
  simp only [List.cons_append, List.nil_append] at N
  clear N2
  refine hNo9 ?_
  clear hNo9
  k_steps
  have hm : (tot.fmod 10) = ((tot.fmod 10).toNat : Int) := (Int.toNat_of_nonneg (Int.fmod_nonneg_of_pos _ (by decide))).symm
  have hm2 : tot.fmod 10 < 10 := Int.fmod_lt_of_pos _ (by decide)
  obtain ⟨i, hie⟩ : ∃ i, i = (tot.fmod 10).toNat := ⟨_, rfl⟩
  rw [← hie] at hm
  have hi10 : i < 10 := by omega
  rw [hm]
  k_dflt (refine' kl_popAt ?F ?N ?f ?k ?e ?U ?z ?_; (case F => k_asm); (case N => k_asm); (case f => exact fits_i i hi10); (case k => exact seq_i fv i (by omega)); (case e => exact cut_at fv i (by omega)); (case U => k_upd); (case z => exact size_i fv (by omega)))
  intro h' F' N'
  obtain ⟨tx, ex⟩ := hi.int_at i fv[i] (List.getElem?_eq_getElem (by omega))
  rw [ex, erase_split] at *
  k_steps
  rename Fr _ _ _ _ => F1
  rename News _ _ _ _ => N1
  refine h _ _ i _ hi10 ⟨_, _, _, _, _, Fr.congr F1 lm_first, fun p hp => N1 p ?nw, d1, d2, d3, d4, d5⟩ (News.isList N1 (.head _)) (fun a o q _ e => hBN.2.2.get e q.1.1 ?ka F1 N1 ?kb)
  case nw => exact .tail _ (List.mem_append_left led hp)
  case ka =>
    simp only [List.map_cons, List.map_nil, List.mem_cons, not_or]
    have := q.1.2
    simp only [lawL, List.mem_cons, not_or] at this
    exact ⟨q.2, this⟩
  case kb => intro p hp; simp only [List.mem_cons, hp, or_true]
theorem st_pair {s0 : Heap} {toks : Nat} {Q : Flow → Shared → Prop}
    (X : (hd.heap_1 w.params).In g) (T : Top p loose mean mg mb g) (hdp : dp + 40 < recursionLimit) (hun : un + 8 * 40 < cLine) (h48 : @LT.lt Nat _ 248 L) (sa na pa fra : Addr) (fv : List Value) (tot : Int) (tt tx : Tok) (i : Nat) (hil : i < 10) (hl : s0.IsList fra fv.toArray) (hi : IntsAre fv (FREE.eraseIdx i))
    (S : LawAt g L s0 (lawM (some (.ref sa)) (some (.ref na)) (some (.ref pa)) (some (.int tot tt)) (some (.ref fra)) (some (.int (FREE.getD i 0) tx)) none none none none none none none none none none none none) none none none none none #[])
    (h : ∀ h' tk' (ux uy : UInt8) tp, PairOk ux.toNat uy.toNat → LawAt g L h' (lawM (some (.ref sa)) (some (.ref na)) (some (.ref pa)) (some (.int tot tt)) (some (.ref fra)) (some (.int (FREE.getD i 0) tx)) none none none none none none none none none none none none) none none (some (.bytes #[ux, uy] tp)) none none #[] → Kept (PP L) s0 h' → Q .next ⟨h', gens, drawn, tk', os⟩) :
    wpAny (model PySem.Challenge.rw_qh0094_01.row.prog w) (Ar dp un fr gd) (exec (lawBody.getD 5 (.Pass default)) (lawEnv L fa)) Q E ⟨s0, gens, drawn, toks, os⟩ := by
  have hpp := S.pp fra _ hl
  show wpAny _ _ (exec (Stmt.Assign _ _ _) (envOfC _ lawScope _ _ _)) _ _ _
  conv in lawScope => whnf
  refine @by_no _ fun hNo9 => ?_
  obtain ⟨ow, ot, op, on, oa, F, N, d1, d2, d3, d4, d5⟩ := S
  refine hNo9 ?_
  clear hNo9
  revert X; k_fill; intro X
  have hfl := hi.length
  have hlen : (FREE.eraseIdx i).length = 9 := by rw [List.length_eraseIdx_of_lt (by show i < 10; exact hil)]; rfl
  have n0 : fra ≠ L := hpp.1
  have n1 : fra ∉ [(L + 1 + 1 + 1 + 1 + 1, ow), (L + 1 + 1 + 1 + 1, ot), (L + 1 + 1 + 1, op), (L + 1 + 1, on), (L + 1, oa), (248, tabObj #[])].map (·.1) := hpp.2
  obtain ⟨led, hBN⟩ := base_of F N
  have own := hBN.2.1
  have N := hBN.1
  have B := hBN.2.2
  simp only [List.cons_append, List.nil_append] at N
  have hm1 : 0 ≤ (tot.fdiv 10).fmod 9 := Int.fmod_nonneg_of_pos _ (by decide)
  have hm2 : (tot.fdiv 10).fmod 9 < 9 := Int.fmod_lt_of_pos _ (by decide)
  have hm3 : 0 ≤ (tot.fdiv 10).fmod 9 ∧ (tot.fdiv 10).fmod 9 < 2 ^ 62 := ⟨hm1, by omega⟩
  have hp := free_pair ⟨i, hil⟩ ⟨((tot.fdiv 10).fmod 9).toNat, by omega⟩
  dsimp only at hp
  k_steps
  have hf : ∀ z ∈ FREE, 0 ≤ z ∧ z < 256 := by decide
  have hin : KBa.In [FREE.getD i 0, (FREE.eraseIdx i).getD ((tot.fdiv 10).fmod 9).toNat 0] := fun n hn => by
    simp only [List.mem_cons, List.not_mem_nil, or_false] at hn
    rcases hn with rfl | rfl
    · exact hf _ hp.2.1
    · exact hf _ hp.2.2
  k_dflt (refine' KBa.make_K ?F ?N ?hh ?l ?i ?r ?n ?_; (case F => k_asm); (case N => k_asm); (case hh => rfl); (case l => exact News.isList (by k_asm) (.head _)); (case i => exact .cons _ _ (.cons _ _ .nil)); (case r => exact hin); (case n => exact (by decide : 2 ≤ 16777216)))
  intro h' t' k' F' N' hr'
  have hby := KBa.ints_make hin
  k_steps
  rename Fr _ _ _ _ => F1
  rename News _ _ _ _ => N1
  rename _ = Data.cell (some (Value.bytes _ _)) => d9
  have hby2 : [(((FREE.getD i 0).toNat.toUInt8.toNat : Nat) : Int), ((((FREE.eraseIdx i).getD ((tot.fdiv 10).fmod 9).toNat 0).toNat.toUInt8.toNat : Nat) : Int)] = [FREE.getD i 0, (FREE.eraseIdx i).getD ((tot.fdiv 10).fmod 9).toNat 0] := hby
  simp only [List.cons.injEq, and_true] at hby2
  refine h _ _ (FREE.getD i 0).toNat.toUInt8 ((FREE.eraseIdx i).getD ((tot.fdiv 10).fmod 9).toNat 0).toNat.toUInt8 t' ⟨?p1, ?p2, ?p3⟩ ⟨ow, ot, _, on, oa, F1, fun p hp => N1 p ?nw, d1, d2, d9, d4, d5⟩ (fun a o q _ e => hBN.2.2.get e q.1 q.2 F1 N1 ?kb)
  case p1 => rw [hby2.1, hby2.2]; exact hp.1
  case p2 => rw [hby2.1]; exact hp.2.1
  case p3 => rw [hby2.2]; exact hp.2.2
  case nw => exact .tail _ (List.mem_append_left led hp)
  case kb => intro p hp; simp only [List.mem_cons, hp, or_true]
theorem st_letters {s0 : Heap} {toks : Nat} {Q : Flow → Shared → Prop}
    (X : (hd.heap_1 w.params).In g) (T : Top p loose mean mg mb g) (hdp : dp + 40 < recursionLimit) (hun : un + 8 * 40 < cLine) (h48 : @LT.lt Nat _ 248 L) (sa na pa fra : Addr) (to fi pb : Value)
    (S : LawAt g L s0 (lawM (some (.ref sa)) (some (.ref na)) (some (.ref pa)) (some (to)) (some (.ref fra)) (some (fi)) none none none none none none none none none none none none) none none (some pb) none none #[])
    (h : ∀ h' tk' lea lev, LawAt g L h' (lawM (some (.ref sa)) (some (.ref na)) (some (.ref pa)) (some (to)) (some (.ref fra)) (some (fi)) (some (.ref lea)) none none none none none none none none none none none) none none (some pb) none none #[] → h'.IsList lea (List.toArray lev) → IntsAre lev LET → Kept (PP L) s0 h' → Q .next ⟨h', gens, drawn, tk', os⟩) :
    wpAny (model PySem.Challenge.rw_qh0094_01.row.prog w) (Ar dp un fr gd) (exec (lawBody.getD 6 (.Pass default)) (lawEnv L fa)) Q E ⟨s0, gens, drawn, toks, os⟩ := by
  show wpAny _ _ (exec (Stmt.Assign _ _ _) (envOfC _ lawScope _ _ _)) _ _ _
  conv in lawScope => whnf
  refine @by_no _ fun hNo9 => ?_
  obtain ⟨ow, ot, op, on, oa, F, N, d1, d2, d3, d4, d5⟩ := S
  refine hNo9 ?_
  clear hNo9
  revert X; k_fill; intro X
  obtain ⟨led, hBN⟩ := base_of F N
  have own := hBN.2.1
  have N := hBN.1
  simp only [List.cons_append, List.nil_append] at N
  k_steps
  rename Fr _ _ _ _ => F1
  rename News _ _ _ _ => N1
  rename IntsAre _ _ => hI
  refine h _ _ _ _ ⟨_, _, _, _, _, Fr.congr F1 lm_letters, fun p hp => N1 p ?nw, d1, d2, d3, d4, d5⟩ (News.isList N1 (.head _)) (ints_eq hI (by decide +kernel)) (fun a o q _ e => hBN.2.2.get e q.1 q.2 F1 N1 ?kb)
  case nw => exact .tail _ (List.mem_append_left led hp)
  case kb => intro p hp; simp only [List.mem_cons, hp, or_true]
theorem st_alphabets {s0 : Heap} {toks : Nat} {Q : Flow → Shared → Prop}
    (X : (hd.heap_1 w.params).In g) (T : Top p loose mean mg mb g) (hdp : dp + 40 < recursionLimit) (hun : un + 8 * 40 < cLine) (h48 : @LT.lt Nat _ 248 L) (sa na pa fra lea : Addr) (to fi : Value) (lev : List Value) (hl : s0.IsList lea lev.toArray) (hi : IntsAre lev LET) (ux uy : UInt8) (tp : Tok)
    (S : LawAt g L s0 (lawM (some (.ref sa)) (some (.ref na)) (some (.ref pa)) (some (to)) (some (.ref fra)) (some (fi)) (some (.ref lea)) none none none none none none none none none none none) none none (some (.bytes #[ux, uy] tp)) none none #[])
    (h : ∀ h' tk' aa, LawAt g L h' (lawM (some (.ref sa)) (some (.ref na)) (some (.ref pa)) (some (to)) (some (.ref fra)) (some (fi)) (some (.ref lea)) none none none none none none none none none none none) (some (.ref aa)) none (some (.bytes #[ux, uy] tp)) none none #[] → Rep (PP L) h' (.ref aa) (.lst ((AL ux.toNat uy.toNat).map fun al => .lst (al.map .int))) → Kept (PP L) s0 h' → Q .next ⟨h', gens, drawn, tk', os⟩) :
    wpAny (model PySem.Challenge.rw_qh0094_01.row.prog w) (Ar dp un fr gd) (exec (lawBody.getD 7 (.Pass default)) (lawEnv L fa)) Q E ⟨s0, gens, drawn, toks, os⟩ := by
  have hpp := S.pp lea _ hl
  show wpAny _ _ (exec (Stmt.Assign _ _ _) (envOfC _ lawScope _ _ _)) _ _ _
  conv in lawScope => whnf
  refine @by_no _ fun hNo9 => ?_
  obtain ⟨ow, ot, op, on, oa, F, N, d1, d2, d3, d4, d5⟩ := S
  refine hNo9 ?_
  clear hNo9
  revert X; k_fill; intro X
  have hfl := hi.length
  have hlen : LET.length = 62 := rfl
  have n0 : lea ≠ L := hpp.1
  have n1 : lea ∉ [(L + 1 + 1 + 1 + 1 + 1, ow), (L + 1 + 1 + 1 + 1, ot), (L + 1 + 1 + 1, op), (L + 1 + 1, on), (L + 1, oa), (248, tabObj #[])].map (·.1) := hpp.2
  obtain ⟨led, hBN⟩ := base_of F N
  have own := hBN.2.1
  have N := hBN.1
  have B := hBN.2.2
  simp only [List.cons_append, List.nil_append] at N
  k_steps
  rename Fr _ _ _ _ => F1
  rename News _ _ _ _ => N1
  rename _ = Data.cell (some (Value.ref _)) => d9
  rename IntsAre _ (KBw.bInts #[ux, uy]) => hI2
  rename IntsAre _ (KBw.bInts _) => hI3
  have S' : LawAt g L _ (lawM (some (.ref sa)) (some (.ref na)) (some (.ref pa)) (some (to)) (some (.ref fra)) (some (fi)) (some (.ref lea)) none none none none none none none none none none none) (some (.ref _)) none (some (.bytes #[ux, uy] tp)) none none #[] := ⟨ow, ot, op, on, _, F1, fun p hp => N1 p (by
    simp only [List.mem_cons, List.not_mem_nil, or_false] at hp ⊢
    rcases hp with rfl | rfl | rfl | rfl | rfl | rfl <;> simp only [true_or, or_true]), d1, d2, d3, d4, d9⟩
  have l0 := News.isList N1 (.head _)
  have l1 := News.isList N1 (.tail _ (.tail _ (.tail _ (.tail _ (.tail _ (.tail _ (.head _)))))))
  have l2 := News.isList N1 (.tail _ (.tail _ (.tail _ (.tail _ (.head _)))))
  have l3 := News.isList N1 (.tail _ (.tail _ (.head _)))
  have l4 := News.isList N1 (.tail _ (.head _))
  refine h _ _ _ S' (.lst (S'.pp _ _ l0) l0 ?rp) (fun a o q _ e => hBN.2.2.get e q.1 q.2 F1 N1 ?kb)
  case rp =>
    show Reps _ _ _ [.lst ((LET ++ [43, 47]).map .int), .lst ((LET ++ [45, 95]).map .int), .lst ((LET ++ [(ux.toNat : Int), (uy.toNat : Int)]).map .int), .lst (HEXD.map .int)]
    exact .cons (.lst (S'.pp _ _ l1) l1 (ints_rep (hi.append (.cons _ _ (.cons _ _ .nil))))) (.cons (.lst (S'.pp _ _ l2) l2 (ints_rep (hi.append (.cons _ _ (.cons _ _ .nil)))))
      (.cons (.lst (S'.pp _ _ l3) l3 (ints_rep (hi.append hI2))) (.cons (.lst (S'.pp _ _ l4) l4 (ints_rep (ints_eq hI3 (by decide +kernel)))) .nil)))
  case kb => intro p hp; simp only [List.mem_cons, hp, or_true]

theorem begin_L4 : True := by
  w_on
  w_top off
  k_with_none
  k_with "om" => (law_clear; first | with_reducible assumption | (law_purse 20000 => grind))
  k_with "guard" => skip
  trivial
set_option maxHeartbeats 4000000
theorem kw_L4_1 : True := by
  k_with_none
  k_with "om" => (law_clear; first | with_reducible assumption | (law_purse 20000 => grind))
  k_with "eval BinOp" => (k_here; (with_reducible show wpAny _ _ (eval (Expr.BinOp (Expr.Name _ _) _ (Expr.Constant (Const.int _) _ _) _) _) _ _ _); k_dflt (refine binNC (by k_asm) (by rfl) ?_ (by rfl) (by rfl) (by decide)); (try dsimp only))
  k_with "eval BinOp" => (k_here; (with_reducible show wpAny _ _ (eval (Expr.BinOp (Expr.Name _ _) _ (Expr.Name _ _) _) _) _ _ _); k_dflt (refine binNN (by k_asm) (by rfl) (by rfl) ?_ (by rfl) (by rfl) (by rfl) (by decide) (by decide)); (try dsimp only))
  k_with "isTrue Compare" => (k_here; (with_reducible show wpAny _ _ (isTrue (Expr.Compare (Expr.Name _ _) [_] [Expr.Constant (Const.int _) _ _] _) _ _) _ _ _); k_dflt (refine isNC (by k_asm) (by rfl) ?_ (by rfl) (by rfl) (by decide) (by with_unfolding_all rfl)); (try dsimp only))
  k_with "guard" => ((fail_if_success (with_reducible show Exists _)); (fail_if_success (with_reducible show wpAny _ _ (pyIter _) _ _ _)); (fail_if_success (with_reducible show wpAny _ _ (exec (Stmt.For _ _ _ _ _) _) _ _ _)); (fail_if_success (with_reducible show wpAny _ _ (exec (Stmt.While _ _ _ _) _) _ _ _)); (fail_if_success (with_reducible show wpAny _ _ (eval (Expr.ListComp _ _ _ _) _) _ _ _)); (fail_if_success (with_reducible show wpAny _ _ (exec (Stmt.Assign _ (Expr.ListComp _ _ _ _) _) _) _ _ _)); (fail_if_success (with_reducible show wpAny _ _ (call (Value.ref 206) _ _) _ _ _)); (fail_if_success (with_reducible show wpAny _ _ (call (Value.ref 213) _ _) _ _ _)); (fail_if_success (with_reducible show wpAny _ _ (compareOp CmpOp.NotEq (Value.ref _) (Value.ref _)) _ _ _)); (fail_if_success (with_reducible show ElEnd _ _ _ _ _ _ _ _ _ _ _ _ _)); (fail_if_success (with_reducible show CSrc _ _ _ _ _ _ _ _ _ _ _ _ _ _ _ _)))
  k_with "eval Name" => (k_here; (with_reducible show wpAny _ _ (eval (Expr.Name _ _) (envOfC _ _ _ _ _)) _ _ _); k_dflt (refine name_B (by k_asm) (by k_asm) (by k_asm) (by k_is) (by boot_by_name) (by decide) ?_))
  k_with "call builtin:sum" => ((k_here; (with_reducible show wpAny _ _ (call (Value.builtin "sum") [Value.ref _]) _ _ _); k_dflt (refine sum_any (by k_asm) (by k_asm) (by rfl) (by is_list) (by assumption) ?_); intro h' tk' t' F' N'); (try (revert h' tk' t' F' N'; intros)))
  k_with "call type:list" => ((k_here; (with_reducible show wpAny _ _ (call (Value.type "list") [Value.bytes _ _]) _ _ _); k_dflt (refine list_bytes (by k_asm) (by k_asm) (by rfl) _ _ _ (by exact rfl) (by (rw [sizeLine_eq]; first | decide | exact Nat.le_of_ble_eq_true rfl)) ?_; k_whole); intro D' h' tk' vs' c' hLn' hI' F' N' l1; (try simp only [List.size_toArray, List.length_cons, List.length_nil] at hLn'); (try k_lt l1)); (try (revert D' h' tk' vs' c' hLn' hI' F' N' l1; intros)))
  k_with "binaryOp Add ref ref" => ((k_here; (with_reducible show wpAny _ _ (binaryOp _ (Value.ref _) (Value.ref _)) _ _ _); k_dflt (refine kmk_add_lit (by k_asm) (by k_asm) (by is_list) (by is_list) (by exact rfl) ?_ (by (simp only [sizeLine_eq, List.toList_toArray, List.length_cons, List.length_nil]; omega))); intro D' h' F' N' l1; (try k_lt l1); (try k_sweep); (try simp only [List.toList_toArray] at N')); (try (revert D' h' F' N' l1; intros)))
  k_with "subscriptTail" => (k_here; (with_reducible show wpAny _ _ (subscriptTail _ _ (Value.ref _) (Value.int _ _)) _ _ _); (refine item_at (by assumption) (by is_list) (by assumption) ?_); (try dsimp only))
  k_with "call type:bytes" => ((k_here; (with_reducible show wpAny _ _ (call (Value.type "bytes") [Value.ref _]) _ _ _); k_dflt (refine KBa.make_K (by k_asm) (by k_asm) (by rfl) (by first | assumption | is_list) (by assumption) (by assumption) (by omega) ?_); intro h' t' k' F' N' hr'); (try (revert h' t' k' F' N' hr'; intros)))
  trivial
noncomputable def givenD (x y : Int) (q : Pcs) : D := .lst [.int q.1, .byt (wrK x y q.1 q.2.1), .int q.2.2]
noncomputable abbrev litsL (L : Addr) (ow ot op on oa : Obj) (ps : Array Value) : List (Addr × Obj) := [(L + 1 + 1 + 1 + 1 + 1, ow), (L + 1 + 1 + 1 + 1, ot), (L + 1 + 1 + 1, op), (L + 1 + 1, on), (L + 1, oa), (248, tabObj ps)]
theorem lits_off {g h h' : Heap} {L a : Addr} {m : Str → Option Value} {ow ot op on oa : Obj} {ca cn cp ct cw : Option Value} {ps : Array Value} {items : Array Value} (F : Fr g L h m) (N : News g L h (litsL L ow ot op on oa ps))
    (d1 : ow.data = .cell cw) (d2 : ot.data = .cell ct) (d3 : op.data = .cell cp) (d4 : on.data = .cell cn) (d5 : oa.data = .cell ca) {I C Dd : Addr} {oI oC : Obj} {ys : List Value} (hI : h.get? I = none) (hC : h.get? C = none) (hD : h.get? Dd = none) (l : h.IsList a items) :
    a ∉ ((I, oI) :: (C, oC) :: (Dd, LCg.lst ys) :: litsL L ow ot op on oa ps).map (·.1) := by
  have z := (list_PP F N d1 d2 d3 d4 d5 l).2
  simp only [List.map_cons, List.map_nil, List.mem_cons, List.not_mem_nil, or_false, not_or]
  simp only [lawL, List.mem_cons, List.not_mem_nil, or_false, not_or] at z
  exact ⟨ne_fresh l hI, ne_fresh l hC, ne_fresh l hD, z⟩
theorem st_given {s0 : Heap} {toks : Nat} {Q : Flow → Shared → Prop}
    (X : (hd.heap_1 w.params).In g) (T : Top p loose mean mg mb g) (hdp : dp + 40 < recursionLimit) (hun : un + 8 * 40 < cLine) (h48 : @LT.lt Nat _ 248 L) (sa na pa fra lea aa : Addr) (to fi : Value) (ux uy : UInt8) (tp : Tok) (pcs : List Pcs) (hpc : ∀ q ∈ pcs, PcOk q) (hpl : pcs.length ≤ 1000) (hrl : ∀ q ∈ pcs, q.2.1.length ≤ 1000)
    (hp : Rep (PP L) s0 (.ref pa) (.lst (pcs.map pieceD)))
    (S : LawAt g L s0 (lawM (some (.ref sa)) (some (.ref na)) (some (.ref pa)) (some (to)) (some (.ref fra)) (some (fi)) (some (.ref lea)) none none none none none none none none none none none) (some (.ref aa)) none (some (.bytes #[ux, uy] tp)) none none #[])
    (h : ∀ h' tk' ga, LawAt g L h' (lawM (some (.ref sa)) (some (.ref na)) (some (.ref pa)) (some (to)) (some (.ref fra)) (some (fi)) (some (.ref lea)) (some (.ref ga)) none none none none none none none none none none) (some (.ref aa)) none (some (.bytes #[ux, uy] tp)) none none #[] → Rep (PP L) h' (.ref ga) (.lst (pcs.map (givenD ux.toNat uy.toNat))) → Kept (PP L) s0 h' → Q .next ⟨h', gens, drawn, tk', os⟩) :
    wpAny (model PySem.Challenge.rw_qh0094_01.row.prog w) (Ar dp un fr gd) (exec (lawBody.getD 8 (.Pass default)) (lawEnv L fa)) Q E ⟨s0, gens, drawn, toks, os⟩ := by
  show wpAny _ _ (exec (Stmt.Assign _ _ _) (envOfC _ lawScope _ _ _)) _ _ _
  conv in lawScope => whnf
  refine @by_no _ fun hNo9 => ?_
  obtain ⟨ow, ot, op, on, oa, F, N, d1, d2, d3, d4, d5⟩ := S
  refine hNo9 ?_
  clear hNo9
  revert X; k_fill; intro X
  refine @by_no _ fun hNo9 => ?_
  obtain ⟨_, pv, e, hpp, lpa, hr⟩ := hp.list_inv
  cases e
  have hplen : pv.length = pcs.length := by rw [hr.length]; simp
  refine hNo9 ?_
  clear hNo9
  k_dflt (refine assign_comp (PX := fun _ => True) (cl := [(Str.ofString "pair", L + 1 + 1 + 1)]) F (by rfl) (by with_unfolding_all rfl) (by rfl) (by decide) (by rfl) (by decide) (by rfl) (by rfl) ?_)
  k_steps
  refine cs_list rfl F (fun k => givenD ux.toNat uy.toNat (pcs.getD k default)) (by rw [sizeLine_eq]; omega) lpa ?el ?fin
  case el =>
    intro I C Dd h4 ys XX kx v hkx hv
    refine @by_no _ fun hNo9 => ?_
    try dsimp only at hv
    obtain ⟨q, hq⟩ : ∃ q, pcs[kx]? = some q := ⟨_, List.getElem?_eq_getElem (by omega)⟩
    have hqm := List.mem_of_getElem? hq
    obtain ⟨v', e', R9⟩ := hr.get kx (.int 0) (by rw [List.length_map]; omega)
    cases hv.symm.trans e'
    rw [List.getD_eq_getElem?_getD, List.getElem?_map, hq] at R9
    refine hNo9 ?_
    clear hNo9
    show ElTurn _ _ _ _ _ _ _ _ _ _ _ _ _ _ _ _ _ (givenD ux.toNat uy.toNat (pcs.getD kx default))
    rw [show pcs.getD kx default = q by rw [List.getD_eq_getElem?_getD, hq]; rfl]
    refine @by_no _ fun hNo9 => ?_
    replace R9 : Rep _ s0 v (.lst [.int q.1, .lst (q.2.1.map .int), .int q.2.2]) := R9
    obtain ⟨t4, tvs, rfl, pt, lt4, R9⟩ := R9.list_inv
    obtain ⟨_, _, rfl, ri, R9⟩ := R9.cons_inv
    obtain ⟨_, _, rfl, rro, R9⟩ := R9.cons_inv
    obtain ⟨_, _, rfl, rj, R9⟩ := R9.cons_inv
    obtain rfl := R9.nil_inv
    obtain ⟨tw, rfl⟩ := ri.int_inv
    obtain ⟨tj, rfl⟩ := rj.int_inv
    obtain ⟨ro, rov, rfl, pro, lro, hro⟩ := rro.list_inv
    have hri := rep_ints hro
    have hqo := hpc q hqm
    have hrl9 := hrl q hqm
    have hin : KBa.In q.2.1 := hqo.oct
    have hby := KBa.ints_make hin
    have lt5 : h4.IsList t4 _ := isList_keep lt4 fun o e => XX.keep _ o (isList_ne F.ns lt4) e
    refine hNo9 ?_
    clear hNo9
    refine elTurn_three XX (lits := litsL L ow ot op on oa #[]) N rfl lt5 (by rfl) (by rfl) (by rfl) (by decide) (by decide) (by decide) (by rfl) ?_
    intro h5 tk5 oI oC mC Z m1 m2 m3
    have lro5 : h5.IsList ro rov.toArray := isList_keep (isList_keep lro fun o e => XX.keep _ o (isList_ne F.ns lro) e) fun o e => Z.keep _ o (ne_fresh lro XX.Cs) e
    obtain ⟨led5, hBN⟩ := base_of Z.F Z.N
    have N5 := hBN.1
    have own5 := hBN.2.1
    have B5 := hBN.2.2
    have F5 := Z.F
    have nsC := Z.nsC
    have p1 := lits_off (oI := oI) (oC := oC) (ys := ys) (h' := s0) F N d1 d2 d3 d4 d5 XX.Is XX.Cs XX.Ds lro
    have q1 := isList_ne F.ns lro
    simp only [List.cons_append, List.nil_append] at N5
    clear N F
    k_steps
    k_dflt (refine' use_spec (sp_write q.1 tw hqo.k4 ux uy tp _ _ q.2.1 hby (by omega)) ?F ?N ?X ?T ?hp ?hd ?hu ?_; (case F => k_asm); (case N => k_asm); (case X => k_asm); (case T => k_asm); (case hp => trivial); (case hd => omega); (case hu => omega); k_whole)
    intro v' h' tk' F' N' st' hv'
    obtain ⟨r', t', hv', hr'⟩ := hv'
    subst hv'
    clear st'
    rw [enc_wr hqo.k4 hqo.oct] at hr'
    k_steps
    rename Fr _ _ _ _ => F8
    rename News _ _ _ _ => N8
    exact el_end Z hBN.2.2 hBN.1 F8 N8 (fun p hp => .tail _ hp) (.lst ⟨by refine neN ?_; omega, trivial⟩ (News.isList N8 (.head _)) (.cons (.int _ _) (.cons (.byt _ hr') (.cons (.int _ _) .nil))))
  case fin =>
    intro Dd h4 tk4 ys O
    have S' : LawAt g L h4 (lawM (some (.ref sa)) (some (.ref na)) (some (.ref pa)) (some (to)) (some (.ref fra)) (some (fi)) (some (.ref lea)) (some (.ref Dd)) none none none none none none none none none none) (some (.ref aa)) none (some (.bytes #[ux, uy] tp)) none none #[] :=
      ⟨ow, ot, op, on, oa, Fr.congr O.F lm_given, fun p hp => ⟨O.keep _ _ (N p hp).2.1 (N p hp).1, (N p hp).2⟩, d1, d2, d3, d4, d5⟩
    have lD : h4.IsList Dd ys.toArray := ⟨_, O.get, rfl, _, rfl⟩
    refine h _ _ _ S' (.lst (S'.pp _ _ lD) lD ?rp) (fun a o q _ e => O.keep a o q.1 e)
    case rp =>
      have e : (List.range pv.length).map (fun k => givenD ux.toNat uy.toNat (pcs.getD k default)) = pcs.map (givenD ux.toNat uy.toNat) := by
        rw [hplen]; exact map_range_getD _ _ _
      rw [← e]
      exact (O.reps.onL S'.pp).weaken fun a p => p.2
theorem depths_le {k : Nat} : ∀ {ds : List D}, (∀ d ∈ ds, d.depth ≤ k) → D.depths ds ≤ k
  | [], _ => Nat.zero_le _
  | d :: ds, h => by
    unfold D.depths
    exact Nat.max_le.mpr ⟨h d (.head _), depths_le fun x hx => h x (.tail _ hx)⟩
theorem st_same {s0 : Heap} {toks : Nat} {Q : Flow → Shared → Prop}
    (X : (hd.heap_1 w.params).In g) (T : Top p loose mean mg mb g) (hdp : dp + 40 < recursionLimit) (hun : un + 8 * 40 < cLine) (h48 : @LT.lt Nat _ 248 L) (sa na pa fra lea aa ga : Addr) (to fi : Value) (ux uy : UInt8) (tp : Tok) (pok : PairOk ux.toNat uy.toNat) (pcs : List Pcs) (hpc : ∀ q ∈ pcs, PcOk q) (hpl : pcs.length ≤ 1000) (hrl : ∀ q ∈ pcs, q.2.1.length ≤ 1000)
    (hp : Rep (PP L) s0 (.ref pa) (.lst (pcs.map pieceD))) (ha : Rep (PP L) s0 (.ref aa) (.lst ((AL ux.toNat uy.toNat).map fun al => .lst (al.map .int)))) (hg : Rep (PP L) s0 (.ref ga) (.lst (pcs.map (givenD ux.toNat uy.toNat))))
    (S : LawAt g L s0 (lawM (some (.ref sa)) (some (.ref na)) (some (.ref pa)) (some (to)) (some (.ref fra)) (some (fi)) (some (.ref lea)) (some (.ref ga)) none none none none none none none none none none) (some (.ref aa)) none (some (.bytes #[ux, uy] tp)) none none #[])
    (h : ∀ h' tk', LawAt g L h' (lawM (some (.ref sa)) (some (.ref na)) (some (.ref pa)) (some (to)) (some (.ref fra)) (some (fi)) (some (.ref lea)) (some (.ref ga)) none none none none none none none none none none) (some (.ref aa)) none (some (.bytes #[ux, uy] tp)) none none #[] → Kept (PP L) s0 h' → Q .next ⟨h', gens, drawn, tk', os⟩) :
    wpAny (model PySem.Challenge.rw_qh0094_01.row.prog w) (Ar dp un fr gd) (exec (lawBody.getD 9 (.Pass default)) (lawEnv L fa)) Q E ⟨s0, gens, drawn, toks, os⟩ := by
  show wpAny _ _ (exec (Stmt.If _ _ _ _) (envOfC _ lawScope _ _ _)) _ _ _
  conv in lawScope => whnf
  refine @by_no _ fun hNo9 => ?_
  obtain ⟨ow, ot, op, on, oa, F, N, d1, d2, d3, d4, d5⟩ := S
  refine hNo9 ?_
  clear hNo9
  revert X; k_fill; intro X
  refine @by_no _ fun hNo9 => ?_
  obtain ⟨_, gv, e, hgp, lga, hgr⟩ := hg.list_inv
  cases e
  have hglen : gv.length = pcs.length := by rw [hgr.length]; simp
  refine hNo9 ?_
  clear hNo9
  k_steps
  k_dflt (refine eval_comp (PX := fun _ => True) (cl := []) F (by rfl) (by decide) (by rfl) (by decide) ?_)
  k_steps
  refine cs_list rfl F (fun k => .byt (wrK ux.toNat uy.toNat (pcs.getD k default).1 (pcs.getD k default).2.1)) (by rw [sizeLine_eq]; omega) lga ?el ?fin
  case el =>
    intro I C Dd h4 ys XX kx v hkx hv
    refine @by_no _ fun hNo9 => ?_
    try dsimp only at hv
    obtain ⟨q, hq⟩ : ∃ q, pcs[kx]? = some q := ⟨_, List.getElem?_eq_getElem (by omega)⟩
    obtain ⟨v', e', R9⟩ := hgr.get kx (.int 0) (by rw [List.length_map]; omega)
    cases hv.symm.trans e'
    rw [List.getD_eq_getElem?_getD, List.getElem?_map, hq] at R9
    refine hNo9 ?_
    clear hNo9
    show ElTurn _ _ _ _ _ _ _ _ _ _ _ _ _ _ _ _ _ (.byt (wrK ux.toNat uy.toNat (pcs.getD kx default).1 (pcs.getD kx default).2.1))
    rw [show pcs.getD kx default = q by rw [List.getD_eq_getElem?_getD, hq]; rfl]
    refine @by_no _ fun hNo9 => ?_
    replace R9 : Rep _ s0 v (.lst [.int q.1, .byt (wrK ux.toNat uy.toNat q.1 q.2.1), .int q.2.2]) := R9
    obtain ⟨t4, tvs, rfl, pt, lt4, R9⟩ := R9.list_inv
    obtain ⟨_, _, rfl, ri, R9⟩ := R9.cons_inv
    obtain ⟨_, _, rfl, rb, R9⟩ := R9.cons_inv
    obtain ⟨_, _, rfl, rj, R9⟩ := R9.cons_inv
    obtain rfl := R9.nil_inv
    obtain ⟨tw, rfl⟩ := ri.int_inv
    obtain ⟨tj, rfl⟩ := rj.int_inv
    obtain ⟨bb, tb, rfl, hbb⟩ := rb.byt_inv
    have lt5 : h4.IsList t4 _ := isList_keep lt4 fun o e => XX.keep _ o (isList_ne F.ns lt4) e
    refine hNo9 ?_
    clear hNo9
    refine elTurn_name XX (lits := litsL L ow ot op on oa #[]) N (by rfl) (by rfl) ?_
    intro h5 tk5 oI oC mC Z m1
    have lro5 : h5.IsList t4 _ := isList_keep lt5 fun o e => Z.keep _ o (ne_fresh lt4 XX.Cs) e
    obtain ⟨led5, hBN⟩ := base_of Z.F Z.N
    have N5 := hBN.1
    have own5 := hBN.2.1
    have B5 := hBN.2.2
    have F5 := Z.F
    have nsC := Z.nsC
    have p1 := lits_off (oI := oI) (oC := oC) (ys := ys) (h' := s0) F N d1 d2 d3 d4 d5 XX.Is XX.Cs XX.Ds lt4
    have q1 := isList_ne F.ns lt4
    simp only [List.cons_append, List.nil_append] at N5
    clear N F
    k_steps
    exact el_end Z hBN.2.2 hBN.1 Z.F hBN.1 (fun p hp => hp) (.byt _ hbb)
  case fin =>
    intro Dd h4 tk4 ys O
    refine @by_no _ fun hNo9 => ?_
    have S4 : LawAt g L h4 (lawM (some (.ref sa)) (some (.ref na)) (some (.ref pa)) (some (to)) (some (.ref fra)) (some (fi)) (some (.ref lea)) (some (.ref ga)) none none none none none none none none none none) (some (.ref aa)) none (some (.bytes #[ux, uy] tp)) none none #[] :=
      ⟨ow, ot, op, on, oa, O.F, fun p hp => ⟨O.keep _ _ (N p hp).2.1 (N p hp).1, (N p hp).2⟩, d1, d2, d3, d4, d5⟩
    have lD : h4.IsList Dd ys.toArray := ⟨_, O.get, rfl, _, rfl⟩
    have r4 : Rep (PP L) h4 (.ref Dd) (.lst (pcs.map fun q => .byt (wrK ux.toNat uy.toNat q.1 q.2.1))) := by
      have e : (List.range gv.length).map (fun k => D.byt (wrK ux.toNat uy.toNat (pcs.getD k default).1 (pcs.getD k default).2.1)) = pcs.map fun q => .byt (wrK ux.toNat uy.toNat q.1 q.2.1) := by
        rw [hglen]; exact map_range_getD (fun q : Pcs => D.byt (wrK ux.toNat uy.toNat q.1 q.2.1)) _ _
      refine .lst (S4.pp _ _ lD) lD ?_
      rw [← e]
      exact (O.reps.onL S4.pp).weaken fun a p => p.2
    have k4 : Kept (PP L) s0 h4 := fun a o q _ e => O.keep a o q.1 e
    obtain ⟨ow4, ot4, op4, on4, oa4, F4, N4, e1, e2, e3, e4, e5⟩ := S4
    clear F N
    replace hp := hp.kept k4
    replace ha := ha.kept k4
    obtain ⟨_, pv, e, hpp, lpa, hr⟩ := hp.list_inv
    cases e
    obtain ⟨_, av, e, haa, laa, har⟩ := ha.list_inv
    cases e
    have hplen : pv.length = pcs.length := by rw [hr.length]; simp
    refine hNo9 ?_
    clear hNo9
    k_dflt (refine eval_comp (PX := fun _ => True) (cl := [(Str.ofString "alphabets", L + 1)]) F4 (by rfl) (by decide) (by rfl) (by decide) ?_)
    k_steps
    refine cs_list rfl F4 (fun k => .byt (wrK ux.toNat uy.toNat (pcs.getD k default).1 (pcs.getD k default).2.1)) (by rw [sizeLine_eq]; omega) lpa ?el2 ?fin2
    case el2 =>
      intro I C Dd2 h5 ys2 XX kx v hkx hv
      refine @by_no _ fun hNo9 => ?_
      try dsimp only at hv
      obtain ⟨q, hq⟩ : ∃ q, pcs[kx]? = some q := ⟨_, List.getElem?_eq_getElem (by omega)⟩
      have hqm := List.mem_of_getElem? hq
      obtain ⟨v', e', R9⟩ := hr.get kx (.int 0) (by rw [List.length_map]; omega)
      cases hv.symm.trans e'
      rw [List.getD_eq_getElem?_getD, List.getElem?_map, hq] at R9
      refine hNo9 ?_
      clear hNo9
      show ElTurn _ _ _ _ _ _ _ _ _ _ _ _ _ _ _ _ _ (.byt (wrK ux.toNat uy.toNat (pcs.getD kx default).1 (pcs.getD kx default).2.1))
      rw [show pcs.getD kx default = q by rw [List.getD_eq_getElem?_getD, hq]; rfl]
      refine @by_no _ fun hNo9 => ?_
      replace R9 : Rep _ h4 v (.lst [.int q.1, .lst (q.2.1.map .int), .int q.2.2]) := R9
      obtain ⟨t4, tvs, rfl, pt, lt4, R9⟩ := R9.list_inv
      obtain ⟨_, _, rfl, ri, R9⟩ := R9.cons_inv
      obtain ⟨_, _, rfl, rro, R9⟩ := R9.cons_inv
      obtain ⟨_, _, rfl, rj, R9⟩ := R9.cons_inv
      obtain rfl := R9.nil_inv
      obtain ⟨tw, rfl⟩ := ri.int_inv
      obtain ⟨tj, rfl⟩ := rj.int_inv
      obtain ⟨ro, rov, rfl, pro, lro, hro⟩ := rro.list_inv
      have hri := rep_ints hro
      have hqo := hpc q hqm
      have hrl9 := hrl q hqm
      have hkb := hqo.k4.bd
      have hkb2 : 0 ≤ q.1 ∧ q.1 < 2 ^ 62 := by omega
      obtain ⟨va, hva, ra4⟩ := har.get q.1.toNat (.int 0) (by rw [List.length_map]; show q.1.toNat < 4; omega)
      rw [map_getD _ _ _ [] _ (by show q.1.toNat < 4; omega)] at ra4
      obtain ⟨sb, sav, rfl, psb, lsa, hsa⟩ := ra4.list_inv
      have hsi := rep_ints hsa
      have lt5 : h5.IsList t4 _ := isList_keep lt4 fun o e => XX.keep _ o (isList_ne F4.ns lt4) e
      refine hNo9 ?_
      clear hNo9
      refine elTurn_three XX (lits := litsL L ow4 ot4 op4 on4 oa4 #[]) N4 rfl lt5 (by rfl) (by rfl) (by rfl) (by decide) (by decide) (by decide) (by rfl) ?_
      intro h6 tk6 oI oC mC Z m1 m2 m3
      have up : ∀ {a : Addr} {its : Array Value}, h4.IsList a its → h6.IsList a its := fun l => isList_keep (isList_keep l fun o e => XX.keep _ o (isList_ne F4.ns l) e) fun o e => Z.keep _ o (ne_fresh l XX.Cs) e
      have lro6 := up lro
      have lsa6 := up lsa
      have laa6 := up laa
      obtain ⟨led6, hBN⟩ := base_of Z.F Z.N
      have N6 := hBN.1
      have own6 := hBN.2.1
      have B6 := hBN.2.2
      have F6 := Z.F
      have nsC := Z.nsC
      have p1 := lits_off (oI := oI) (oC := oC) (ys := ys2) (h' := h4) F4 N4 e1 e2 e3 e4 e5 XX.Is XX.Cs XX.Ds laa
      have q1 := isList_ne F4.ns laa
      simp only [List.cons_append, List.nil_append] at N6
      clear N4 F4
      k_steps
      all_goals (
        k_dflt (refine' use_spec (sp_writtenK pok ro sb rov sav q.2.1 q.1 _ _ hqo.k4 (by (try simp only [decide_eq_true_eq, decide_eq_false_iff_not] at *); split <;> first | rfl | omega) hri hsi (by omega) hqo.oct) ?F ?N ?X ?T ?hp ?hd ?hu ?_; (case F => k_asm); (case N => k_asm); (case X => k_asm); (case T => k_asm); (case hp => exact ⟨lro6, lsa6⟩); (case hd => omega); (case hu => omega); k_whole)
        intro v' h' tk' F' N' st' hv'
        obtain ⟨r', t', hv', hr'⟩ := hv'
        subst hv'
        clear st'
        k_steps
        rename Fr _ _ _ _ => F8
        rename News _ _ _ _ => N8
        exact el_end Z hBN.2.2 hBN.1 F8 N8 (fun p hp => hp) (.byt _ hr'))
    case fin2 =>
      intro Dd2 h5 tk5 ys2 O2
      have S5 : LawAt g L h5 (lawM (some (.ref sa)) (some (.ref na)) (some (.ref pa)) (some (to)) (some (.ref fra)) (some (fi)) (some (.ref lea)) (some (.ref ga)) none none none none none none none none none none) (some (.ref aa)) none (some (.bytes #[ux, uy] tp)) none none #[] :=
        ⟨ow4, ot4, op4, on4, oa4, O2.F, fun p hp => ⟨O2.keep _ _ (N4 p hp).2.1 (N4 p hp).1, (N4 p hp).2⟩, e1, e2, e3, e4, e5⟩
      have lD2 : h5.IsList Dd2 ys2.toArray := ⟨_, O2.get, rfl, _, rfl⟩
      have r5 : Rep (PP L) h5 (.ref Dd2) (.lst (pcs.map fun q => .byt (wrK ux.toNat uy.toNat q.1 q.2.1))) := by
        have e : (List.range pv.length).map (fun k => D.byt (wrK ux.toNat uy.toNat (pcs.getD k default).1 (pcs.getD k default).2.1)) = pcs.map fun q => .byt (wrK ux.toNat uy.toNat q.1 q.2.1) := by
          rw [hplen]; exact map_range_getD (fun q : Pcs => D.byt (wrK ux.toNat uy.toNat q.1 q.2.1)) _ _
        refine .lst (S5.pp _ _ lD2) lD2 ?_
        rw [← e]
        exact (O2.reps.onL S5.pp).weaken fun a p => p.2
      have k5 : Kept (PP L) h4 h5 := fun a o q _ e => O2.keep a o q.1 e
      have r45 := r4.kept k5
      have k45 := k4.trans k5
      have F5 := O2.F
      clear F4 N4
      k_steps
      refine ne_rep r45 r5 (depths_le fun d hd => ?_) (by (try dsimp only [Around.deeper]); omega) ?_
      · obtain ⟨q, _, rfl⟩ := List.mem_map.mp hd
        exact Nat.zero_le _
      k_steps
      exact h _ _ S5 k45
noncomputable def oneD (x y : Int) (q : Pcs) : D := .lst [.int q.1, .byt (wrK x y q.1 q.2.1)]

theorem begin_C4 : True := by
  w_on
  w_top off
  k_with_none
  k_with "om" => (law_clear; first | with_reducible assumption | (law_purse 20000 => grind))
  k_with "guard" => skip
  trivial
set_option maxHeartbeats 2000000
section
variable {prog : Program} {w : World} {A : Around} {E : Value → Shared → Prop} {R : Result → Shared → Prop} {s : Shared} {h₀ : Heap} {L : Addr} {m : Str → Option Value} {env : Env}
theorem turn2_0 (elt t0 i0 t1 i1 : Expr) (scope : Scope) (pos : Pos) (it acc : Value) (env : Env) :
    compTurn (.ListComp elt [⟨t0, i0, [], 0⟩, ⟨t1, i1, [], 0⟩] scope pos) 0 it acc env = (do
      standAt i0.pos
      match ← pyNext it with
      | none => pure (.done .next)
      | some v =>
        letOwnedTupleGo t0 it v
        assign t0 env v
        let mut ok := true
        for c in ([] : List Expr) do
          if ok then ok ← isTrue c env (eval c env)
        if ok then
          let x ← eval i1 env
          standAt i1.pos
          let x ← foldedSetIterable i1 env x
          let _ ← runOwn (.compStart (.ListComp elt [⟨t0, i0, [], 0⟩, ⟨t1, i1, [], 0⟩] scope pos) 1 (← holding [x] (pyIter x)) acc env) env
        again (.compLoop (.ListComp elt [⟨t0, i0, [], 0⟩, ⟨t1, i1, [], 0⟩] scope pos) 0 it acc env)) := by rfl
theorem turn2_1 (elt t0 i0 t1 i1 : Expr) (scope : Scope) (pos : Pos) (it acc : Value) (env : Env) :
    compTurn (.ListComp elt [⟨t0, i0, [], 0⟩, ⟨t1, i1, [], 0⟩] scope pos) 1 it acc env = (do
      standAt i1.pos
      match ← pyNext it with
      | none => pure (.done .next)
      | some v =>
        letOwnedTupleGo t1 it v
        assign t1 env v
        let mut ok := true
        for c in ([] : List Expr) do
          if ok then ok ← isTrue c env (eval c env)
        if ok then
          (do let _ ← call (.builtin "list.append") [acc, ← eval elt env])
        again (.compLoop (.ListComp elt [⟨t0, i0, [], 0⟩, ⟨t1, i1, [], 0⟩] scope pos) 1 it acc env)) := by rfl
theorem turn0_any {elt t0 i0 t1 i1 : Expr} {scope : Scope} {pos : Pos} {it acc : Value} {env : Env} (I : Nat → Shared → Prop) (hfs : ∀ x, foldedSetIterable i1 env x = pure x)
    (turn : ∀ n s, I n s → wpAny (model prog w) A (pyNext it) (fun r s₁ => match r with
      | none => R (.ok .next) s₁
      | some v => wpAny (model prog w) A (letOwnedTupleGo t0 it v) (fun _ s₁' => wpAny (model prog w) A (assign t0 env v) (fun _ s₂ =>
          wpAny (model prog w) A (eval i1 env) (fun x s₃ => wpAny (model prog w) A (pyIter x) (fun it1 s₄ =>
            codeAny (model prog w) A (.compStart (.ListComp elt [⟨t0, i0, [], 0⟩, ⟨t1, i1, [], 0⟩] scope pos) 1 it1 acc env) (fun r s₅ => match r with | .ok _ => ∃ m, m < n ∧ I m s₅ | .error _ => False) s₄)
              (fun _ _ => False) s₃) (fun _ _ => False) s₂) (fun _ _ => False) s₁') (fun _ _ => False) s₁) (fun _ _ => False) s)
    (n : Nat) (h : I n s) : codeAny (model prog w) A (.compLoop (.ListComp elt [⟨t0, i0, [], 0⟩, ⟨t1, i1, [], 0⟩] scope pos) 0 it acc env) R s := by
  refine codeAny_loop rfl I (fun n s hI => ?_) n h
  show wpAny _ A ((compTurn (.ListComp elt [⟨t0, i0, [], 0⟩, ⟨t1, i1, [], 0⟩] scope pos) 0 it acc env).onRaise (fun x => do noteFrame x env; theTreesLotGoes x)) _ _ s
  refine wpAny_noted ?_
  rw [turn2_0]
  refine wpAny_bind (wpAny_standAt (wpAny_bind (wpAny_mono (turn n s hI) (fun r s₁ h₁ => ?_) fun _ _ h' => h'.elim)))
  cases r with
  | none => exact wpAny_pure h₁
  | some v =>
    refine wpAny_bind (wpAny_mono h₁ (fun _ s₁' h₁' => ?_) fun _ _ h' => h'.elim)
    refine wpAny_bind (wpAny_mono h₁' (fun _ s₂ h₂ => wpAny_bind (wpAny_mono (wpAny_tests_nil (Q := fun ok s₃ => ok = true ∧ s₃ = s₂) ⟨rfl, rfl⟩) (fun ok s₃ h₃ => ?_) fun _ _ h' => h')) fun _ _ h' => h'.elim)
    obtain ⟨rfl, rfl⟩ := h₃
    simp only [if_true]
    refine wpAny_bind (wpAny_mono h₂ (fun x s₄ h₄ => ?_) fun _ _ h' => h'.elim)
    refine wpAny_bind (wpAny_standAt (wpAny_bind (wpAny_of_eq (hfs x) ?_)))
    refine wpAny_bind (wpAny_holding (wpAny_mono h₄ (fun it1 s₅ h₅ => ?_) fun _ _ h' => h'.elim))
    refine wpAny_bind (wpAny_runOwn (h := none) (codeAny_mono h₅ (fun r s₆ h₆ => ?_)))
    cases r with
    | ok f => exact wpAny_pure ⟨rfl, h₆⟩
    | error e => exact h₆.elim
theorem turn1_any {elt t0 i0 t1 i1 : Expr} {scope : Scope} {pos : Pos} {it acc : Value} {env : Env} (I : Nat → Shared → Prop)
    (turn : ∀ n s, I n s → wpAny (model prog w) A (pyNext it) (fun r s₁ => match r with
      | none => R (.ok .next) s₁
      | some v => wpAny (model prog w) A (letOwnedTupleGo t1 it v) (fun _ s₁' => wpAny (model prog w) A (assign t1 env v) (fun _ s₂ =>
          wpAny (model prog w) A (eval elt env) (fun x s₄ =>
              wpAny (model prog w) A (call (.builtin "list.append") [acc, x]) (fun _ s₅ => ∃ m, m < n ∧ I m s₅) (fun _ _ => False) s₄) (fun _ _ => False) s₂)
          (fun _ _ => False) s₁') (fun _ _ => False) s₁) (fun _ _ => False) s)
    (n : Nat) (h : I n s) : codeAny (model prog w) A (.compLoop (.ListComp elt [⟨t0, i0, [], 0⟩, ⟨t1, i1, [], 0⟩] scope pos) 1 it acc env) R s := by
  refine codeAny_loop rfl I (fun n s hI => ?_) n h
  show wpAny _ A ((compTurn (.ListComp elt [⟨t0, i0, [], 0⟩, ⟨t1, i1, [], 0⟩] scope pos) 1 it acc env).onRaise (fun x => do noteFrame x env; theTreesLotGoes x)) _ _ s
  refine wpAny_noted ?_
  rw [turn2_1]
  refine wpAny_bind (wpAny_standAt (wpAny_bind (wpAny_mono (turn n s hI) (fun r s₁ h₁ => ?_) fun _ _ h' => h'.elim)))
  cases r with
  | none => exact wpAny_pure h₁
  | some v =>
    refine wpAny_bind (wpAny_mono h₁ (fun _ s₁' h₁' => ?_) fun _ _ h' => h'.elim)
    refine wpAny_bind (wpAny_mono h₁' (fun _ s₂ h₂ => wpAny_bind (wpAny_mono (wpAny_tests_nil (Q := fun ok s₃ => ok = true ∧ s₃ = s₂) ⟨rfl, rfl⟩) (fun ok s₃ h₃ => ?_) fun _ _ h' => h')) fun _ _ h' => h'.elim)
    obtain ⟨rfl, rfl⟩ := h₃
    exact wpAny_bind (wpAny_bind (wpAny_mono h₂ (fun x s₄ h₄ => wpAny_bind (wpAny_mono h₄ (fun _ s₅ h₅ => wpAny_pure (wpAny_pure ⟨rfl, h₅⟩)) fun _ _ h' => h'.elim)) fun _ _ h' => h'.elim))
theorem compStart1 {elt t0 i0 t1 i1 : Expr} {scope : Scope} {pos : Pos} {it acc : Value} {env : Env}
    (h0 : codeAny (model prog w) A (.compLoop (.ListComp elt [⟨t0, i0, [], 0⟩, ⟨t1, i1, [], 0⟩] scope pos) 1 it acc env) R s)
    (h : wpAny (model prog w) A (pyIter it) (fun it' s' => codeAny (model prog w) A (.compLoop (.ListComp elt [⟨t0, i0, [], 0⟩, ⟨t1, i1, [], 0⟩] scope pos) 1 it' acc env) R s') (fun _ _ => False) s) :
    codeAny (model prog w) A (.compStart (.ListComp elt [⟨t0, i0, [], 0⟩, ⟨t1, i1, [], 0⟩] scope pos) 1 it acc env) R s := by
  refine codeAny_of_tree ?_
  show wpAny _ _ ((compStart (.ListComp elt [⟨t0, i0, [], 0⟩, ⟨t1, i1, [], 0⟩] scope pos) 1 it acc env).onRaise (fun x => do noteFrame x env; standAt theWindowsPlace)) _ _ s
  refine wpAny_notedAt ?_
  unfold compStart
  show wpAny _ _ (ask >>= _) _ _ s
  refine wpAny_bind (wpAny_askSetting (wpAny_ite ?_))
  split
  · first
      | exact wpAny_bind (wpAny_pure (wpAny_pure (And.intro rfl h0)))
      | exact wpAny_pure (And.intro rfl h0)
  · first
      | exact wpAny_bind (wpAny_rule (wpAny_bind (wpAny_standAt (wpAny_bind (wpAny_mono h (fun it' s' h' => wpAny_pure (And.intro rfl h')) fun _ _ x => x.elim)))))
      | exact wpAny_rule (wpAny_bind (wpAny_standAt (wpAny_bind (wpAny_mono h (fun it' s' h' => wpAny_pure (And.intro rfl h')) fun _ _ x => x.elim))))
end

theorem begin_C5 : True := by
  w_on
  w_top off
  k_with_none
  k_with "om" => (law_clear; first | with_reducible assumption | (law_purse 20000 => grind))
  k_with "guard" => skip
  trivial
set_option maxHeartbeats 2000000
section
variable {prog : Program} {w : World} {A : Around} {E : Value → Shared → Prop} {s : Shared} {h₀ : Heap} {L : Addr} {m : Str → Option Value} {env : Env}
theorem Reps.getAt {P : Addr → Prop} {h : Heap} : ∀ {vs : List Value} {ds : List D}, Reps P h vs ds → ∀ (i : Nat) (d : D), ds[i]? = some d → ∃ v, vs[i]? = some v ∧ Rep P h v d
  | _, _, .nil, i, d, e => by simp at e
  | _, _, .cons x r, 0, d, e => by simp at e; subst e; exact ⟨_, by simp, x⟩
  | _, _, .cons x r, i + 1, d, e => by simp at e; obtain ⟨v, h1, h2⟩ := Reps.getAt r i d e; exact ⟨v, by simpa using h1, h2⟩
theorem repsInts {P : Addr → Prop} {h : Heap} : ∀ {vs : List Value} {ns : List Int}, Reps P h vs (ns.map .int) → IntsAre vs ns
  | _, [], r => by obtain rfl := r.nil_inv; exact .nil
  | _, n :: ns, r => by
    refine @by_no _ fun hNo9 => ?_
    obtain ⟨v, vs, rfl, x, r'⟩ := r.cons_inv
    cases x
    refine hNo9 ?_
    clear hNo9
    exact .cons _ _ (repsInts r')
theorem intsReps {P : Addr → Prop} {h : Heap} : ∀ {vs : List Value} {ns : List Int}, IntsAre vs ns → Reps P h vs (ns.map .int)
  | _, _, .nil => .nil
  | _, _, .cons n t r => .cons (.int n t) (intsReps r)
theorem IntsAre.getAt : ∀ {vs : List Value} {ns : List Int}, IntsAre vs ns → ∀ (j : Nat) (v : Value), vs[j]? = some v → ∃ n t, v = .int n t ∧ ns[j]? = some n
  | _, _, .nil, j, v, e => by simp at e
  | _, _, .cons n t r, 0, v, e => by simp at e; subst e; exact ⟨n, t, rfl, by simp⟩
  | _, _, .cons n t r, j + 1, v, e => by simp at e; obtain ⟨n, t, h1, h2⟩ := IntsAre.getAt r j v e; exact ⟨n, t, h1, by simpa using h2⟩
theorem push_at {h : Heap} {o : Obj} {I : Addr} (hI : h.objs.size = I) (hf : o.isFreed = false := by rfl) : (h.push o).get? I = some o := by subst hI; exact Heap.get?_push_size _ hf
noncomputable abbrev Stays (h h' : Heap) : Prop := ∀ a o, h.get? a = some o → h'.get? a = some o
/-- a comprehension's heap, opened: iterator, list, scope -/
inductive OpenB (h0 : Heap) (ax I Dd C : Addr) (h₁ : Heap) : Prop
  | mk (mC : Str → Option Value) (hID : I ≠ Dd) (hIC : I ≠ C) (hCD : C ≠ Dd) (nI : h0.get? I = none) (nD : h0.get? Dd = none) (nC : h0.get? C = none) (old : Stays h0 h₁) (it : h₁.IsListIter I ax 0) (acc : h₁.get? Dd = some (LCg.lst [])) (ns : h₁.Ns C mC)
theorem opened {h0 h₁ : Heap} {ax C : Addr} {mC : Str → Option Value} {oI oD oC : Obj} (hC : C = ((h0.push oI).push oD).objs.size) (hsb : Heap.SameBut C (((h0.push oI).push oD).push oC) h₁) (ns : h₁.Ns C mC)
    (eI : oI = { cls := .type "list_iterator", dict := none, data := .fields #[.ref ax, .int 0 0] }) (eD : oD = LCg.lst []) : OpenB h0 ax h0.objs.size (h0.push oI).objs.size C h₁ := by
  have e1 : (h0.push oI).objs.size = h0.objs.size + 1 := Heap.size_push _ _
  have e2 : C = h0.objs.size + 2 := by rw [hC, Heap.size_push, e1]
  have hIC : h0.objs.size ≠ C := by rw [e2]; exact Nat.ne_of_lt (Nat.lt_succ_of_lt (Nat.lt_succ_self _))
  have hCD : C ≠ (h0.push oI).objs.size := by rw [e2, e1]; exact Nat.ne_of_gt (Nat.lt_succ_self _)
  have nC : h0.get? C = none := Heap.get?_none_of_le (by rw [e2]; exact Nat.le_add_right _ _)
  refine ⟨mC, by rw [e1]; exact Nat.ne_of_lt (Nat.lt_succ_self _), hIC, hCD, Heap.get?_none_of_le (Nat.le_refl _), Heap.get?_none_of_le (by rw [e1]; exact Nat.le_succ _), nC, fun b oo e => hsb.extBut b oo (Ne.symm (some_ne nC e)) (Heap.get?_push_of_some _ (Heap.get?_push_of_some _ (Heap.get?_push_of_some _ e))), ⟨oI, hsb.extBut _ _ hIC (Heap.get?_push_of_some _ (Heap.get?_push_of_some _ (push_at rfl (by rw [eI]; rfl)))), by rw [eI], by rw [eI]; rfl⟩, ?_, ns⟩
  rw [← eD]
  exact hsb.extBut _ _ (Ne.symm hCD) (Heap.get?_push_of_some _ (push_at rfl (by rw [eD]; rfl)))
theorem open_blk {e : Expr} {scope : Scope} {cl : List (Str × Addr)} {s₁ : Shared} {ax : Addr} {vs : List Value} {RR : Value → Addr → Result → Shared → Prop} (hcell : ∀ y ∈ scope.names, y.2 ≠ .cell) (hkind : scope.kind = .function) (hl : s₁.heap.IsList ax vs.toArray)
    (h : ∀ I Dd C h₁ tk, OpenB s₁.heap ax I Dd C h₁ → codeAny (model prog w) A (.compStart e 0 (.ref I) (.ref Dd) (compEnvC scope cl C env)) (RR (.ref Dd) C) { s₁ with heap := h₁, toks := tk }) :
    wpAny (model prog w) A (pyIter (.ref ax)) (fun it s₂ => wpAny (model prog w) A (newList []) (fun acc s₃ => wpAny (model prog w) A (newFunctionEnv scope env.globals cl [] env.qual none .none (some env)) (fun cenv s₄ =>
      codeAny (model prog w) A (.compStart e 0 it acc { cenv with scope := relabel scope env }) (RR acc cenv.locals) s₄) E s₃) E s₂) E s₁ := by
  refine wpAny_pyIter_list hl ?_
  refine wpAny_newObj_type (wpAny_newFunctionEnv hcell (fun y hy => nomatch hy) (fun h₁ hns₁ hsb₁ => ?_) hkind)
  exact h _ _ _ h₁ _ (opened rfl hsb₁ hns₁ rfl rfl)
inductive FlatJ (s₁ : Shared) (pcs : List Pcs) (I ax C Dd : Addr) (k : Nat) (s' : Shared) : Prop
  | mk (h : Heap) (tk i : Nat) (ys : List Value) (mC : Str → Option Value) (e : s' = { s₁ with heap := h, toks := tk }) (hi : i ≤ pcs.length) (hk : k = pcs.length + 1 - i) (st : Stays s₁.heap h) (it : h.IsListIter I ax i) (n : h.Ns C mC) (d : h.get? Dd = some (LCg.lst ys)) (r : IntsAre ys ((pcs.take i).flatMap (·.2.1)))
inductive FlatK (s₁ : Shared) (us ys : List Value) (i : Nat) (I ax J ra C Dd : Addr) (k : Nat) (s' : Shared) : Prop
  | mk (h : Heap) (tk j : Nat) (mC : Str → Option Value) (e : s' = { s₁ with heap := h, toks := tk }) (hj : j ≤ us.length) (hk : k = us.length + 1 - j) (st : Stays s₁.heap h) (it : h.IsListIter I ax (i + 1)) (itJ : h.IsListIter J ra j) (n : h.Ns C mC) (d : h.get? Dd = some (LCg.lst (ys ++ us.take j)))
/-- the rows' octets, one list: the block from its source on -/
theorem flat_blk {elt t0 t1 iter0 : Expr} {x y z o : Str} {p1 p2 p3 p4 p5 p6 p7 : Pos} {x1} {scope : Scope} {cl : List (Str × Addr)} {pos : Pos} {s₁ : Shared} {ax : Addr} {vs : List Value} {pcs : List Pcs} {RR : Value → Addr → Result → Shared → Prop}
    (ht0 : t0 = .Tuple [.Name x p1, .Name y p2, .Name z p3] x1 p4) (ht1 : t1 = .Name o p5) (he : elt = .Name o p6)
    (hh : A.handled = none) (hcell : ∀ y ∈ scope.names, y.2 ≠ .cell) (hkind : scope.kind = .function)
    (hx : scope.names.lookup x = some .local) (hy : scope.names.lookup y = some .local) (hz : scope.names.lookup z = some .local) (ho : scope.names.lookup o = some .local) (hyz : y ≠ z)
    (hyd : (y == ("__debug__" : Str)) = false) (hod : (o == ("__debug__" : Str)) = false)
    (hl : s₁.heap.IsList ax vs.toArray) (hr : Reps (fun _ => True) s₁.heap vs (pcs.map pieceD)) (hsz : (pcs.flatMap (·.2.1)).length ≤ 100)
    (hRR : ∀ (Dd C : Addr) (h : Heap) (tk : Nat) (mC : Str → Option Value) (ys : List Value), C ≠ Dd → s₁.heap.get? C = none → s₁.heap.get? Dd = none → h.get? Dd = some (LCg.lst ys) → h.Ns C mC → Stays s₁.heap h →
      IntsAre ys (pcs.flatMap (·.2.1)) → RR (.ref Dd) C (.ok .next) { s₁ with heap := h, toks := tk }) :
    wpAny (model prog w) A (pyIter (.ref ax)) (fun it s₂ => wpAny (model prog w) A (newList []) (fun acc s₃ => wpAny (model prog w) A (newFunctionEnv scope env.globals cl [] env.qual none .none (some env)) (fun cenv s₄ =>
      codeAny (model prog w) A (.compStart (.ListComp elt [⟨t0, iter0, [], 0⟩, ⟨t1, .Name y p7, [], 0⟩] scope pos) 0 it acc { cenv with scope := relabel scope env }) (RR acc cenv.locals) s₄) E s₃) E s₂) E s₁ := by
  subst ht0 ht1 he
  refine open_blk hcell hkind hl fun I Dd C h₁ tk₁ O => ?_
  refine @by_no _ fun hNo9 => ?_
  obtain ⟨mC₁, hID, hIC, hCD, nI, nD, nC, old, itI, hacc, hns₁⟩ := O
  have hlen : vs.length = pcs.length := by rw [hr.length]; simp
  refine hNo9 ?_
  clear hNo9
  -- what stands kept
  have lkp : ∀ {h : Heap} {a : Addr} {items : Array Value}, Stays s₁.heap h → s₁.heap.IsList a items → h.IsList a items := fun k l => isList_keep l fun oo e => k _ oo e
  have loop : ∀ s₃ : Shared, (∃ tk, s₃ = { s₁ with heap := h₁, toks := tk }) →
      codeAny (model prog w) A (.compLoop (.ListComp (.Name o p6) [⟨.Tuple [.Name x p1, .Name y p2, .Name z p3] x1 p4, iter0, [], 0⟩, ⟨.Name o p5, .Name y p7, [], 0⟩] scope pos) 0 (.ref I) (.ref Dd) (compEnvC scope cl C env))
        (RR (.ref Dd) C) s₃ := by
    rintro s₃ ⟨tk₀, rfl⟩
    refine turn0_any
      (FlatJ s₁ pcs I ax C Dd)
      (fun _ => rfl) ?_ (pcs.length + 1) ⟨h₁, tk₀, 0, [], _, rfl, Nat.zero_le _, rfl, old, itI, hns₁, hacc, .nil⟩
    intro k s' ri26
    refine @by_no _ fun hNo9 => ?_
    obtain ⟨h, tk, i, ys, mC, rfl, hi, rfl, hk, hit, hn, hD, hy'⟩ := ri26
    refine hNo9 ?_
    clear hNo9
    by_cases hlt : i < pcs.length
    · obtain ⟨v, hv, rv⟩ := Reps.getAt hr i (pieceD pcs[i]) (by rw [List.getElem?_map, List.getElem?_eq_getElem hlt]; rfl)
      generalize hq : pcs[i] = q at *
      refine @by_no _ fun hNo9 => ?_
      obtain ⟨t, pv, rfl, _, lt, rp⟩ := rv.list_inv
      obtain ⟨v1, _, rfl, r1, rp⟩ := rp.cons_inv
      obtain ⟨v2, _, rfl, r2, rp⟩ := rp.cons_inv
      obtain ⟨v3, _, rfl, r3, rp⟩ := rp.cons_inv
      obtain rfl := rp.nil_inv
      obtain ⟨ra, us, rfl, _, lra, rus⟩ := r2.list_inv
      have ius := repsInts rus
      refine hNo9 ?_
      clear hNo9
      refine wpAny_pyNext_list_item hit (lkp hk hl) (by simpa using hv) fun h2 hit2 hs2 => ?_
      dsimp only
      have k2 : Stays s₁.heap h2 := fun a oo e => hs2.extBut a oo (Ne.symm (some_ne nI e)) (hk a oo e)
      have hn2 := hn.sameBut hs2 (Ne.symm hIC)
      have hD2 := hs2.extBut _ _ (Ne.symm hID) hD
      refine wpAny_letOwnedTupleGo_listiter hit2 ?_
      rw [assign_Tuple]
      refine wpAny_bind (wpAny_standAt ?_)
      unfold unpack
      have hl3 : (assignEach [Expr.Name x p1, Expr.Name y p2, Expr.Name z p3] (compEnvC scope cl C env)).length = [v1, Value.ref ra, v3].toArray.size := rfl
      have hstar : (assignEach [Expr.Name x p1, Expr.Name y p2, Expr.Name z p3] (compEnvC scope cl C env)).findIdx? (·.1) = none := rfl
      rw [hl3, hstar]
      refine wpAny_bind (wpAny_holding (kun_itemsOf hh (lkp k2 lt) fun h3 he3 => ?_))
      have k3 : ∀ a oo, h2.get? a = some oo → h3.get? a = some oo := fun a oo e => he3 a oo (Nat.ne_of_lt (Heap.lt_size e)) e
      refine assignInOrder_cons (wpAny_assign_Name (wpAny_storeName_local (lookup_relabel_local hx) (hn2.at' fun oo e => k3 _ oo e) (fun h4 hn4 hs4 => ?_) (by simp [compEnvC, relabel, hkind])))
      refine assignInOrder_cons (wpAny_assign_Name (wpAny_storeName_local (lookup_relabel_local hy) hn4 (fun h5 hn5 hs5 => ?_) (by simp [compEnvC, relabel, hkind])))
      refine assignInOrder_cons (wpAny_assign_Name (wpAny_storeName_local (lookup_relabel_local hz) hn5 (fun h6 hn6 hs6 => ?_) (by simp [compEnvC, relabel, hkind])))
      refine assignInOrder_nil ?_
      have kc : ∀ a oo, a ≠ C → h2.get? a = some oo → h6.get? a = some oo := fun a oo ha e => hs6.extBut a oo ha (hs5.extBut a oo ha (hs4.extBut a oo ha (k3 a oo e)))
      have k6 : Stays s₁.heap h6 := fun a oo e => kc a oo (Ne.symm (some_ne nC e)) (k2 a oo e)
      have hit6 : h6.IsListIter I ax (i + 1) := hit2.at fun oo e => kc _ oo hIC e
      have hD6 := kc _ _ (Ne.symm hCD) hD2
      rw [eval_Name (hd := hyd)]
      refine wpAny_bind (wpAny_standAt (wpAny_loadName_local (by simpa [compEnvC, relabel] using hkind) (lookup_relabel_local hy) hn6 (by simp [hyz]; rfl) ?_))
      refine wpAny_pyIter_list (lkp k6 lra) ?_
      generalize hJ : h6.objs.size = J
      generalize hH7 : h6.push { cls := .type "list_iterator", dict := none, data := .fields #[.ref ra, .int 0 0] } = h7
      have lt6 : ∀ {a : Addr} {oo : Obj}, h6.get? a = some oo → J ≠ a := fun e => hJ ▸ Ne.symm (Nat.ne_of_lt (Heap.lt_size e))
      have k7 : ∀ a oo, h6.get? a = some oo → h7.get? a = some oo := fun a oo e => hH7 ▸ Heap.get?_push_of_some _ e
      have hJ7 : h7.IsListIter J ra 0 := ⟨_, hH7 ▸ push_at hJ, rfl, rfl⟩
      have hJD : J ≠ Dd := lt6 hD6
      have hJI : J ≠ I := by obtain ⟨_, e, _⟩ := hit6; exact lt6 e
      have hJC : J ≠ C := hJ ▸ Ne.symm (Nat.ne_of_lt hn6.lt)
      have nJ : s₁.heap.get? J = none := keep_none k6 (Heap.get?_none_of_le (Nat.le_of_eq hJ))
      have tk6 : (pcs.take (i + 1)).flatMap (·.2.1) = (pcs.take i).flatMap (·.2.1) ++ q.2.1 := by
        rw [List.take_add_one, List.getElem?_eq_getElem hlt, hq]; simp
      have lenq : ys.length + us.length ≤ 100 := by
        have a1 : (ys ++ us).length = ((pcs.take (i + 1)).flatMap (·.2.1)).length := by rw [tk6, (IntsAre.append hy' ius).length]
        have a2 : ((pcs.take (i + 1)).flatMap (·.2.1)).length ≤ (pcs.flatMap (·.2.1)).length := by
          conv => rhs; rw [← List.take_append_drop (i + 1) pcs, List.flatMap_append, List.length_append]
          exact Nat.le_add_right _ _
        rw [List.length_append] at a1
        omega
      have inner : ∀ s₈ : Shared, (∃ tk, s₈ = { s₁ with heap := h7, toks := tk }) → codeAny (model prog w) A (.compLoop (.ListComp (.Name o p6) [⟨.Tuple [.Name x p1, .Name y p2, .Name z p3] x1 p4, iter0, [], 0⟩, ⟨.Name o p5, .Name y p7, [], 0⟩] scope pos) 1 (.ref J) (.ref Dd) (compEnvC scope cl C env))
          (fun r s₅ => match r with
            | .ok _ => ∃ k', k' < pcs.length + 1 - i ∧ FlatJ s₁ pcs I ax C Dd k' s₅
            | .error _ => False) s₈ := by
        rintro s₈ ⟨tk8, rfl⟩
        refine turn1_any
          (FlatK s₁ us ys i I ax J ra C Dd)
          ?_ (us.length + 1) ⟨h7, tk8, 0, _, rfl, Nat.zero_le _, rfl, fun a oo e => k7 a oo (k6 a oo e), hit6.at fun oo e => k7 _ oo e, hJ7, hn6.at' fun oo e => k7 _ oo e, by simpa using k7 _ _ hD6⟩
        intro k s' ri28
        refine @by_no _ fun hNo9 => ?_
        obtain ⟨h, tk, j, mC, rfl, hj, rfl, hk, hit, hitJ, hn, hD⟩ := ri28
        refine hNo9 ?_
        clear hNo9
        by_cases hjl : j < us.length
        · obtain ⟨n, tn, hu, hnq⟩ := IntsAre.getAt ius j us[j] (by simp [hjl])
          refine wpAny_pyNext_list_item hitJ (lkp hk lra) (x := us[j]) (by simp [hjl]) fun h2 hitJ2 hs2 => ?_
          dsimp only
          refine wpAny_pure ?_
          have k2 : Stays s₁.heap h2 := fun a oo e => hs2.extBut a oo (Ne.symm (some_ne nJ e)) (hk a oo e)
          refine wpAny_assign_Name (wpAny_storeName_local (lookup_relabel_local ho) (hn.sameBut hs2 (Ne.symm hJC)) (fun h3 hn3 hs3 => ?_) (by simp [compEnvC, relabel, hkind]))
          have k3 : Stays s₁.heap h3 := fun a oo e => hs3.extBut a oo (Ne.symm (some_ne nC e)) (k2 a oo e)
          rw [eval_Name (hd := hod)]
          refine wpAny_bind (wpAny_standAt (wpAny_loadName_local (v := us[j]) (by simpa [compEnvC, relabel] using hkind) (lookup_relabel_local ho) hn3 (by simp) ?_))
          have hD3 := hs3.extBut _ _ (Ne.symm hCD) (hs2.extBut _ _ (Ne.symm hJD) hD)
          refine append_at (hsz := by show (ys ++ us.take j).toArray.size ≤ sizeLine; rw [List.size_toArray, List.length_append, List.length_take, sizeLine_eq]; omega) hD3 fun h4 hs4 hD4 => ?_
          have kk : ∀ a oo, a ≠ J → a ≠ C → a ≠ Dd → h.get? a = some oo → h4.get? a = some oo := fun a oo q1 q2 q3 e => hs4.extBut a oo q3 (hs3.extBut a oo q2 (hs2.extBut a oo q1 e))
          refine ⟨us.length + 1 - (j + 1), by omega, h4, _, j + 1, _, rfl, hjl, rfl, fun a oo e => hs4.extBut a oo (Ne.symm (some_ne nD e)) (k3 a oo e), hit.at fun oo e => kk _ oo (Ne.symm hJI) hIC hID e,
            hitJ2.at fun oo e => hs4.extBut _ oo hJD (hs3.extBut _ oo hJC e), hn3.sameBut hs4 hCD, ?_⟩
          refine hD4.trans (congrArg some ((LCg.lst_snoc _ _).trans ?_))
          rw [List.append_assoc, List.take_add_one, List.getElem?_eq_getElem hjl]; rfl
        · obtain rfl : j = us.length := by omega
          refine wpAny_pyNext_list_end hh hitJ (lkp hk lra) (by simp) fun h2 hs2 => ?_
          dsimp only
          refine ⟨pcs.length + 1 - (i + 1), by omega, h2, _, i + 1, ys ++ us, _, rfl, hlt, rfl, fun a oo e => hs2 a oo (Ne.symm (some_ne nJ e)) (hk a oo e), hit.at fun oo e => hs2 _ oo (Ne.symm hJI) e, hn.at' fun oo e => hs2 _ oo (Ne.symm hJC) e, ?_, ?_⟩
          · rw [List.take_length] at hD; exact hs2 _ _ (Ne.symm hJD) hD
          · rw [tk6]; exact IntsAre.append hy' ius
      exact compStart1 (inner _ ⟨_, rfl⟩) (wpAny_pyIter_listiter hJ7 (inner _ ⟨_, rfl⟩))
    · obtain rfl : i = pcs.length := by omega
      refine wpAny_pyNext_list_end hh hit (lkp hk hl) (by simp [hlen]) fun h2 hs2 => ?_
      dsimp only
      rw [List.take_length] at hy'
      exact hRR Dd C h2 _ _ ys hCD nC nD (hs2 _ _ (Ne.symm hID) hD) (hn.at' fun oo e => hs2 _ oo (Ne.symm hIC) e) (fun a oo e => hs2 a oo (Ne.symm (some_ne nI e)) (hk a oo e)) hy'
  exact codeAny_compStart_list (loop _ ⟨_, rfl⟩) (wpAny_pyIter_listiter itI (loop _ ⟨_, rfl⟩))
theorem assign_flat {iter0 : Expr} {x y z o yv : Str} {p1 p2 p3 p4 p5 p6 p7 py : Pos} {x1} {scope : Scope} {cl : List (Str × Addr)} {pos spos : Pos} {pcs : List Pcs} {Q : Flow → Shared → Prop} (_F : Fr h₀ L s.heap m) (hLe : env.locals = L)
    (hsw : swapsWith (.ListComp (.Name o p6) [⟨.Tuple [.Name x p1, .Name y p2, .Name z p3] x1 p4, iter0, [], 0⟩, ⟨.Name o p5, .Name y p7, [], 0⟩] scope pos) (some (.Name yv py)) spos.line env = pure true)
    (hclos : closureFor scope env = pure cl) (hcell : ∀ y ∈ scope.names, y.2 ≠ .cell) (hkind : scope.kind = .function) (hnames : ∀ y ∈ scope.names, y.2 = .local → scope.names.lookup y.1 = some .local)
    (hy0 : env.kindOf yv = some .local) (hp : (env.scope.kind == .class || (env.scope.kind == .module && env.locals != env.globals)) = false)
    (hh : A.handled = none) (hx : scope.names.lookup x = some .local) (hy : scope.names.lookup y = some .local) (hz : scope.names.lookup z = some .local) (ho : scope.names.lookup o = some .local) (hyz : y ≠ z)
    (hyd : (y == ("__debug__" : Str)) = false) (hod : (o == ("__debug__" : Str)) = false) (hsz : (pcs.flatMap (·.2.1)).length ≤ 100)
    (h : wpAny (model prog w) A (eval iter0 env) (fun xv s₁ => ∃ ax vs, xv = .ref ax ∧ s₁.heap.IsList ax (List.toArray vs) ∧ Reps (fun _ => True) s₁.heap vs (pcs.map pieceD) ∧ Fr h₀ L s₁.heap m ∧
      ∀ Dd h tk ys, CompOut (fun _ => True) h₀ L (fun z => if z = yv then some (.ref Dd) else m z) s₁.heap Dd h ys ((pcs.flatMap (·.2.1)).map .int) → IntsAre ys (pcs.flatMap (·.2.1)) → Q .next { s₁ with heap := h, toks := tk }) E s)
    (hs : ∀ x, foldedSetIterable iter0 env x = pure x := by intro _; rfl) :
    wpAny (model prog w) A (exec (.Assign [.Name yv py] (.ListComp (.Name o p6) [⟨.Tuple [.Name x p1, .Name y p2, .Name z p3] x1 p4, iter0, [], 0⟩, ⟨.Name o p5, .Name y p7, [], 0⟩] scope pos) spos) env) Q E s := by
  subst hLe
  rw [exec_Assign_Name_used _ _ _ _ hsw]
  refine wpAny_bind (wpAny_standAt (wpAny_bind ?_))
  show wpAny _ A (do let _ ← comprehension (.ListComp (.Name o p6) [⟨.Tuple [.Name x p1, .Name y p2, .Name z p3] x1 p4, iter0, [], 0⟩, ⟨.Name o p5, .Name y p7, [], 0⟩] scope pos) scope env _ (newList []) false (eval iter0 env) (some (assign (.Name yv py) env))) _ _ s
  refine wpAny_bind (wpAny_mono (wpAny_comprehension_free (use := some (assign (.Name yv py) env)) (Q := fun _ s' => Q .next s') rfl hs hclos hkind hnames
    (wpAny_mono h (fun xv s₁ S => ?_) fun _ _ e => e)) (fun _ s' hq => wpAny_pure (wpAny_pure hq)) fun _ _ e => e)
  refine @by_no _ fun hNo9 => ?_
  obtain ⟨ax, vs, rfl, hl, hr, F, fin⟩ := S
  refine hNo9 ?_
  clear hNo9
  refine flat_blk (RR := fun acc C => compPost (model prog w) A E (some (assign (.Name yv py) env)) (fun _ s' => Q .next s') acc C) rfl rfl rfl hh hcell hkind hx hy hz ho hyz hyd hod hl hr hsz ?_
  intro Dd C h tk mC ys hCD hCs hDs hD hn hk hy'
  show wpAny _ A (assign (.Name yv py) env (.ref Dd)) _ _ _
  have hLs : ∃ oo, s₁.heap.get? env.locals = some oo := by obtain ⟨oo, e, _⟩ := LCg.ns_obj F.ns; exact ⟨oo, e⟩
  have nL : ∀ {a : Addr}, s₁.heap.get? a = none → a ≠ env.locals := fun e q => by obtain ⟨oo, e2⟩ := hLs; rw [← q, e] at e2; cases e2
  have n0 : ∀ {a : Addr}, s₁.heap.get? a = none → h₀.get? a = none := fun e => keep_none F.keep e
  have F' : Fr h₀ env.locals h m := F.keeps hk
  refine wpAny_assign_Name (wpAny_storeName_local hy0 F'.ns (fun h₂ hn₂ hs₂ => ?_) hp)
  have hL₀ : h₀.get? env.locals = none := Heap.get?_none_of_le F'.above
  have F₂ : Fr h₀ env.locals h₂ (fun z => if z = yv then some (.ref Dd) else m z) := ⟨hn₂, fun b oo e => hs₂.extBut b oo (fun q => by rw [q, hL₀] at e; cases e) (F'.keep b oo e), F'.above⟩
  refine ⟨mC, hn.sameBut hs₂ (nL hCs), fun h'' hs'' => ?_⟩
  have nC : ∀ {a : Addr} {oo : Obj}, s₁.heap.get? a = some oo → a ≠ C := fun {a oo} e q => by rw [q, hCs] at e; cases e
  exact fin Dd h'' _ ys ⟨F₂.change hs'' (nL hCs) (n0 hCs), hs''.extBut _ _ (Ne.symm hCD) (hs₂.extBut _ _ (nL hDs) hD), hDs, n0 hDs, nL hDs, fun a oo h1 e => hs''.extBut _ _ (nC e) (hs₂.extBut _ _ h1 (hk a oo e)), intsReps hy'⟩ hy'
end

theorem begin_C6 : True := by
  w_on
  w_top off
  k_with_none
  k_with "om" => (law_clear; first | with_reducible assumption | (law_purse 20000 => grind))
  k_with "guard" => skip
  trivial
set_option maxHeartbeats 2000000
section
variable {prog : Program} {w : World} {A : Around} {E : Value → Shared → Prop} {R : Result → Shared → Prop} {s : Shared} {h₀ : Heap} {L : Addr} {m : Str → Option Value} {env : Env}
theorem turnF (elt t0 i0 c : Expr) (scope : Scope) (pos : Pos) (it acc : Value) (env : Env) :
    compTurn (.ListComp elt [⟨t0, i0, [c], 0⟩] scope pos) 0 it acc env = (do
      standAt i0.pos
      match ← pyNext it with
      | none => pure (.done .next)
      | some v =>
        letOwnedTupleGo t0 it v
        assign t0 env v
        let mut ok := true
        for c in ([c] : List Expr) do
          if ok then ok ← isTrue c env (eval c env)
        if ok then
          (do let _ ← call (.builtin "list.append") [acc, ← eval elt env])
        again (.compLoop (.ListComp elt [⟨t0, i0, [c], 0⟩] scope pos) 0 it acc env)) := by rfl
theorem turnF_any {elt t0 i0 c : Expr} {scope : Scope} {pos : Pos} {it acc : Value} {env : Env} (I : Nat → Shared → Prop)
    (turn : ∀ n s, I n s → wpAny (model prog w) A (pyNext it) (fun r s₁ => match r with
      | none => R (.ok .next) s₁
      | some v => wpAny (model prog w) A (letOwnedTupleGo t0 it v) (fun _ s₁' => wpAny (model prog w) A (assign t0 env v) (fun _ s₂ =>
          wpAny (model prog w) A (isTrue c env (eval c env)) (fun ok s₄ => ok = false ∧ ∃ m, m < n ∧ I m s₄) (fun _ _ => False) s₂)
          (fun _ _ => False) s₁') (fun _ _ => False) s₁) (fun _ _ => False) s)
    (n : Nat) (h : I n s) : codeAny (model prog w) A (.compLoop (.ListComp elt [⟨t0, i0, [c], 0⟩] scope pos) 0 it acc env) R s := by
  refine codeAny_loop rfl I (fun n s hI => ?_) n h
  show wpAny _ A ((compTurn (.ListComp elt [⟨t0, i0, [c], 0⟩] scope pos) 0 it acc env).onRaise (fun x => do noteFrame x env; theTreesLotGoes x)) _ _ s
  refine wpAny_noted ?_
  rw [turnF]
  refine wpAny_bind (wpAny_standAt (wpAny_bind (wpAny_mono (turn n s hI) (fun r s₁ h₁ => ?_) fun _ _ h' => h'.elim)))
  cases r with
  | none => exact wpAny_pure h₁
  | some v =>
    refine wpAny_bind (wpAny_mono h₁ (fun _ s₁' h₁' => ?_) fun _ _ h' => h'.elim)
    refine wpAny_bind (wpAny_mono h₁' (fun _ s₂ h₂ => ?_) fun _ _ h' => h'.elim)
    refine wpAny_bind (wpAny_mono (wpAny_tests_one h₂) (fun ok s₃ h₃ => ?_) fun _ _ h' => h'.elim)
    obtain ⟨rfl, h₃⟩ := h₃
    simp only [Bool.false_eq_true, if_false]
    exact wpAny_pure ⟨rfl, h₃⟩
inductive NoneJ (s₁ : Shared) (vs : List Value) (I ax C Dd : Addr) (k : Nat) (s' : Shared) : Prop
  | mk (h : Heap) (tk i : Nat) (mC : Str → Option Value) (e : s' = { s₁ with heap := h, toks := tk }) (hi : i ≤ vs.length) (hk : k = vs.length + 1 - i) (st : Stays s₁.heap h) (it : h.IsListIter I ax i) (n : h.Ns C mC) (d : h.get? Dd = some (LCg.lst []))
/-- a filter that lets nothing through -/
theorem none_blk {elt t0 iter0 c : Expr} {x : Str} {p5 : Pos} {scope : Scope} {cl : List (Str × Addr)} {pos : Pos} {s₁ : Shared} {ax : Addr} {vs : List Value} {lits : List (Addr × Obj)} {RR : Value → Addr → Result → Shared → Prop}
    (ht0 : t0 = .Name x p5) (hh : A.handled = none) (hcell : ∀ y ∈ scope.names, y.2 ≠ .cell) (hkind : scope.kind = .function) (hx : scope.names.lookup x = some .local)
    (F : Fr h₀ L s₁.heap m) (N : News h₀ L s₁.heap lits) (hl : s₁.heap.IsList ax vs.toArray)
    (test : ∀ I C Dd h h₂ tk oI oC mC v, v ∈ vs → CmpIn h₀ L m s₁.heap I C Dd h [] → ElAt h₀ L m I C Dd h h₂ [] lits oI oC mC → mC x = some v → wpAny (model prog w) A (isTrue c (compEnvC scope cl C env) (eval c (compEnvC scope cl C env)))
      (fun ok s' => ok = false ∧ ∃ h' tk', s' = { s₁ with heap := h', toks := tk' } ∧ ∀ a o, h₂.get? a = some o → h'.get? a = some o) (fun _ _ => False) { s₁ with heap := h₂, toks := tk })
    (hRR : ∀ (Dd C : Addr) (h : Heap) (tk : Nat) (mC : Str → Option Value), C ≠ Dd → s₁.heap.get? C = none → s₁.heap.get? Dd = none → h.get? Dd = some (LCg.lst []) → h.Ns C mC → (∀ a o, s₁.heap.get? a = some o → h.get? a = some o) →
      RR (.ref Dd) C (.ok .next) { s₁ with heap := h, toks := tk }) :
    wpAny (model prog w) A (pyIter (.ref ax)) (fun it s₂ => wpAny (model prog w) A (newList []) (fun acc s₃ => wpAny (model prog w) A (newFunctionEnv scope env.globals cl [] env.qual none .none (some env)) (fun cenv s₄ =>
      codeAny (model prog w) A (.compStart (.ListComp elt [⟨t0, iter0, [c], 0⟩] scope pos) 0 it acc { cenv with scope := relabel scope env }) (RR acc cenv.locals) s₄) E s₃) E s₂) E s₁ := by
  subst ht0
  refine open_blk hcell hkind hl fun I Dd C h₁ tk₁ O => ?_
  refine @by_no _ fun hNo9 => ?_
  obtain ⟨mC₁, hID, hIC, hCD, nI, nD, nC, old, itI, hacc, hns₁⟩ := O
  have n0 : ∀ {a : Addr}, s₁.heap.get? a = none → h₀.get? a = none := fun e => keep_none F.keep e
  obtain ⟨oL, eL, _⟩ := LCg.ns_obj F.ns
  have nL : ∀ {a : Addr}, s₁.heap.get? a = none → a ≠ L := fun e => some_ne e eL
  have lkp : ∀ {h : Heap} {a : Addr} {items : Array Value}, Stays s₁.heap h → s₁.heap.IsList a items → h.IsList a items := fun k l => isList_keep l fun oo e => k _ oo e
  have loop : ∀ s₃ : Shared, (∃ tk, s₃ = { s₁ with heap := h₁, toks := tk }) →
      codeAny (model prog w) A (.compLoop (.ListComp elt [⟨.Name x p5, iter0, [c], 0⟩] scope pos) 0 (.ref I) (.ref Dd) (compEnvC scope cl C env)) (RR (.ref Dd) C) s₃ := by
    rintro s₃ ⟨tk₀, rfl⟩
    refine turnF_any
      (NoneJ s₁ vs I ax C Dd)
      ?_ (vs.length + 1) ⟨h₁, tk₀, 0, _, rfl, Nat.zero_le _, rfl, old, itI, hns₁, hacc⟩
    intro k s' ri30
    refine @by_no _ fun hNo9 => ?_
    obtain ⟨h, tk, i, mC, rfl, hi, rfl, hk, hit, hn, hD⟩ := ri30
    refine hNo9 ?_
    clear hNo9
    by_cases hlt : i < vs.length
    · refine wpAny_pyNext_list_item hit (lkp hk hl) (x := vs[i]) (by simp [hlt]) fun h2 hit2 hs2 => ?_
      dsimp only
      refine wpAny_pure ?_
      have k2 : Stays s₁.heap h2 := fun a oo e => hs2.extBut a oo (Ne.symm (some_ne nI e)) (hk a oo e)
      have hn2 := hn.sameBut hs2 (Ne.symm hIC)
      have hD2 := hs2.extBut _ _ (Ne.symm hID) hD
      have X : CmpIn h₀ L m s₁.heap I C Dd h2 [] := ⟨F.keeps k2, fun a o _ e => k2 a o e, ⟨_, hn2⟩, .inl ⟨_, _, hit2⟩, hD2, nL nI, nL nC, nL nD, Ne.symm hIC, Ne.symm hID, hCD, n0 nI, n0 nC, n0 nD, nI, nC, nD⟩
      refine wpAny_assign_Name (wpAny_storeName_local (lookup_relabel_local hx) hn2 (fun h3 hn3 hs3 => ?_) (by simp [compEnvC, relabel, hkind]))
      obtain ⟨oI, oC, Z⟩ := elAt_of X N (fun a o ha e => hs3.extBut a o ha e) hn3
      refine wpAny_mono (test I C Dd h2 h3 _ oI oC _ vs[i] (List.getElem_mem hlt) X Z (by simp)) (fun ok s₄ h₄ => ?_) fun _ _ e => e
      refine @by_no _ fun hNo9 => ?_
      obtain ⟨rfl, h', tk', rfl, k'⟩ := h₄
      refine hNo9 ?_
      clear hNo9
      refine ⟨rfl, vs.length + 1 - (i + 1), by omega, h', tk', i + 1, _, rfl, hlt, rfl, fun a oo e => k' a oo (hs3.extBut a oo (Ne.symm (some_ne nC e)) (k2 a oo e)), hit2.at fun oo e => k' _ oo (hs3.extBut _ oo hIC e), hn3.at' fun oo e => k' _ oo e, k' _ _ (hs3.extBut _ _ (Ne.symm hCD) hD2)⟩
    · obtain rfl : i = vs.length := by omega
      refine wpAny_pyNext_list_end hh hit (lkp hk hl) (by simp) fun h2 hs2 => ?_
      dsimp only
      exact hRR Dd C h2 _ _ hCD nC nD (hs2 _ _ (Ne.symm hID) hD) (hn.at' fun oo e => hs2 _ oo (Ne.symm hIC) e) (fun a oo e => hs2 a oo (Ne.symm (some_ne nI e)) (hk a oo e))
  refine hNo9 ?_
  clear hNo9
  exact codeAny_compStart_list (loop _ ⟨_, rfl⟩) (wpAny_pyIter_listiter itI (loop _ ⟨_, rfl⟩))
theorem eval_none {elt iter0 c : Expr} {x : Str} {p5 : Pos} {scope : Scope} {cl : List (Str × Addr)} {pos : Pos} {Q : Value → Shared → Prop} (_F : Fr h₀ L s.heap m)
    (hclos : closureFor scope env = pure cl) (hcell : ∀ y ∈ scope.names, y.2 ≠ .cell) (hkind : scope.kind = .function) (hnames : ∀ y ∈ scope.names, y.2 = .local → scope.names.lookup y.1 = some .local)
    (hh : A.handled = none) (hx : scope.names.lookup x = some .local)
    (h : wpAny (model prog w) A (eval iter0 env) (fun xv s₁ => ∃ ax vs lits, xv = .ref ax ∧ s₁.heap.IsList ax (List.toArray vs) ∧ Fr h₀ L s₁.heap m ∧ News h₀ L s₁.heap lits ∧
      (∀ I C Dd h h₂ tk oI oC mC v, v ∈ vs → CmpIn h₀ L m s₁.heap I C Dd h [] → ElAt h₀ L m I C Dd h h₂ [] lits oI oC mC → mC x = some v → wpAny (model prog w) A (isTrue c (compEnvC scope cl C env) (eval c (compEnvC scope cl C env)))
        (fun ok s' => ok = false ∧ ∃ h' tk', s' = { s₁ with heap := h', toks := tk' } ∧ ∀ a o, h₂.get? a = some o → h'.get? a = some o) (fun _ _ => False) { s₁ with heap := h₂, toks := tk }) ∧
      ∀ Dd h tk, CompOut (fun _ => True) h₀ L m s₁.heap Dd h [] [] → Q (.ref Dd) { s₁ with heap := h, toks := tk }) E s)
    (hs : ∀ x, foldedSetIterable iter0 env x = pure x := by intro _; rfl) :
    wpAny (model prog w) A (eval (.ListComp elt [⟨.Name x p5, iter0, [c], 0⟩] scope pos) env) Q E s := by
  rw [eval_ListComp]
  refine wpAny_comprehension_free (use := none) rfl hs hclos hkind hnames (wpAny_mono h (fun xv s₁ S => ?_) fun _ _ e => e)
  refine @by_no _ fun hNo9 => ?_
  obtain ⟨ax, vs, lits, rfl, hl, F, N, test, fin⟩ := S
  refine hNo9 ?_
  clear hNo9
  refine none_blk (RR := fun acc C => compPost (model prog w) A E none Q acc C) rfl hh hcell hkind hx F N hl test ?_
  intro Dd C h tk mC hCD hCs hDs hD hn hk
  refine ⟨mC, hn, fun h'' hs'' => ?_⟩
  have n0 : ∀ {a : Addr}, s₁.heap.get? a = none → h₀.get? a = none := fun e => keep_none F.keep e
  obtain ⟨oL, eL, _⟩ := LCg.ns_obj F.ns
  have nL : ∀ {a : Addr}, s₁.heap.get? a = none → a ≠ L := fun e => some_ne e eL
  have nC : ∀ {a : Addr} {o : Obj}, s₁.heap.get? a = some o → a ≠ C := fun e => Ne.symm (some_ne hCs e)
  have F' : Fr h₀ L h m := F.keeps hk
  exact fin Dd h'' tk ⟨F'.change hs'' (nL hCs) (n0 hCs), hs''.extBut _ _ (Ne.symm hCD) hD, hDs, n0 hDs, nL hDs, fun a o _ e => hs''.extBut _ _ (nC e) (hk a o e), .nil⟩
end

theorem begin_L5 : True := by
  w_on
  w_top off
  k_with_none
  k_with "om" => (law_clear; first | with_reducible assumption | (law_purse 20000 => grind))
  k_with "guard" => skip
  trivial
set_option maxHeartbeats 4000000
theorem kw_L5_1 : True := by
  k_with_none
  k_with "om" => (law_clear; first | with_reducible assumption | (law_purse 20000 => grind))
  k_with "eval BinOp" => (k_here; (with_reducible show wpAny _ _ (eval (Expr.BinOp (Expr.Name _ _) _ (Expr.Constant (Const.int _) _ _) _) _) _ _ _); k_dflt (refine binNC (by k_asm) (by rfl) ?_ (by rfl) (by rfl) (by decide)); (try dsimp only))
  k_with "eval BinOp" => (k_here; (with_reducible show wpAny _ _ (eval (Expr.BinOp (Expr.Name _ _) _ (Expr.Name _ _) _) _) _ _ _); k_dflt (refine binNN (by k_asm) (by rfl) (by rfl) ?_ (by rfl) (by rfl) (by rfl) (by decide) (by decide)); (try dsimp only))
  k_with "isTrue Compare" => (k_here; (with_reducible show wpAny _ _ (isTrue (Expr.Compare (Expr.Name _ _) [_] [Expr.Constant (Const.int _) _ _] _) _ _) _ _ _); k_dflt (refine isNC (by k_asm) (by rfl) ?_ (by rfl) (by rfl) (by decide) (by with_unfolding_all rfl)); (try dsimp only))
  k_with "guard" => ((fail_if_success (with_reducible show Exists _)); (fail_if_success (with_reducible show wpAny _ _ (pyIter _) _ _ _)); (fail_if_success (with_reducible show wpAny _ _ (exec (Stmt.For _ _ _ _ _) _) _ _ _)); (fail_if_success (with_reducible show wpAny _ _ (exec (Stmt.While _ _ _ _) _) _ _ _)); (fail_if_success (with_reducible show wpAny _ _ (eval (Expr.ListComp _ _ _ _) _) _ _ _)); (fail_if_success (with_reducible show wpAny _ _ (exec (Stmt.Assign _ (Expr.ListComp _ _ _ _) _) _) _ _ _)); (fail_if_success (with_reducible show wpAny _ _ (call (Value.ref 206) _ _) _ _ _)); (fail_if_success (with_reducible show wpAny _ _ (call (Value.ref 213) _ _) _ _ _)); (fail_if_success (with_reducible show wpAny _ _ (call (Value.ref 47) _ _) _ _ _)); (fail_if_success (with_reducible show wpAny _ _ (call (Value.ref 234) _ _) _ _ _)); (fail_if_success (with_reducible show wpAny _ _ (call (Value.ref 227) _ _) _ _ _)); (fail_if_success (with_reducible show wpAny _ _ (call (Value.ref 241) _ _) _ _ _)); (fail_if_success (with_reducible show wpAny _ _ (call (Value.ref 246) _ _) _ _ _)); (fail_if_success (with_reducible show wpAny _ _ (compareOp CmpOp.NotEq (Value.ref _) (Value.ref _)) _ _ _)); (fail_if_success (with_reducible show ElEnd _ _ _ _ _ _ _ _ _ _ _ _ _)); (fail_if_success (with_reducible show CSrc _ _ _ _ _ _ _ _ _ _ _ _ _ _ _ _)))
  k_with "eval Name" => (k_here; (with_reducible show wpAny _ _ (eval (Expr.Name _ _) (envOfC _ _ _ _ _)) _ _ _); k_dflt (refine name_B (by k_asm) (by k_asm) (by k_asm) (by k_is) (by boot_by_name) (by decide) ?_))
  k_with "call builtin:sum" => ((k_here; (with_reducible show wpAny _ _ (call (Value.builtin "sum") [Value.ref _]) _ _ _); k_dflt (refine sum_any (by k_asm) (by k_asm) (by rfl) (by is_list) (by assumption) ?_); intro h' tk' t' F' N'); (try (revert h' tk' t' F' N'; intros)))
  k_with "call type:list" => ((k_here; (with_reducible show wpAny _ _ (call (Value.type "list") [Value.bytes _ _]) _ _ _); k_dflt (refine list_bytes (by k_asm) (by k_asm) (by rfl) _ _ _ (by exact rfl) (by (rw [sizeLine_eq]; first | decide | exact Nat.le_of_ble_eq_true rfl)) ?_; k_whole); intro D' h' tk' vs' c' hLn' hI' F' N' l1; (try simp only [List.size_toArray, List.length_cons, List.length_nil] at hLn'); (try k_lt l1)); (try (revert D' h' tk' vs' c' hLn' hI' F' N' l1; intros)))
  k_with "binaryOp Add ref ref" => ((k_here; (with_reducible show wpAny _ _ (binaryOp _ (Value.ref _) (Value.ref _)) _ _ _); k_dflt (refine kmk_add_lit (by k_asm) (by k_asm) (by is_list) (by is_list) (by exact rfl) ?_ (by (simp only [sizeLine_eq, List.toList_toArray, List.length_cons, List.length_nil]; omega))); intro D' h' F' N' l1; (try k_lt l1); (try k_sweep); (try simp only [List.toList_toArray] at N')); (try (revert D' h' F' N' l1; intros)))
  k_with "subscriptTail" => (k_here; (with_reducible show wpAny _ _ (subscriptTail _ _ (Value.ref _) (Value.int _ _)) _ _ _); (refine item_at (by assumption) (by is_list) (by assumption) ?_); (try dsimp only))
  k_with "call type:bytes" => ((k_here; (with_reducible show wpAny _ _ (call (Value.type "bytes") [Value.ref _]) _ _ _); k_dflt (refine KBa.make_K (by k_asm) (by k_asm) (by rfl) (by first | assumption | is_list) (by assumption) (by assumption) (by omega) ?_); intro h' t' k' F' N' hr'); (try (revert h' t' k' F' N' hr'; intros)))
  trivial
theorem list_keepO {h h' : Heap} {a : Addr} {items : Array Value} (k : ∀ a o, KeepO o → h.get? a = some o → h'.get? a = some o) (l : h.IsList a items) : h'.IsList a items := by
  obtain ⟨o, ho, hc, n, hd⟩ := l
  exact ⟨o, k _ _ ⟨fun es ep e => by (rw [hd] at e; cases e), fun l i e => by (rw [hd] at e; cases e)⟩ ho, hc, n, hd⟩
mutual
theorem Rep.keepO {P : Addr → Prop} {h h' : Heap} (k : ∀ a o, KeepO o → h.get? a = some o → h'.get? a = some o) : ∀ {v : Value} {d : D}, Rep P h v d → Rep P h' v d
  | _, _, .int i t => .int i t
  | _, _, .byt t e => .byt t e
  | _, _, .lst p l r => .lst p (list_keepO k l) (Reps.keepO k r)
theorem Reps.keepO {P : Addr → Prop} {h h' : Heap} (k : ∀ a o, KeepO o → h.get? a = some o → h'.get? a = some o) : ∀ {vs : List Value} {ds : List D}, Reps P h vs ds → Reps P h' vs ds
  | _, _, .nil => .nil
  | _, _, .cons x r => .cons (Rep.keepO k x) (Reps.keepO k r)
end
theorem rep_fresh {P : Addr → Prop} {h : Heap} {v : Value} {d : D} {b : Addr} (r : Rep P h v d) (e : h.get? b = none) : Rep (fun a => P a ∧ a ≠ b) h v d := r.there.weaken fun a p => ⟨p.1, fun q => by
  have := p.2
  rw [q, e] at this; cases this⟩
/-- the state of the laying fold -/
structure LayJ (x y : Int) (pcs : List Pcs) (es : List Value) (noa : Addr) (fixed : List (Addr × Obj)) (i : Nat) (h : Heap) (v : Value) : Prop where
  fix : ∀ p ∈ fixed, h.get? p.1 = some p.2
  giv : Reps (fun a => a ≠ noa) h es (pcs.map (givenD x y))
  val : Rep (fun a => a ≠ noa) h v (toldD x y (stR pcs i))
  noted : ∃ nv nn, h.get? noa = some (W.listOf (List.toArray nv) nn) ∧ Reps (fun a => a ≠ noa) h nv ((List.range i).map fun j => toldD x y (stR pcs (j + 1)))
theorem LayJ.mono {x y : Int} {pcs : List Pcs} {es : List Value} {noa : Addr} {fixed : List (Addr × Obj)} {i : Nat} {h h' : Heap} {v : Value} (hf : ∀ p ∈ fixed, KeepO p.2) (J : LayJ x y pcs es noa fixed i h v) (k : ∀ a o, KeepO o → h.get? a = some o → h'.get? a = some o) : LayJ x y pcs es noa fixed i h' v := by
  obtain ⟨nv, nn, e, r⟩ := J.noted
  exact ⟨fun p hp => k _ _ (hf p hp) (J.fix p hp), J.giv.keepO k, J.val.keepO k, nv, nn, k _ _ ⟨nofun, nofun⟩ e, r.keepO k⟩
noncomputable abbrev objOf {h : Heap} {a : Addr} {o : Obj} (_ : h.get? a = some o) : Obj := o
theorem allLt_mem {d : Nat} : ∀ {l : List (Addr × Obj)}, AllLt d l → ∀ p ∈ l, @LT.lt Nat _ p.1 d
  | [], _, _, hp => nomatch hp
  | _ :: _, h, p, hp => by
    rcases List.mem_cons.mp hp with rfl | hp
    · exact h.1
    · exact allLt_mem h.2 p hp
theorem fresh_led {g h : Heap} {L a : Addr} {lits : List Addr} {led : List (Addr × Obj)} (B : Base g L lits h led) (hg : g.get? a = none) (hL : a ≠ L) (hl : a ∉ lits) (hA : AllLt a led) : h.get? a = none := by
  cases e : h.get? a with
  | none => rfl
  | some o => exact absurd (allLt_mem hA _ (B.full a o e hL hl hg)) (Nat.lt_irrefl _)
theorem kw_L5_2 : True := by
  k_with "eval Name" => (k_here; (with_reducible show wpAny _ _ (eval (Expr.Name _ _) (envX _ _ _ _ _ _)) _ _ _); k_dflt (refine name_free (by k_asm) (by rfl) (by assumption) (by assumption) ?_ (by rfl) (by rfl)))
  trivial
theorem st_noted {s0 : Heap} {toks : Nat} {Q : Flow → Shared → Prop}
    (X : (hd.heap_1 w.params).In g) (T : Top p loose mean mg mb g) (hdp : dp + 40 < recursionLimit) (hun : un + 8 * 40 < cLine) (h48 : @LT.lt Nat _ 248 L) (sa na pa fra lea ga : Addr) (to fi ca pb : Value)
    (S : LawAt g L s0 (lawM (some (.ref sa)) (some (.ref na)) (some (.ref pa)) (some (to)) (some (.ref fra)) (some (fi)) (some (.ref lea)) (some (.ref ga)) none none none none none none none none none none) (some ca) none (some pb) none none #[])
    (h : ∀ h' tk' noa, LawAt g L h' (lawM (some (.ref sa)) (some (.ref na)) (some (.ref pa)) (some (to)) (some (.ref fra)) (some (fi)) (some (.ref lea)) (some (.ref ga)) none none none none none none none none none none) (some ca) (some (.ref noa)) (some pb) none none #[] → g.get? noa = none → s0.get? noa = none → h'.get? noa = some (W.listOf #[] 0) → Kept (PP L) s0 h' → Q .next ⟨h', gens, drawn, tk', os⟩) :
    wpAny (model PySem.Challenge.rw_qh0094_01.row.prog w) (Ar dp un fr gd) (exec (lawBody.getD 10 (.Pass default)) (lawEnv L fa)) Q E ⟨s0, gens, drawn, toks, os⟩ := by
  show wpAny _ _ (exec (Stmt.Assign _ _ _) (envOfC _ lawScope _ _ _)) _ _ _
  conv in lawScope => whnf
  refine @by_no _ fun hNo9 => ?_
  obtain ⟨ow, ot, op, on, oa, F, N, d1, d2, d3, d4, d5⟩ := S
  refine hNo9 ?_
  clear hNo9
  revert X; k_fill; intro X
  obtain ⟨led, hBN⟩ := base_of F N
  have own := hBN.2.1
  have N := hBN.1
  simp only [List.cons_append, List.nil_append] at N
  k_steps
  rename Fr _ _ _ _ => F1
  rename News _ _ _ _ => N1
  have hA := (by assumption : _ ∧ _ ∧ _ ∧ _ ∧ _ ∧ _ ∧ AllLt _ led)
  rename _ = Data.cell (some (Value.ref _)) => d9
  have z := N1 _ (.head _)
  refine h _ _ _ ⟨ow, ot, op, _, oa, F1, fun p hp => N1 p ?nw, d1, d2, d3, d9, d5⟩ z.2.2 (fresh_led hBN.2.2 z.2.2 z.2.1 ?nl hA.2.2.2.2.2.2) z.1 (fun a o q _ e => hBN.2.2.get e q.1 q.2 F1 N1 ?kb)
  case nw =>
    simp only [List.mem_cons, List.not_mem_nil, or_false] at hp ⊢
    rcases hp with rfl | rfl | rfl | rfl | rfl | rfl <;> simp only [true_or, or_true]
  case nl =>
    simp only [List.map_cons, List.map_nil, List.mem_cons, List.not_mem_nil, or_false, not_or]
    exact ⟨Nat.ne_of_gt hA.1, Nat.ne_of_gt hA.2.1, Nat.ne_of_gt hA.2.2.1, Nat.ne_of_gt hA.2.2.2.1, Nat.ne_of_gt hA.2.2.2.2.1, Nat.ne_of_gt hA.2.2.2.2.2.1⟩
  case kb => intro p hp; simp only [List.mem_cons, hp, or_true]
theorem st_pile {s0 : Heap} {toks : Nat} {Q : Flow → Shared → Prop}
    (X : (hd.heap_1 w.params).In g) (T : Top p loose mean mg mb g) (hdp : dp + 40 < recursionLimit) (hun : un + 8 * 40 < cLine) (h48 : @LT.lt Nat _ 248 L) (C : CodeHd g 250 248) (sa na pa fra lea ga aa noa : Addr) (to fi : Value) (ux uy : UInt8) (tp : Tok) (pok : PairOk ux.toNat uy.toNat) (pcs : List Pcs) (hpc : ∀ q ∈ pcs, PcOk q) (hpl : pcs.length ≤ 100) (htot : totP pcs ≤ 100)
    (hg : Rep (fun a => PP L a ∧ a ≠ noa) s0 (.ref ga) (.lst (pcs.map (givenD ux.toNat uy.toNat)))) (hng : g.get? noa = none) (hn : s0.get? noa = some (W.listOf #[] 0))
    (S : LawAt g L s0 (lawM (some (.ref sa)) (some (.ref na)) (some (.ref pa)) (some (to)) (some (.ref fra)) (some (fi)) (some (.ref lea)) (some (.ref ga)) none none none none none none none none none none) (some (.ref aa)) (some (.ref noa)) (some (.bytes #[ux, uy] tp)) none none #[])
    (h : ∀ h' tk' pia nv nn c1, LawAt g L h' (lawM (some (.ref sa)) (some (.ref na)) (some (.ref pa)) (some (to)) (some (.ref fra)) (some (fi)) (some (.ref lea)) (some (.ref ga)) (some (.ref pia)) none none none none none none none none none) (some (.ref aa)) (some (.ref noa)) (some (.bytes #[ux, uy] tp)) none none (#[] ++ #[rawInt 293, rawInt 0, .ref c1]) →
      Rep (fun a => a ≠ noa) h' (.ref pia) (toldD ux.toNat uy.toNat (stR pcs pcs.length)) → h'.get? noa = some (W.listOf (List.toArray nv) nn) → Reps (fun a => a ≠ noa) h' nv ((List.range pcs.length).map fun j => toldD ux.toNat uy.toNat (stR pcs (j + 1))) →
      Kept (fun a => PP L a ∧ a ≠ noa) s0 h' → Q .next ⟨h', gens, drawn, tk', os⟩) :
    wpAny (model PySem.Challenge.rw_qh0094_01.row.prog w) (Ar dp un fr gd) (exec (lawBody.getD 11 (.Pass default)) (lawEnv L fa)) Q E ⟨s0, gens, drawn, toks, os⟩ := by
  show wpAny _ _ (exec (Stmt.Assign _ _ _) (envOfC _ lawScope _ _ _)) _ _ _
  have hnoP := S.pp noa _ ⟨_, hn, rfl, _, rfl⟩
  conv in lawScope => whnf
  refine @by_no _ fun hNo9 => ?_
  obtain ⟨ow, ot, op, on, oa, F, N, d1, d2, d3, d4, d5⟩ := S
  refine hNo9 ?_
  clear hNo9
  revert X; k_fill; intro X
  refine @by_no _ fun hNo9 => ?_
  obtain ⟨_, gv, e, hgp, lga, hgr⟩ := hg.list_inv
  cases e
  have hglen : gv.length = pcs.length := by rw [hgr.length]; simp
  obtain ⟨led, hBN⟩ := base_of F N
  have own := hBN.2.1
  have N := hBN.1
  simp only [List.cons_append, List.nil_append] at N
  refine hNo9 ?_
  clear hNo9
  k_steps
  rename Fr _ _ _ _ => F2
  rename News _ _ _ _ => N2
  rename_i fl c1 oc1 vs1 t1 ct1 hA tkA dA dB lA lB D1 hB lC
  obtain ⟨h2e, hh2⟩ : ∃ h2e, h2e = heapOfFr F2 := ⟨_, rfl⟩
  dsimp only [heapOfFr] at hh2
  have kp0 : Kept (PP L) s0 h2e := fun a o q _ e => by rw [hh2]; exact hBN.2.2.get e q.1 q.2 F2 N2 (fun p hp => by simp only [List.mem_cons, hp, or_true])
  have kpA : ∀ a o, a ≠ L → a ∉ [(L + 1 + 1 + 1 + 1 + 1, ow), (L + 1 + 1 + 1 + 1, ot), (L + 1 + 1 + 1, op), (L + 1 + 1, on), (L + 1, oa), (248, tabObj #[])].map (·.1) → s0.get? a = some o → h2e.get? a = some o := fun a o q1 q2 e => by rw [hh2]; exact hBN.2.2.get e q1 q2 F2 N2 (fun p hp => by simp only [List.mem_cons, hp, or_true])
  rw [← hh2] at F2 N2 ⊢
  clear hh2
  have hn2 : h2e.get? noa = some (W.listOf #[] 0) := kpA _ _ hnoP.1 hnoP.2 hn
  have hgr2 : Reps (fun a => PP L a ∧ a ≠ noa) h2e gv (pcs.map (givenD ux.toNat uy.toNat)) := hgr.kept fun a o q c e => kp0 a o q.1 c e
  have lga2 : h2e.IsList ga gv.toArray := kp0.list hgp.1 lga
  have lD2 := News.isList N2 (.head _)
  have hgnoa : ∀ {a : Addr} {o : Obj}, h2e.get? a = some o → a ≠ L → (∀ its n, o.data ≠ .seq its n) → a ≠ noa := fun e _ hd q => by
    rw [q, hn2] at e; cases e; exact hd _ _ rfl
  have hcl : ∀ p : Addr × Obj, p ∈ [(L + 1 + 1 + 1 + 1 + 1, ow), (L + 1 + 1 + 1 + 1, ot), (L + 1 + 1 + 1, op), (L + 1 + 1, on), (L + 1, oa), (248, tabObj (#[] ++ #[rawInt 293, rawInt 0, Value.ref c1]))] → h2e.get? p.1 = some p.2 ∧ p.1 ≠ L ∧ g.get? p.1 = none := fun p hp => N2 p (.tail _ (.tail _ (.tail _ (List.mem_append_left led hp))))
  have hDno : D1 ≠ noa := by
    intro q
    have z := N2 _ (.head _)
    have hf := fresh_led hBN.2.2 z.2.2 z.2.1 (by
      simp only [List.map_cons, List.map_nil, List.mem_cons, List.not_mem_nil, or_false, not_or]
      exact ⟨Nat.ne_of_gt lC.2.2.1, Nat.ne_of_gt lC.2.2.2.1, Nat.ne_of_gt lC.2.2.2.2.1, Nat.ne_of_gt lC.2.2.2.2.2.1, Nat.ne_of_gt lC.2.2.2.2.2.2.1, Nat.ne_of_gt lC.2.2.2.2.2.2.2.1⟩) lC.2.2.2.2.2.2.2.2
    rw [q, hn] at hf; cases hf
  have hfl := (N2 _ (.tail _ (.head _))).1
  have hflL := (N2 _ (.tail _ (.head _))).2.1
  have hc1 := (N2 _ (.tail _ (.tail _ (.head _)))).1
  have hc1L := (N2 _ (.tail _ (.tail _ (.head _)))).2.1
  obtain ⟨lo, hlo⟩ : ∃ lo, lo = objOf hfl := ⟨_, rfl⟩
  have hfl2 : h2e.get? fl = some lo := by rw [hlo]; exact hfl
  dsimp only [objOf] at hlo
  k_dflt (refine' use_specN (sp_reduce3 fl ga D1 noa (W.listOf #[] 0) gv ?sa [] ?va ?vn 11 (LayJ ux.toNat uy.toNat pcs gv noa [(fl, lo), (c1, oc1), (L + 1 + 1, on), (L + 1 + 1 + 1, op)]) ?mono ?fn ?step) X T ?st hng ?pre ?hd ?hu ?_; (case pre => exact ⟨hn2, lga2, lD2, ⟨List.forall_mem_cons.mpr ⟨hfl2, List.forall_mem_cons.mpr ⟨(N2 _ (.tail _ (.tail _ (.head _)))).1, List.forall_mem_cons.mpr ⟨(hcl (L + 1 + 1, on) (.tail _ (.tail _ (.tail _ (.head _))))).1, List.forall_mem_cons.mpr ⟨(hcl (L + 1 + 1 + 1, op) (.tail _ (.tail _ (.head _)))).1, List.forall_mem_nil _⟩⟩⟩⟩, hgr2.weaken fun a p => p.2, .lst hDno lD2 .nil, [], 0, hn2, .nil⟩⟩))
  case sa => exact hgp.2
  case va => omega
  case vn => exact hDno
  case st => exact F2.keep
  case hd => omega
  case hu => omega
  case mono =>
    intro i h h' v J k
    refine J.mono (fun p hp => ?_) k
    simp only [List.mem_cons, List.not_mem_nil, or_false] at hp
    rcases hp with rfl | rfl | rfl | rfl
    · rw [hlo]
      exact ⟨fun es ep e => by (cases e), fun l i e => by (cases e)⟩
    · exact ⟨fun es ep e => by (rw [dA] at e; cases e), fun l i e => by
        rw [dA] at e
        injection e with e
        rw [e] at dB
        cases dB⟩
    · exact ⟨fun es ep e => by (rw [d4] at e; cases e), fun l i e => by (rw [d4] at e; cases e)⟩
    · exact ⟨fun es ep e => by (rw [d3] at e; cases e), fun l i e => by (rw [d3] at e; cases e)⟩
  case fn =>
    intro i h v J
    have z := J.fix _ (.head _)
    rw [hlo] at z
    exact ⟨_, _, _, _, z⟩
  case step =>
    intro i e v hie
    intro dp2 un2 fr2 gd2 hs2 gens2 drawn2 toks2 os2 Q2 E2 hb2 X2 T2 st2 hn3 J2 hd2 hu2 hret2
    refine @by_no _ fun hNo9 => ?_
    try dsimp only at J2 hret2
    obtain ⟨jf, jg, jv, nv, nn, jn, jr⟩ := J2
    have z := jf _ (.head _)
    rw [hlo] at z
    refine hNo9 ?_
    clear hNo9
    k_dflt (refine' enter_lamN X2 T2 st2 hn3 jn z ?hcd ?k8 ?k9 ?kB ?_ ?c2 ?c3 ?c4 ?c5; (case hcd => exact ⟨_, oc1, vs1, t1, rfl, jf _ (.tail _ (.head _)), dA, dB⟩); (case k8 => (show dp2 < _; omega)); (case k9 => exact rfl); (case kB => exact locs rfl); (case c2 => exact rfl); (case c3 => exact rfl); (case c4 => exact rfl); (case c5 => decide))
    intro g2 L2 h2 tk2 X3 T3 hg2 F3 N3 hg3
    dsimp only at hg2 F3 N3 hg3 ⊢
    refine @by_no _ fun hNo9 => ?_
    clear F2 N2 X T
    have hi : i < pcs.length := by rw [← hglen]; exact (List.getElem?_eq_some_iff.mp hie).1
    obtain ⟨q, hq⟩ : ∃ q, pcs[i]? = some q := ⟨_, List.getElem?_eq_getElem hi⟩
    have hqm := List.mem_of_getElem? hq
    have hqo := hpc q hqm
    obtain ⟨v', e', R9⟩ := jg.get i (.int 0) (by rw [List.length_map]; exact hi)
    cases hie.symm.trans e'
    rw [List.getD_eq_getElem?_getD, List.getElem?_map, hq] at R9
    replace R9 : Rep _ hs2 e (.lst [.int q.1, .byt (wrK ux.toNat uy.toNat q.1 q.2.1), .int q.2.2]) := R9
    obtain ⟨t4, tvs, rfl, pt, lt4, R9⟩ := R9.list_inv
    obtain ⟨_, _, rfl, ri, R9⟩ := R9.cons_inv
    obtain ⟨_, _, rfl, rb, R9⟩ := R9.cons_inv
    obtain ⟨_, _, rfl, rj, R9⟩ := R9.cons_inv
    obtain rfl := R9.nil_inv
    obtain ⟨tw, rfl⟩ := ri.int_inv
    obtain ⟨tj, rfl⟩ := rj.int_inv
    obtain ⟨bb, tb, rfl, hbb⟩ := rb.byt_inv
    rw [toldD_enc] at jv
    obtain ⟨lv, lvs, rfl, plv, llv, rlv⟩ := jv.list_inv
    have onno : L + 1 + 1 ≠ noa := hgnoa (hcl (L + 1 + 1, on) (.tail _ (.tail _ (.tail _ (.head _))))).1 (hcl (L + 1 + 1, on) (.tail _ (.tail _ (.tail _ (.head _))))).2.1 (cell_no_seq d4)
    have opno : L + 1 + 1 + 1 ≠ noa := hgnoa (hcl (L + 1 + 1 + 1, op) (.tail _ (.tail _ (.head _)))).1 (hcl (L + 1 + 1 + 1, op) (.tail _ (.tail _ (.head _)))).2.1 (cell_no_seq d3)
    have gon : g2.get? (L + 1 + 1) = some on := hg2 _ _ onno (jf _ (.tail _ (.tail _ (.head _))))
    have gop : g2.get? (L + 1 + 1 + 1) = some op := hg2 _ _ opno (jf _ (.tail _ (.tail _ (.tail _ (.head _)))))
    refine hNo9 ?_
    clear hNo9
    k_steps
    rename Fr _ _ _ _ => F4
    rename News _ _ _ _ => N4
    have sok := stR_ok hpc i (by omega)
    have htk := totP_take pcs (i + 1)
    have htk2 : totP (pcs.take (i + 1)) = totP (pcs.take i) + q.2.1.length := by
      unfold totP
      rw [List.take_add_one, hq, List.map_append, List.sum_append]; simp
    have hle := lay_enc pok sok hqo (by omega)
    have hsl := sok.len
    have hnvl : nv.length = i := by rw [jr.length]; simp
    have up : ∀ a o, a ≠ noa → hs2.get? a = some o → h2.get? a = some o := fun a o hne e => F4.keep a o (hg2 a o hne e)
    have kpu : Kept (fun a => a ≠ noa) hs2 h2 := fun a o hne _ e => up a o hne e
    have hn4 := N4 _ (.head _)
    k_dflt (refine' use_specN (sp_lay ux uy tp noa lv t4 nv lvs nn ?z1 plv pt q.1 q.2.2 tw tb tj bb (wrK ux.toNat uy.toNat q.1 q.2.1) hbb ((stR pcs i).map (encP ux.toNat uy.toNat)) ?z4 hqo.j hle.1) X3 T3 ?st3 hn4.2.2 ?pre3 ?hd3 ?hu3 ?_; (case z1 => omega); (case z4 => (rw [List.length_map]; omega)); (case st3 => exact F4.keep); (case pre3 => exact ⟨hn4.1, kpu.list plv llv, rlv.kept kpu, kpu.list pt lt4⟩); (case hd3 => (dsimp only [Around.deeper]; omega)); (case hu3 => (dsimp only [Around.deeper]; omega)))
    intro v6 h6 tk6 k6 hp6
    refine @by_no _ fun hNo9 => ?_
    obtain ⟨a6, n6, rfl, r6, e6⟩ := hp6
    dsimp only at k6
    rw [hle.2, ← stR_succ pcs i q hq] at r6
    have kpv : Kept (fun a => a ≠ noa) hs2 h6 := fun a o hne c e => k6 a o hne (up a o hne e)
    refine hNo9 ?_
    clear hNo9
    refine hret2 _ _ _ (fun b o hne e => k6 b o hne (up b o hne e)) ⟨fun p hp => ?fx, jg.kept kpv, by rw [toldD_enc]; exact r6, nv ++ [.ref a6], n6, e6, ?rp⟩
    case fx =>
      refine k6 _ _ ?_ (up _ _ ?_ (jf p hp))
      all_goals (
        simp only [List.mem_cons, List.not_mem_nil, or_false] at hp
        rcases hp with rfl | rfl | rfl | rfl
        · exact hgnoa hfl hflL (fun its n e => by cases e)
        · exact hgnoa hc1 hc1L (fun its n e => by rw [dA] at e; cases e)
        · exact onno
        · exact opno)
    case rp =>
      rw [List.range_succ, List.map_append]
      exact (jr.kept kpv).append (.one (by show Rep _ _ _ (toldD ux.toNat uy.toNat (stR pcs (i + 1))); rw [toldD_enc]; exact r6))
  intro v' h' tk' kk JJ
  refine @by_no _ fun hNo9 => ?_
  obtain ⟨jf, jg, jv, nv, nn, jn, jr⟩ := JJ
  dsimp only at kk
  have F5 : Fr g L h' _ := ⟨F2.ns.at' fun o e => kk _ o (Ne.symm hnoP.1) e, fun b o e => kk b o (fun q => by rw [q, hng] at e; cases e) (F2.keep b o e), F2.above⟩
  have N5 : News g L h' [(L + 1 + 1 + 1 + 1 + 1, ow), (L + 1 + 1 + 1 + 1, ot), (L + 1 + 1 + 1, op), (L + 1 + 1, on), (L + 1, oa), (248, tabObj (#[] ++ #[rawInt 293, rawInt 0, Value.ref c1]))] := fun p hp => by
    have z := hcl p hp
    have hne : p.1 ≠ noa := by
      have hz := hnoP.2
      simp only [lawL, List.mem_cons, List.not_mem_nil, or_false, not_or] at hz
      simp only [List.mem_cons, List.not_mem_nil, or_false] at hp
      rcases hp with rfl | rfl | rfl | rfl | rfl | rfl
      · exact Ne.symm hz.1
      · exact Ne.symm hz.2.1
      · exact Ne.symm hz.2.2.1
      · exact Ne.symm hz.2.2.2.1
      · exact Ne.symm hz.2.2.2.2.1
      · exact Ne.symm hz.2.2.2.2.2
    exact ⟨kk _ _ hne z.1, z.2⟩
  rw [hglen] at jv jr
  have jv2 := jv
  refine hNo9 ?_
  clear hNo9
  unfold toldD at jv2
  refine @by_no _ fun hNo9 => ?_
  obtain ⟨pia, pvs, rfl, ppi, lpi, rpi⟩ := jv2.list_inv
  obtain ⟨led5, hBN5⟩ := base_of F5 N5
  have N6 := hBN5.1
  simp only [List.cons_append, List.nil_append] at N6
  have npi := list_PP F5 N5 d1 d2 d3 d4 d5 lpi
  have nno := hnoP
  have onP : ∀ a items, h'.IsList a items → PP L a := fun a items l => list_PP F5 N5 d1 d2 d3 d4 d5 l
  clear N5 N2 F2
  refine hNo9 ?_
  clear hNo9
  k_steps
  rename Fr _ _ _ _ => F7
  rename News _ _ _ _ => N7
  have kz : ∀ a o, a ≠ L → a ∉ lawL L → h'.get? a = some o → (heapOfFr F7).get? a = some o := fun a o q1 q2 e => hBN5.2.2.get e q1 q2 F7 N7 (fun p hp => by simp only [List.mem_cons, hp, or_true])
  have kzz : Kept (fun a => PP L a) h' (heapOfFr F7) := fun a o q _ e => kz a o q.1 q.2 e
  refine h _ _ pia nv nn c1 ⟨ow, ot, op, on, oa, Fr.congr F7 lm_pile, fun p hp => N7 p (List.mem_append_left led5 hp), d1, d2, d3, d4, d5⟩ (((jv.onL onP).kept fun a o q c e => kzz a o q.2 c e).weaken fun a p => p.1) (kz _ _ hnoP.1 hnoP.2 jn) (((jr.onL onP).kept fun a o q c e => kzz a o q.2 c e).weaken fun a p => p.1) (fun a o q c e => kz a o q.1.1 q.1.2 (kk a o q.2 (kp0 a o q.1 c e)))

theorem begin_L6 : True := by
  w_on
  w_top off
  k_with_none
  k_with "om" => (law_clear; first | with_reducible assumption | (law_purse 20000 => grind))
  k_with "guard" => skip
  trivial
set_option maxHeartbeats 4000000
theorem kw_L6_1 : True := by
  k_with_none
  k_with "om" => (law_clear; first | with_reducible assumption | (law_purse 20000 => grind))
  k_with "eval BinOp" => (k_here; (with_reducible show wpAny _ _ (eval (Expr.BinOp (Expr.Name _ _) _ (Expr.Constant (Const.int _) _ _) _) _) _ _ _); k_dflt (refine binNC (by k_asm) (by rfl) ?_ (by rfl) (by rfl) (by decide)); (try dsimp only))
  k_with "eval BinOp" => (k_here; (with_reducible show wpAny _ _ (eval (Expr.BinOp (Expr.Name _ _) _ (Expr.Name _ _) _) _) _ _ _); k_dflt (refine binNN (by k_asm) (by rfl) (by rfl) ?_ (by rfl) (by rfl) (by rfl) (by decide) (by decide)); (try dsimp only))
  k_with "isTrue Compare" => (k_here; (with_reducible show wpAny _ _ (isTrue (Expr.Compare (Expr.Name _ _) [_] [Expr.Constant (Const.int _) _ _] _) _ _) _ _ _); k_dflt (refine isNC (by k_asm) (by rfl) ?_ (by rfl) (by rfl) (by decide) (by with_unfolding_all rfl)); (try dsimp only))
  k_with "guard" => ((fail_if_success (with_reducible show Exists _)); (fail_if_success (with_reducible show wpAny _ _ (pyIter _) _ _ _)); (fail_if_success (with_reducible show wpAny _ _ (exec (Stmt.For _ _ _ _ _) _) _ _ _)); (fail_if_success (with_reducible show wpAny _ _ (exec (Stmt.While _ _ _ _) _) _ _ _)); (fail_if_success (with_reducible show wpAny _ _ (eval (Expr.ListComp _ _ _ _) _) _ _ _)); (fail_if_success (with_reducible show wpAny _ _ (exec (Stmt.Assign _ (Expr.ListComp _ _ _ _) _) _) _ _ _)); (fail_if_success (with_reducible show wpAny _ _ (call (Value.ref 206) _ _) _ _ _)); (fail_if_success (with_reducible show wpAny _ _ (call (Value.ref 213) _ _) _ _ _)); (fail_if_success (with_reducible show wpAny _ _ (call (Value.ref 47) _ _) _ _ _)); (fail_if_success (with_reducible show wpAny _ _ (call (Value.ref 234) _ _) _ _ _)); (fail_if_success (with_reducible show wpAny _ _ (call (Value.ref 227) _ _) _ _ _)); (fail_if_success (with_reducible show wpAny _ _ (call (Value.ref 241) _ _) _ _ _)); (fail_if_success (with_reducible show wpAny _ _ (call (Value.ref 246) _ _) _ _ _)); (fail_if_success (with_reducible show wpAny _ _ (compareOp CmpOp.NotEq (Value.ref _) (Value.ref _)) _ _ _)); (fail_if_success (with_reducible show ElEnd _ _ _ _ _ _ _ _ _ _ _ _ _)); (fail_if_success (with_reducible show CSrc _ _ _ _ _ _ _ _ _ _ _ _ _ _ _ _)))
  k_with "eval Name" => (k_here; (with_reducible show wpAny _ _ (eval (Expr.Name _ _) (envOfC _ _ _ _ _)) _ _ _); k_dflt (refine name_B (by k_asm) (by k_asm) (by k_asm) (by k_is) (by boot_by_name) (by decide) ?_))
  k_with "call builtin:sum" => ((k_here; (with_reducible show wpAny _ _ (call (Value.builtin "sum") [Value.ref _]) _ _ _); k_dflt (refine sum_any (by k_asm) (by k_asm) (by rfl) (by is_list) (by assumption) ?_); intro h' tk' t' F' N'); (try (revert h' tk' t' F' N'; intros)))
  k_with "call type:list" => ((k_here; (with_reducible show wpAny _ _ (call (Value.type "list") [Value.bytes _ _]) _ _ _); k_dflt (refine list_bytes (by k_asm) (by k_asm) (by rfl) _ _ _ (by exact rfl) (by (rw [sizeLine_eq]; first | decide | exact Nat.le_of_ble_eq_true rfl)) ?_; k_whole); intro D' h' tk' vs' c' hLn' hI' F' N' l1; (try simp only [List.size_toArray, List.length_cons, List.length_nil] at hLn'); (try k_lt l1)); (try (revert D' h' tk' vs' c' hLn' hI' F' N' l1; intros)))
  k_with "binaryOp Add ref ref" => ((k_here; (with_reducible show wpAny _ _ (binaryOp _ (Value.ref _) (Value.ref _)) _ _ _); k_dflt (refine kmk_add_lit (by k_asm) (by k_asm) (by is_list) (by is_list) (by exact rfl) ?_ (by (simp only [sizeLine_eq, List.toList_toArray, List.length_cons, List.length_nil]; omega))); intro D' h' F' N' l1; (try k_lt l1); (try k_sweep); (try simp only [List.toList_toArray] at N')); (try (revert D' h' F' N' l1; intros)))
  k_with "subscriptTail" => (k_here; (with_reducible show wpAny _ _ (subscriptTail _ _ (Value.ref _) (Value.int _ _)) _ _ _); (refine item_at (by assumption) (by is_list) (by assumption) ?_); (try dsimp only))
  k_with "call type:bytes" => ((k_here; (with_reducible show wpAny _ _ (call (Value.type "bytes") [Value.ref _]) _ _ _); k_dflt (refine KBa.make_K (by k_asm) (by k_asm) (by rfl) (by first | assumption | is_list) (by assumption) (by assumption) (by omega) ?_); intro h' t' k' F' N' hr'); (try (revert h' t' k' F' N' hr'; intros)))
  trivial
theorem seqIndex_l1 (us : List Value) (v : Value) : seqIndex? (-1) (us ++ [v]).length = some us.length := by
  rw [List.length_append]; exact seq_neg (k := 1) (by decide) (Nat.le_add_left _ _)
theorem get_l1 (us : List Value) (v : Value) : (us ++ [v])[us.length]? = some v := by simp
theorem kw_L6_2 : True := by
  k_with "subscriptTail" => (k_here; (with_reducible show wpAny _ _ (subscriptTail _ _ (Value.ref _) (Value.int (-1) _)) _ _ _); (refine kde_neg (by is_list) (by decide) (by decide) (seqIndex_l1 _ _) (get_l1 _ _) ?_))
  trivial
theorem told_depth (x y : Int) (st : List Rw) : (toldD x y st).depth ≤ 2 := by
  unfold toldD D.depth
  refine Nat.succ_le_succ (depths_le fun d hd => ?_)
  obtain ⟨q, _, rfl⟩ := List.mem_map.mp hd
  unfold D.depth
  exact Nat.succ_le_succ (depths_le fun d hd => by
    simp only [List.mem_cons, List.not_mem_nil, or_false] at hd
    rcases hd with rfl | rfl <;> exact Nat.zero_le _)
theorem told_depths (x y : Int) (st : List Rw) : D.depths (st.reverse.map fun q => D.lst [.int q.1, .byt (wrK x y q.1 q.2)]) ≤ 10 := by
  have := told_depth x y st
  unfold toldD D.depth at this
  omega
theorem st_check1 {s0 : Heap} {toks : Nat} {Q : Flow → Shared → Prop}
    (X : (hd.heap_1 w.params).In g) (T : Top p loose mean mg mb g) (hdp : dp + 40 < recursionLimit) (hun : un + 8 * 40 < cLine) (h48 : @LT.lt Nat _ 248 L) (sa na pa fra lea ga aa noa pia : Addr) (to fi : Value) (ps : Array Value) (ux uy : UInt8) (tp : Tok) (pok : PairOk ux.toNat uy.toNat) (pcs : List Pcs) (hpc : ∀ q ∈ pcs, PcOk q) (hpl : pcs.length ≤ 100) (hpos : 0 < pcs.length) (htot : totP pcs ≤ 100)
    (hp : Rep (PP L) s0 (.ref pa) (.lst (pcs.map pieceD))) (ha : Rep (PP L) s0 (.ref aa) (.lst ((AL ux.toNat uy.toNat).map fun al => .lst (al.map .int))))
    (nv : List Value) (nn : Nat) (hn : s0.get? noa = some (W.listOf nv.toArray nn)) (hnr : Reps (PP L) s0 nv ((List.range pcs.length).map fun j => toldD ux.toNat uy.toNat (stR pcs (j + 1))))
    (hpi : Rep (PP L) s0 (.ref pia) (toldD ux.toNat uy.toNat (stR pcs pcs.length)))
    (S : LawAt g L s0 (lawM (some (.ref sa)) (some (.ref na)) (some (.ref pa)) (some (to)) (some (.ref fra)) (some (fi)) (some (.ref lea)) (some (.ref ga)) (some (.ref pia)) none none none none none none none none none) (some (.ref aa)) (some (.ref noa)) (some (.bytes #[ux, uy] tp)) none none ps)
    (h : ∀ h' tk', LawAt g L h' (lawM (some (.ref sa)) (some (.ref na)) (some (.ref pa)) (some (to)) (some (.ref fra)) (some (fi)) (some (.ref lea)) (some (.ref ga)) (some (.ref pia)) none none none none none none none none none) (some (.ref aa)) (some (.ref noa)) (some (.bytes #[ux, uy] tp)) none none ps → Kept (PP L) s0 h' → Q .next ⟨h', gens, drawn, tk', os⟩) :
    wpAny (model PySem.Challenge.rw_qh0094_01.row.prog w) (Ar dp un fr gd) (exec (lawBody.getD 12 (.Pass default)) (lawEnv L fa)) Q E ⟨s0, gens, drawn, toks, os⟩ := by
  show wpAny _ _ (exec (Stmt.If _ _ _ _) (envOfC _ lawScope _ _ _)) _ _ _
  have hnoP := S.pp noa _ ⟨_, hn, rfl, _, rfl⟩
  conv in lawScope => whnf
  refine @by_no _ fun hNo9 => ?_
  obtain ⟨ow, ot, op, on, oa, F, N, d1, d2, d3, d4, d5⟩ := S
  refine hNo9 ?_
  clear hNo9
  revert X; k_fill; intro X
  refine @by_no _ fun hNo9 => ?_
  obtain ⟨_, pv, e, hpp, lpa, hr⟩ := hp.list_inv
  cases e
  obtain ⟨_, av, e, haa, laa, har⟩ := ha.list_inv
  cases e
  obtain ⟨m, hm⟩ : ∃ m, pcs.length = m + 1 := ⟨pcs.length - 1, by omega⟩
  have hnl : nv.length = m + 1 := by rw [hnr.length]; simp [hm]
  have lno : s0.IsList noa nv.toArray := ⟨_, hn, rfl, _, rfl⟩
  have hnr2 := hnr
  rw [hm, List.range_succ, List.map_append] at hnr2
  obtain ⟨us, ws, rfl, rus, rws⟩ := hnr2.append_inv
  obtain ⟨vl, _, rfl, rvl, rws⟩ := rws.cons_inv
  obtain rfl := rws.nil_inv
  have rvl0 : Rep (PP L) s0 vl (toldD ux.toNat uy.toNat (stR pcs (m + 1))) := rvl
  refine hNo9 ?_
  clear hNo9
  unfold toldD at rvl0
  refine @by_no _ fun hNo9 => ?_
  obtain ⟨la, lvs, rfl, _, _⟩ := rvl0.list_inv
  obtain ⟨led, hBN⟩ := base_of F N
  have own := hBN.2.1
  have N := hBN.1
  have B := hBN.2.2
  have n0 : noa ≠ L := hnoP.1
  have n1 : noa ∉ [(L + 1 + 1 + 1 + 1 + 1, ow), (L + 1 + 1 + 1 + 1, ot), (L + 1 + 1 + 1, op), (L + 1 + 1, on), (L + 1, oa), (248, tabObj ps)].map (·.1) := hnoP.2
  simp only [List.cons_append, List.nil_append] at N
  refine hNo9 ?_
  clear hNo9
  k_steps
  k_dflt (refine' use_spec (sp_piles pok pa aa pv av pcs (by omega) hpc (by omega)) ?F ?N ?X ?T ?hp3 ?hd3 ?hu3 ?_; (case F => k_asm); (case N => k_asm); (case X => k_asm); (case T => k_asm); (case hp3 => exact ⟨lpa, hr.weaken fun _ _ => trivial, laa, har.weaken fun _ _ => trivial⟩); (case hd3 => omega); (case hu3 => omega); k_whole)
  intro v' h' tk' F' N' st' hv'
  refine @by_no _ fun hNo9 => ?_
  dsimp only at st' hv'
  obtain ⟨va, vvs, rfl, _, lva, rva⟩ := hv'.list_inv
  have rno : Rep (PP L) h' (.ref noa) (.lst ((List.range pcs.length).map fun j => toldD ux.toNat uy.toNat (stR pcs (j + 1)))) := .lst hnoP (isList_keep lno fun o e => st' _ o e) (hnr.kept fun a o _ _ e => st' a o e)
  have hpi' := hpi.kept (h' := h') fun a o _ _ e => st' a o e
  have rvl' := rvl.kept (h' := h') fun a o _ _ e => st' a o e
  clear lno
  have lno : h'.IsList noa (us ++ [Value.ref la]).toArray := isList_keep ⟨_, hn, rfl, _, rfl⟩ fun o e => st' _ o e
  refine hNo9 ?_
  clear hNo9
  k_steps
  refine ne_rep rno hv' (depths_le fun d hd => ?_) (by show un + 20 < _; omega) ?_
  · obtain ⟨j, _, rfl⟩ := List.mem_map.mp hd
    exact Nat.le_trans (told_depth _ _ _) (by decide)
  k_steps
  rw [hm] at hpi'
  have rl2 : Rep (PP L) h' (.ref la) (toldD ux.toNat uy.toNat (stR pcs (m + 1))) := rvl'
  unfold toldD at hpi' rl2
  refine ne_rep hpi' rl2 (told_depths _ _ _) (by show un + 20 < _; omega) ?_
  k_steps
  rename Fr _ _ _ _ => F7
  rename News _ _ _ _ => N7
  exact h _ _ ⟨ow, ot, op, on, oa, F7, fun p hp => N7 p (List.mem_append_left led hp), d1, d2, d3, d4, d5⟩ (fun a o _ _ e => st' a o e)

theorem begin_Lj : True := by
  w_on
  w_top off
  k_with_none
  k_with "om" => (law_clear; first | with_reducible assumption | (law_purse 20000 => grind))
  k_with "guard" => skip
  trivial
set_option maxHeartbeats 4000000
theorem kw_Lj_1 : True := by
  k_with_none
  k_with "om" => (law_clear; first | with_reducible assumption | (law_purse 20000 => grind))
  k_with "eval BinOp" => (k_here; (with_reducible show wpAny _ _ (eval (Expr.BinOp (Expr.Name _ _) _ (Expr.Constant (Const.int _) _ _) _) _) _ _ _); k_dflt (refine binNC (by k_asm) (by rfl) ?_ (by rfl) (by rfl) (by decide)); (try dsimp only))
  k_with "eval BinOp" => (k_here; (with_reducible show wpAny _ _ (eval (Expr.BinOp (Expr.Name _ _) _ (Expr.Name _ _) _) _) _ _ _); k_dflt (refine binNN (by k_asm) (by rfl) (by rfl) ?_ (by rfl) (by rfl) (by rfl) (by decide) (by decide)); (try dsimp only))
  k_with "isTrue Compare" => (k_here; (with_reducible show wpAny _ _ (isTrue (Expr.Compare (Expr.Name _ _) [_] [Expr.Constant (Const.int _) _ _] _) _ _) _ _ _); k_dflt (refine isNC (by k_asm) (by rfl) ?_ (by rfl) (by rfl) (by decide) (by with_unfolding_all rfl)); (try dsimp only))
  k_with "guard" => ((fail_if_success (with_reducible show Exists _)); (fail_if_success (with_reducible show wpAny _ _ (pyIter _) _ _ _)); (fail_if_success (with_reducible show wpAny _ _ (exec (Stmt.For _ _ _ _ _) _) _ _ _)); (fail_if_success (with_reducible show wpAny _ _ (exec (Stmt.While _ _ _ _) _) _ _ _)); (fail_if_success (with_reducible show wpAny _ _ (eval (Expr.ListComp _ _ _ _) _) _ _ _)); (fail_if_success (with_reducible show wpAny _ _ (exec (Stmt.Assign _ (Expr.ListComp _ _ _ _) _) _) _ _ _)); (fail_if_success (with_reducible show wpAny _ _ (call (Value.ref 206) _ _) _ _ _)); (fail_if_success (with_reducible show wpAny _ _ (call (Value.ref 213) _ _) _ _ _)); (fail_if_success (with_reducible show wpAny _ _ (call (Value.ref 47) _ _) _ _ _)); (fail_if_success (with_reducible show wpAny _ _ (call (Value.ref 234) _ _) _ _ _)); (fail_if_success (with_reducible show wpAny _ _ (call (Value.ref 227) _ _) _ _ _)); (fail_if_success (with_reducible show wpAny _ _ (call (Value.ref 241) _ _) _ _ _)); (fail_if_success (with_reducible show wpAny _ _ (call (Value.ref 246) _ _) _ _ _)); (fail_if_success (with_reducible show wpAny _ _ (compareOp CmpOp.NotEq (Value.ref _) (Value.ref _)) _ _ _)); (fail_if_success (with_reducible show ElEnd _ _ _ _ _ _ _ _ _ _ _ _ _)); (fail_if_success (with_reducible show CSrc _ _ _ _ _ _ _ _ _ _ _ _ _ _ _ _)))
  k_with "eval Name" => (k_here; (fail_if_success (with_reducible show wpAny _ _ (eval (Expr.Name _ _) (envOfC _ _ _ _ _)) _ _ _)); (with_reducible show wpAny _ _ (eval (Expr.Name _ _) (envX _ _ _ _ _ _)) _ _ _); k_dflt (refine name_free (by k_asm) (by rfl) (by assumption) (by assumption) ?_ (by rfl) (by rfl)))
  k_with "callWith ref" => (k_here; (with_reducible show wpAny _ _ (callWith _ (Value.ref _) _ _ _) _ _ _); k_dflt (refine callWith_K (by k_asm) (by k_is) ?_; k_whole))
  trivial
noncomputable abbrev lamQ : Str := Str.ofString "law" ++ ".<locals>." ++ "<lambda>"
theorem lam_join1  {fl c' opA noa : Addr} {lo oc1 op on : Obj} {pa pb p1 p2 p3 p4 p5 : Pos} {pm ctv : Value} {vs1 : Array Value} {tq : Tok} (x y : UInt8) (tp : Tok) (a1 a2 : Addr) (k1 k2 : Int) (t1 t2 u1 u2 : Tok) (b1 b2 : Array UInt8) (w1 w2 : List Int) (hb1 : KBw.bInts b1 = w1) (hb2 : KBw.bInts b2 = w2)
    (ok : JoinOk k1 k2 x.toNat y.toNat w1 w2)
    (elo : lo = kla_obj "<lambda>" lamQ { posonlyargs := [], args := [{ arg := Str.ofString "one", annotation := none, pos := pa }, { arg := Str.ofString "two", annotation := none, pos := pb }], vararg := none, kwonlyargs := [], kw_defaults := [], kwarg := none, defaults := [] }
      (.Call (.Name (Str.ofString "_law_join") p1) [.Name (Str.ofString "pair") p2, .Name (Str.ofString "one") p3, .Name (Str.ofString "two") p4] [] p5)
      { kind := .function, names := [(Str.ofString "one", .local), (Str.ofString "two", .local), (Str.ofString "pair", .free), (Str.ofString "_law_join", .globalImplicit)], isGenerator := false, isCoroutine := false }
      [(Str.ofString "pair", opA)] pm c' ctv)
    (dA : oc1.data = .fields vs1) (dB : vs1[1]? = some (.str lamQ tq)) (d3 : op.data = .cell (some (.bytes #[x, y] tp))) (n1 : a1 ≠ noa) (n2 : a2 ≠ noa) (n3 : opA ≠ noa) :
    SpecN fl [.ref a1, .ref a2] 9 noa (fun h => (h.get? noa = some on ∧ h.get? fl = some lo ∧ h.get? c' = some oc1 ∧ h.get? opA = some op) ∧ h.IsList a1 [Value.int k1 t1, .bytes b1 u1].toArray ∧ h.IsList a2 [Value.int k2 t2, .bytes b2 u2].toArray)
      (fun _ v h' => ∃ a r t, v = .ref a ∧ a ≠ noa ∧ h'.IsList a [Value.int k1 t1, .bytes r t].toArray ∧ KBw.bInts r = joinL k1 k2 x.toNat y.toNat w1 w2 ∧ h'.get? noa = some on) := by
  intro dp un fr gd hs gens drawn toks os Q E hb X0 T0 st0 hn0 hp hd hu hret
  revert X0; k_fill; intro X0
  refine @by_no _ fun hNo9 => ?_
  try dsimp only at hp hret
  obtain ⟨⟨jn, jl, jc, jo⟩, l1, l2⟩ := hp
  rw [elo] at jl
  refine hNo9 ?_
  clear hNo9
  k_dflt (refine' enter_lamN X0 T0 st0 hn0 jn jl ?hcd ?k8 ?k9 ?kB ?_ ?c2 ?c3 ?c4 ?c5; (case hcd => exact ⟨_, oc1, vs1, tq, rfl, jc, dA, dB⟩); (case k8 => (show dp < _; omega)); (case k9 => exact rfl); (case kB => exact locs rfl); (case c2 => exact rfl); (case c3 => exact rfl); (case c4 => exact rfl); (case c5 => decide))
  intro g L h₁ tk X T hg F N hg2
  dsimp only at hg F N hg2 ⊢
  have go : g.get? opA = some op := hg _ _ n3 jo
  have gl1 : g.IsList a1 _ := isList_keep l1 fun o e => hg _ o n1 e
  have gl2 : g.IsList a2 _ := isList_keep l2 fun o e => hg _ o n2 e
  k_steps
  rename Fr _ _ _ _ => F4
  rename News _ _ _ _ => N4
  k_dflt (refine' use_specH (sp_join x y tp a1 a2 k1 k2 t1 t2 u1 u2 b1 b2 w1 w2 hb1 hb2 ok) F4 N4 X T ⟨isList_keep gl1 fun o e => F4.keep _ o e, isList_keep gl2 fun o e => F4.keep _ o e⟩ ?hd4 ?hu4 ?_; (case hd4 => (dsimp only [Around.deeper]; omega)); (case hu4 => (dsimp only [Around.deeper]; omega)))
  intro v' h' tk' F' N' st' hv'
  refine @by_no _ fun hNo9 => ?_
  obtain ⟨a, r, t, rfl, hnone, la, hr⟩ := hv'
  refine hNo9 ?_
  clear hNo9
  refine hret _ _ _ (fun b o hne e => F'.keep b o (hg b o hne e)) ⟨a, r, t, rfl, fun q => ?_, la, hr, (N' _ (.head _)).1⟩
  rw [q, (N4 _ (.head _)).1] at hnone
  cases hnone
theorem lam_join2  {fl c' opA noa : Addr} {lo oc1 op on : Obj} {pa pb p1 p2 p3 p4 p5 : Pos} {pm ctv : Value} {vs1 : Array Value} {tq : Tok} (x y : UInt8) (tp : Tok) (a1 a2 : Addr) (k1 k2 : Int) (t1 t2 u1 u2 : Tok) (b1 b2 : Array UInt8) (w1 w2 : List Int) (hb1 : KBw.bInts b1 = w1) (hb2 : KBw.bInts b2 = w2)
    (ok : JoinOk k2 k1 x.toNat y.toNat w2 w1)
    (elo : lo = kla_obj "<lambda>" lamQ { posonlyargs := [], args := [{ arg := Str.ofString "two", annotation := none, pos := pa }, { arg := Str.ofString "one", annotation := none, pos := pb }], vararg := none, kwonlyargs := [], kw_defaults := [], kwarg := none, defaults := [] }
      (.Call (.Name (Str.ofString "_law_join") p1) [.Name (Str.ofString "pair") p2, .Name (Str.ofString "one") p3, .Name (Str.ofString "two") p4] [] p5)
      { kind := .function, names := [(Str.ofString "two", .local), (Str.ofString "one", .local), (Str.ofString "pair", .free), (Str.ofString "_law_join", .globalImplicit)], isGenerator := false, isCoroutine := false }
      [(Str.ofString "pair", opA)] pm c' ctv)
    (dA : oc1.data = .fields vs1) (dB : vs1[1]? = some (.str lamQ tq)) (d3 : op.data = .cell (some (.bytes #[x, y] tp))) (n1 : a1 ≠ noa) (n2 : a2 ≠ noa) (n3 : opA ≠ noa) :
    SpecN fl [.ref a1, .ref a2] 9 noa (fun h => (h.get? noa = some on ∧ h.get? fl = some lo ∧ h.get? c' = some oc1 ∧ h.get? opA = some op) ∧ h.IsList a1 [Value.int k1 t1, .bytes b1 u1].toArray ∧ h.IsList a2 [Value.int k2 t2, .bytes b2 u2].toArray)
      (fun _ v h' => ∃ a r t, v = .ref a ∧ a ≠ noa ∧ h'.IsList a [Value.int k2 t2, .bytes r t].toArray ∧ KBw.bInts r = joinL k2 k1 x.toNat y.toNat w2 w1 ∧ h'.get? noa = some on) := by
  intro dp un fr gd hs gens drawn toks os Q E hb X0 T0 st0 hn0 hp hd hu hret
  revert X0; k_fill; intro X0
  refine @by_no _ fun hNo9 => ?_
  try dsimp only at hp hret
  obtain ⟨⟨jn, jl, jc, jo⟩, l1, l2⟩ := hp
  rw [elo] at jl
  refine hNo9 ?_
  clear hNo9
  k_dflt (refine' enter_lamN X0 T0 st0 hn0 jn jl ?hcd ?k8 ?k9 ?kB ?_ ?c2 ?c3 ?c4 ?c5; (case hcd => exact ⟨_, oc1, vs1, tq, rfl, jc, dA, dB⟩); (case k8 => (show dp < _; omega)); (case k9 => exact rfl); (case kB => exact locs rfl); (case c2 => exact rfl); (case c3 => exact rfl); (case c4 => exact rfl); (case c5 => decide))
  intro g L h₁ tk X T hg F N hg2
  dsimp only at hg F N hg2 ⊢
  have go : g.get? opA = some op := hg _ _ n3 jo
  have gl1 : g.IsList a1 _ := isList_keep l1 fun o e => hg _ o n1 e
  have gl2 : g.IsList a2 _ := isList_keep l2 fun o e => hg _ o n2 e
  k_steps
  rename Fr _ _ _ _ => F4
  rename News _ _ _ _ => N4
  k_dflt (refine' use_specH (sp_join x y tp a2 a1 k2 k1 t2 t1 u2 u1 b2 b1 w2 w1 hb2 hb1 ok) F4 N4 X T ⟨isList_keep gl2 fun o e => F4.keep _ o e, isList_keep gl1 fun o e => F4.keep _ o e⟩ ?hd4 ?hu4 ?_; (case hd4 => (dsimp only [Around.deeper]; omega)); (case hu4 => (dsimp only [Around.deeper]; omega)))
  intro v' h' tk' F' N' st' hv'
  refine @by_no _ fun hNo9 => ?_
  obtain ⟨a, r, t, rfl, hnone, la, hr⟩ := hv'
  refine hNo9 ?_
  clear hNo9
  refine hret _ _ _ (fun b o hne e => F'.keep b o (hg b o hne e)) ⟨a, r, t, rfl, fun q => ?_, la, hr, (N' _ (.head _)).1⟩
  rw [q, (N4 _ (.head _)).1] at hnone
  cases hnone

structure RwOk (q : Rw) : Prop where
  k4 : K4 q.1
  oct : Oct q.2
  len : q.2.length ≤ 100
/-- the state of a joining fold -/
structure JoinJ (x y : Int) (es : List Value) (rs : List Rw) (f : Rw → Rw → Rw) (r0 : Rw) (noa : Addr) (fixed : List (Addr × Obj)) (i : Nat) (h : Heap) (v : Value) : Prop where
  fix : ∀ p ∈ fixed, h.get? p.1 = some p.2
  giv : Reps (fun a => a ≠ noa) h es (rs.map (toldRow x y))
  val : Rep (fun a => a ≠ noa) h v (toldRow x y ((rs.take i).foldl f r0))
theorem JoinJ.mono {x y : Int} {es : List Value} {rs : List Rw} {f : Rw → Rw → Rw} {r0 : Rw} {noa : Addr} {fixed : List (Addr × Obj)} {i : Nat} {h h' : Heap} {v : Value} (hf : ∀ p ∈ fixed, KeepO p.2) (J : JoinJ x y es rs f r0 noa fixed i h v) (k : ∀ a o, KeepO o → h.get? a = some o → h'.get? a = some o) : JoinJ x y es rs f r0 noa fixed i h' v :=
  ⟨fun p hp => k _ _ (hf p hp) (J.fix p hp), J.giv.keepO k, J.val.keepO k⟩
noncomputable abbrev fL : Rw → Rw → Rw := fun a q => (a.1, a.2 ++ q.2)
noncomputable abbrev fR : Rw → Rw → Rw := fun a q => (q.1, q.2 ++ a.2)
theorem keep4 {noa fl c' opA : Addr} {on lo oc1 op : Obj} {name qual : Str} {params : Arguments} {body : Expr} {scope : Scope} {cl : List (Str × Addr)} {pm ctv : Value} {c9 : Addr} {vs1 : Array Value} {q : Str} {tq : Tok} {cv : Option Value} (hon : KeepO on) (elo : lo = kla_obj name qual params body scope cl pm c9 ctv) (dA : oc1.data = .fields vs1) (dB : vs1[1]? = some (.str q tq)) (d3 : op.data = .cell cv) :
    ∀ p ∈ [(noa, on), (fl, lo), (c', oc1), (opA, op)], KeepO (Prod.snd p) := by
  intro p hp
  simp only [List.mem_cons, List.not_mem_nil, or_false] at hp
  rcases hp with rfl | rfl | rfl | rfl
  · exact hon
  · rw [elo]
    exact ⟨fun es ep e => by (cases e), fun l i e => by (cases e)⟩
  · exact ⟨fun es ep e => by (rw [dA] at e; cases e), fun l i e => by
      rw [dA] at e
      injection e with e
      rw [e] at dB
      cases dB⟩
  · exact ⟨fun es ep e => by (rw [d3] at e; cases e), fun l i e => by (rw [d3] at e; cases e)⟩
theorem join_step1  {fl c' opA noa : Addr} {lo oc1 op on : Obj} {pa pb p1 p2 p3 p4 p5 : Pos} {pm ctv : Value} {vs1 : Array Value} {tq : Tok} (x y : UInt8) (tp : Tok) (pok : PairOk x.toNat y.toNat) (es : List Value) (rs : List Rw) (r0 : Rw) (hrs : ∀ q ∈ rs, RwOk q) (hall : ∀ i, i ≤ rs.length → RwOk ((rs.take i).foldl fL r0))
    (elo : lo = kla_obj "<lambda>" lamQ { posonlyargs := [], args := [{ arg := Str.ofString "one", annotation := none, pos := pa }, { arg := Str.ofString "two", annotation := none, pos := pb }], vararg := none, kwonlyargs := [], kw_defaults := [], kwarg := none, defaults := [] }
      (.Call (.Name (Str.ofString "_law_join") p1) [.Name (Str.ofString "pair") p2, .Name (Str.ofString "one") p3, .Name (Str.ofString "two") p4] [] p5)
      { kind := .function, names := [(Str.ofString "one", .local), (Str.ofString "two", .local), (Str.ofString "pair", .free), (Str.ofString "_law_join", .globalImplicit)], isGenerator := false, isCoroutine := false }
      [(Str.ofString "pair", opA)] pm c' ctv)
    (dA : oc1.data = .fields vs1) (dB : vs1[1]? = some (.str lamQ tq)) (d3 : op.data = .cell (some (.bytes #[x, y] tp))) (n3 : opA ≠ noa) (i : Nat) (e v : Value) (hie : es[i]? = some e) (hin : es.length = rs.length) :
    SpecN fl [v, e] 9 noa (fun h => JoinJ x.toNat y.toNat es rs fL r0 noa [(noa, on), (fl, lo), (c', oc1), (opA, op)] i h v) (fun _ v' h' => JoinJ x.toNat y.toNat es rs fL r0 noa [(noa, on), (fl, lo), (c', oc1), (opA, op)] (i + 1) h' v') := by
  intro dp un fr gd hs gens drawn toks os Q E hb X T st hn hJ hd hu hret
  refine @by_no _ fun hNo9 => ?_
  try dsimp only at hJ hret
  obtain ⟨jf, jg, jv⟩ := hJ
  have hi : i < rs.length := by rw [← hin]; exact (List.getElem?_eq_some_iff.mp hie).1
  obtain ⟨q, hqi⟩ : ∃ q, rs[i]? = some q := ⟨_, List.getElem?_eq_getElem hi⟩
  have hq := hrs q (List.mem_of_getElem? hqi)
  have ha := hall i (Nat.le_of_lt hi)
  obtain ⟨v', e', R9⟩ := jg.get i (.int 0) (by rw [List.length_map]; exact hi)
  cases hie.symm.trans e'
  rw [List.getD_eq_getElem?_getD, List.getElem?_map, hqi] at R9
  replace R9 : Rep _ hs e (.lst [.int q.1, .byt (wrK x.toNat y.toNat q.1 q.2)]) := R9
  obtain ⟨acc, hacc⟩ : ∃ acc, acc = (rs.take i).foldl fL r0 := ⟨_, rfl⟩
  rw [← hacc] at jv ha
  have jv2 : Rep _ hs v (.lst [.int acc.1, .byt (wrK x.toNat y.toNat acc.1 acc.2)]) := jv
  obtain ⟨a2, us2, rfl, pt2, lt2, R9⟩ := R9.list_inv
  obtain ⟨_, _, rfl, ri2, R9⟩ := R9.cons_inv
  obtain ⟨_, _, rfl, rb2, R9⟩ := R9.cons_inv
  obtain rfl := R9.nil_inv
  obtain ⟨ti2, rfl⟩ := ri2.int_inv
  obtain ⟨bb2, tb2, rfl, hbb2⟩ := rb2.byt_inv
  obtain ⟨a1, us1, rfl, pt1, lt1, R9⟩ := jv2.list_inv
  obtain ⟨_, _, rfl, ri1, R9⟩ := R9.cons_inv
  obtain ⟨_, _, rfl, rb1, R9⟩ := R9.cons_inv
  obtain rfl := R9.nil_inv
  obtain ⟨ti1, rfl⟩ := ri1.int_inv
  obtain ⟨bb1, tb1, rfl, hbb1⟩ := rb1.byt_inv
  obtain ⟨j1, j2⟩ := join_wr ha.k4 hq.k4 pok ha.oct hq.oct ha.len hq.len
  refine hNo9 ?_
  clear hNo9
  refine lam_join1 x y tp a1 a2 acc.1 q.1 ti1 ti2 tb1 tb2 bb1 bb2 _ _ hbb1 hbb2 j1 elo dA dB d3 pt1 pt2 n3 dp un fr gd hs gens drawn toks os Q E hb X T st hn ⟨⟨jf _ (.head _), jf _ (.tail _ (.head _)), jf _ (.tail _ (.tail _ (.head _))), jf _ (.tail _ (.tail _ (.tail _ (.head _))))⟩, lt1, lt2⟩ hd hu ?_
  intro v h' tk' k hv
  refine @by_no _ fun hNo9 => ?_
  obtain ⟨a, r, t, rfl, han, la, hr, hno⟩ := hv
  rw [j2] at hr
  refine hNo9 ?_
  clear hNo9
  refine hret _ _ _ k ⟨fun p hp => ?_, jg.kept fun a o q _ e => k a o q e, ?_⟩
  · by_cases hpn : p.1 = noa
    · have z := jf p hp
      rw [hpn] at z ⊢
      have z2 := jf _ (.head _)
      rw [z] at z2; cases z2
      exact hno
    · exact k _ _ hpn (jf p hp)
  · rw [List.take_add_one, hqi, List.foldl_append, ← hacc]
    exact .lst han la (.cons (.int _ _) (.cons (.byt _ hr) .nil))
theorem red_two1  {fl c' opA noa : Addr} {lo oc1 op on : Obj} {pa pb p1 p2 p3 p4 p5 : Pos} {pm ctv : Value} {vs1 : Array Value} {tq : Tok} (x y : UInt8) (tp : Tok) (pok : PairOk x.toNat y.toNat) (es : List Value) (rs : List Rw) (r0 : Rw) (hrs : ∀ q ∈ rs, RwOk q) (hall : ∀ i, i ≤ rs.length → RwOk ((rs.take i).foldl fL r0))
    (elo : lo = kla_obj "<lambda>" lamQ { posonlyargs := [], args := [{ arg := Str.ofString "one", annotation := none, pos := pa }, { arg := Str.ofString "two", annotation := none, pos := pb }], vararg := none, kwonlyargs := [], kw_defaults := [], kwarg := none, defaults := [] }
      (.Call (.Name (Str.ofString "_law_join") p1) [.Name (Str.ofString "pair") p2, .Name (Str.ofString "one") p3, .Name (Str.ofString "two") p4] [] p5)
      { kind := .function, names := [(Str.ofString "one", .local), (Str.ofString "two", .local), (Str.ofString "pair", .free), (Str.ofString "_law_join", .globalImplicit)], isGenerator := false, isCoroutine := false }
      [(Str.ofString "pair", opA)] pm c' ctv)
    (dA : oc1.data = .fields vs1) (dB : vs1[1]? = some (.str lamQ tq)) (d3 : op.data = .cell (some (.bytes #[x, y] tp))) (n3 : opA ≠ noa) (sa : Addr) (hsa : sa ≠ noa) (e0 : Value) (hon : KeepO on) (hin : es.length = rs.length) :
    SpecN 47 [.ref fl, .ref sa] 11 noa (fun h => h.get? noa = some on ∧ h.IsList sa (e0 :: es).toArray ∧ JoinJ x.toNat y.toNat es rs fL r0 noa [(noa, on), (fl, lo), (c', oc1), (opA, op)] 0 h e0) (fun _ v' h' => JoinJ x.toNat y.toNat es rs fL r0 noa [(noa, on), (fl, lo), (c', oc1), (opA, op)] es.length h' v') := by
  refine sp_reduce2 fl sa 0 noa on e0 es hsa 9 (fun i h v => JoinJ x.toNat y.toNat es rs fL r0 noa [(noa, on), (fl, lo), (c', oc1), (opA, op)] i h v) ?mono ?fn ?step
  case mono => exact fun i h h' v J k => J.mono (keep4 hon elo dA dB d3) k
  case fn =>
    intro i h v J
    have z := J.fix _ (.tail _ (.head _))
    rw [elo] at z
    exact ⟨_, _, _, _, z⟩
  case step => exact fun i e v hie => join_step1 x y tp pok es rs r0 hrs hall elo dA dB d3 n3 i e v hie hin
theorem red_three1  {fl c' opA noa : Addr} {lo oc1 op on : Obj} {pa pb p1 p2 p3 p4 p5 : Pos} {pm ctv : Value} {vs1 : Array Value} {tq : Tok} (x y : UInt8) (tp : Tok) (pok : PairOk x.toNat y.toNat) (es : List Value) (rs : List Rw) (r0 : Rw) (hrs : ∀ q ∈ rs, RwOk q) (hall : ∀ i, i ≤ rs.length → RwOk ((rs.take i).foldl fL r0))
    (elo : lo = kla_obj "<lambda>" lamQ { posonlyargs := [], args := [{ arg := Str.ofString "one", annotation := none, pos := pa }, { arg := Str.ofString "two", annotation := none, pos := pb }], vararg := none, kwonlyargs := [], kw_defaults := [], kwarg := none, defaults := [] }
      (.Call (.Name (Str.ofString "_law_join") p1) [.Name (Str.ofString "pair") p2, .Name (Str.ofString "one") p3, .Name (Str.ofString "two") p4] [] p5)
      { kind := .function, names := [(Str.ofString "one", .local), (Str.ofString "two", .local), (Str.ofString "pair", .free), (Str.ofString "_law_join", .globalImplicit)], isGenerator := false, isCoroutine := false }
      [(Str.ofString "pair", opA)] pm c' ctv)
    (dA : oc1.data = .fields vs1) (dB : vs1[1]? = some (.str lamQ tq)) (d3 : op.data = .cell (some (.bytes #[x, y] tp))) (n3 : opA ≠ noa) (sa va : Addr) (hsa : sa ≠ noa) (vav : List Value) (hva : @Ne Nat va 39) (hvn : va ≠ noa) (hon : KeepO on) (hin : es.length = rs.length) :
    SpecN 47 [.ref fl, .ref sa, .ref va] 11 noa (fun h => h.get? noa = some on ∧ h.IsList sa es.toArray ∧ h.IsList va vav.toArray ∧ JoinJ x.toNat y.toNat es rs fL r0 noa [(noa, on), (fl, lo), (c', oc1), (opA, op)] 0 h (.ref va)) (fun _ v' h' => JoinJ x.toNat y.toNat es rs fL r0 noa [(noa, on), (fl, lo), (c', oc1), (opA, op)] es.length h' v') := by
  refine sp_reduce3 fl sa va noa on es hsa vav hva hvn 9 (fun i h v => JoinJ x.toNat y.toNat es rs fL r0 noa [(noa, on), (fl, lo), (c', oc1), (opA, op)] i h v) ?mono ?fn ?step
  case mono => exact fun i h h' v J k => J.mono (keep4 hon elo dA dB d3) k
  case fn =>
    intro i h v J
    have z := J.fix _ (.tail _ (.head _))
    rw [elo] at z
    exact ⟨_, _, _, _, z⟩
  case step => exact fun i e v hie => join_step1 x y tp pok es rs r0 hrs hall elo dA dB d3 n3 i e v hie hin
theorem join_step2  {fl c' opA noa : Addr} {lo oc1 op on : Obj} {pa pb p1 p2 p3 p4 p5 : Pos} {pm ctv : Value} {vs1 : Array Value} {tq : Tok} (x y : UInt8) (tp : Tok) (pok : PairOk x.toNat y.toNat) (es : List Value) (rs : List Rw) (r0 : Rw) (hrs : ∀ q ∈ rs, RwOk q) (hall : ∀ i, i ≤ rs.length → RwOk ((rs.take i).foldl fR r0))
    (elo : lo = kla_obj "<lambda>" lamQ { posonlyargs := [], args := [{ arg := Str.ofString "two", annotation := none, pos := pa }, { arg := Str.ofString "one", annotation := none, pos := pb }], vararg := none, kwonlyargs := [], kw_defaults := [], kwarg := none, defaults := [] }
      (.Call (.Name (Str.ofString "_law_join") p1) [.Name (Str.ofString "pair") p2, .Name (Str.ofString "one") p3, .Name (Str.ofString "two") p4] [] p5)
      { kind := .function, names := [(Str.ofString "two", .local), (Str.ofString "one", .local), (Str.ofString "pair", .free), (Str.ofString "_law_join", .globalImplicit)], isGenerator := false, isCoroutine := false }
      [(Str.ofString "pair", opA)] pm c' ctv)
    (dA : oc1.data = .fields vs1) (dB : vs1[1]? = some (.str lamQ tq)) (d3 : op.data = .cell (some (.bytes #[x, y] tp))) (n3 : opA ≠ noa) (i : Nat) (e v : Value) (hie : es[i]? = some e) (hin : es.length = rs.length) :
    SpecN fl [v, e] 9 noa (fun h => JoinJ x.toNat y.toNat es rs fR r0 noa [(noa, on), (fl, lo), (c', oc1), (opA, op)] i h v) (fun _ v' h' => JoinJ x.toNat y.toNat es rs fR r0 noa [(noa, on), (fl, lo), (c', oc1), (opA, op)] (i + 1) h' v') := by
  intro dp un fr gd hs gens drawn toks os Q E hb X T st hn hJ hd hu hret
  refine @by_no _ fun hNo9 => ?_
  try dsimp only at hJ hret
  obtain ⟨jf, jg, jv⟩ := hJ
  have hi : i < rs.length := by rw [← hin]; exact (List.getElem?_eq_some_iff.mp hie).1
  obtain ⟨q, hqi⟩ : ∃ q, rs[i]? = some q := ⟨_, List.getElem?_eq_getElem hi⟩
  have hq := hrs q (List.mem_of_getElem? hqi)
  have ha := hall i (Nat.le_of_lt hi)
  obtain ⟨v', e', R9⟩ := jg.get i (.int 0) (by rw [List.length_map]; exact hi)
  cases hie.symm.trans e'
  rw [List.getD_eq_getElem?_getD, List.getElem?_map, hqi] at R9
  replace R9 : Rep _ hs e (.lst [.int q.1, .byt (wrK x.toNat y.toNat q.1 q.2)]) := R9
  obtain ⟨acc, hacc⟩ : ∃ acc, acc = (rs.take i).foldl fR r0 := ⟨_, rfl⟩
  rw [← hacc] at jv ha
  have jv2 : Rep _ hs v (.lst [.int acc.1, .byt (wrK x.toNat y.toNat acc.1 acc.2)]) := jv
  obtain ⟨a2, us2, rfl, pt2, lt2, R9⟩ := R9.list_inv
  obtain ⟨_, _, rfl, ri2, R9⟩ := R9.cons_inv
  obtain ⟨_, _, rfl, rb2, R9⟩ := R9.cons_inv
  obtain rfl := R9.nil_inv
  obtain ⟨ti2, rfl⟩ := ri2.int_inv
  obtain ⟨bb2, tb2, rfl, hbb2⟩ := rb2.byt_inv
  obtain ⟨a1, us1, rfl, pt1, lt1, R9⟩ := jv2.list_inv
  obtain ⟨_, _, rfl, ri1, R9⟩ := R9.cons_inv
  obtain ⟨_, _, rfl, rb1, R9⟩ := R9.cons_inv
  obtain rfl := R9.nil_inv
  obtain ⟨ti1, rfl⟩ := ri1.int_inv
  obtain ⟨bb1, tb1, rfl, hbb1⟩ := rb1.byt_inv
  obtain ⟨j1, j2⟩ := join_wr hq.k4 ha.k4 pok hq.oct ha.oct hq.len ha.len
  refine hNo9 ?_
  clear hNo9
  refine lam_join2 x y tp a1 a2 acc.1 q.1 ti1 ti2 tb1 tb2 bb1 bb2 _ _ hbb1 hbb2 j1 elo dA dB d3 pt1 pt2 n3 dp un fr gd hs gens drawn toks os Q E hb X T st hn ⟨⟨jf _ (.head _), jf _ (.tail _ (.head _)), jf _ (.tail _ (.tail _ (.head _))), jf _ (.tail _ (.tail _ (.tail _ (.head _))))⟩, lt1, lt2⟩ hd hu ?_
  intro v h' tk' k hv
  refine @by_no _ fun hNo9 => ?_
  obtain ⟨a, r, t, rfl, han, la, hr, hno⟩ := hv
  rw [j2] at hr
  refine hNo9 ?_
  clear hNo9
  refine hret _ _ _ k ⟨fun p hp => ?_, jg.kept fun a o q _ e => k a o q e, ?_⟩
  · by_cases hpn : p.1 = noa
    · have z := jf p hp
      rw [hpn] at z ⊢
      have z2 := jf _ (.head _)
      rw [z] at z2; cases z2
      exact hno
    · exact k _ _ hpn (jf p hp)
  · rw [List.take_add_one, hqi, List.foldl_append, ← hacc]
    exact .lst han la (.cons (.int _ _) (.cons (.byt _ hr) .nil))
theorem red_two2  {fl c' opA noa : Addr} {lo oc1 op on : Obj} {pa pb p1 p2 p3 p4 p5 : Pos} {pm ctv : Value} {vs1 : Array Value} {tq : Tok} (x y : UInt8) (tp : Tok) (pok : PairOk x.toNat y.toNat) (es : List Value) (rs : List Rw) (r0 : Rw) (hrs : ∀ q ∈ rs, RwOk q) (hall : ∀ i, i ≤ rs.length → RwOk ((rs.take i).foldl fR r0))
    (elo : lo = kla_obj "<lambda>" lamQ { posonlyargs := [], args := [{ arg := Str.ofString "two", annotation := none, pos := pa }, { arg := Str.ofString "one", annotation := none, pos := pb }], vararg := none, kwonlyargs := [], kw_defaults := [], kwarg := none, defaults := [] }
      (.Call (.Name (Str.ofString "_law_join") p1) [.Name (Str.ofString "pair") p2, .Name (Str.ofString "one") p3, .Name (Str.ofString "two") p4] [] p5)
      { kind := .function, names := [(Str.ofString "two", .local), (Str.ofString "one", .local), (Str.ofString "pair", .free), (Str.ofString "_law_join", .globalImplicit)], isGenerator := false, isCoroutine := false }
      [(Str.ofString "pair", opA)] pm c' ctv)
    (dA : oc1.data = .fields vs1) (dB : vs1[1]? = some (.str lamQ tq)) (d3 : op.data = .cell (some (.bytes #[x, y] tp))) (n3 : opA ≠ noa) (sa : Addr) (hsa : sa ≠ noa) (e0 : Value) (hon : KeepO on) (hin : es.length = rs.length) :
    SpecN 47 [.ref fl, .ref sa] 11 noa (fun h => h.get? noa = some on ∧ h.IsList sa (e0 :: es).toArray ∧ JoinJ x.toNat y.toNat es rs fR r0 noa [(noa, on), (fl, lo), (c', oc1), (opA, op)] 0 h e0) (fun _ v' h' => JoinJ x.toNat y.toNat es rs fR r0 noa [(noa, on), (fl, lo), (c', oc1), (opA, op)] es.length h' v') := by
  refine sp_reduce2 fl sa 0 noa on e0 es hsa 9 (fun i h v => JoinJ x.toNat y.toNat es rs fR r0 noa [(noa, on), (fl, lo), (c', oc1), (opA, op)] i h v) ?mono ?fn ?step
  case mono => exact fun i h h' v J k => J.mono (keep4 hon elo dA dB d3) k
  case fn =>
    intro i h v J
    have z := J.fix _ (.tail _ (.head _))
    rw [elo] at z
    exact ⟨_, _, _, _, z⟩
  case step => exact fun i e v hie => join_step2 x y tp pok es rs r0 hrs hall elo dA dB d3 n3 i e v hie hin
theorem red_three2  {fl c' opA noa : Addr} {lo oc1 op on : Obj} {pa pb p1 p2 p3 p4 p5 : Pos} {pm ctv : Value} {vs1 : Array Value} {tq : Tok} (x y : UInt8) (tp : Tok) (pok : PairOk x.toNat y.toNat) (es : List Value) (rs : List Rw) (r0 : Rw) (hrs : ∀ q ∈ rs, RwOk q) (hall : ∀ i, i ≤ rs.length → RwOk ((rs.take i).foldl fR r0))
    (elo : lo = kla_obj "<lambda>" lamQ { posonlyargs := [], args := [{ arg := Str.ofString "two", annotation := none, pos := pa }, { arg := Str.ofString "one", annotation := none, pos := pb }], vararg := none, kwonlyargs := [], kw_defaults := [], kwarg := none, defaults := [] }
      (.Call (.Name (Str.ofString "_law_join") p1) [.Name (Str.ofString "pair") p2, .Name (Str.ofString "one") p3, .Name (Str.ofString "two") p4] [] p5)
      { kind := .function, names := [(Str.ofString "two", .local), (Str.ofString "one", .local), (Str.ofString "pair", .free), (Str.ofString "_law_join", .globalImplicit)], isGenerator := false, isCoroutine := false }
      [(Str.ofString "pair", opA)] pm c' ctv)
    (dA : oc1.data = .fields vs1) (dB : vs1[1]? = some (.str lamQ tq)) (d3 : op.data = .cell (some (.bytes #[x, y] tp))) (n3 : opA ≠ noa) (sa va : Addr) (hsa : sa ≠ noa) (vav : List Value) (hva : @Ne Nat va 39) (hvn : va ≠ noa) (hon : KeepO on) (hin : es.length = rs.length) :
    SpecN 47 [.ref fl, .ref sa, .ref va] 11 noa (fun h => h.get? noa = some on ∧ h.IsList sa es.toArray ∧ h.IsList va vav.toArray ∧ JoinJ x.toNat y.toNat es rs fR r0 noa [(noa, on), (fl, lo), (c', oc1), (opA, op)] 0 h (.ref va)) (fun _ v' h' => JoinJ x.toNat y.toNat es rs fR r0 noa [(noa, on), (fl, lo), (c', oc1), (opA, op)] es.length h' v') := by
  refine sp_reduce3 fl sa va noa on es hsa vav hva hvn 9 (fun i h v => JoinJ x.toNat y.toNat es rs fR r0 noa [(noa, on), (fl, lo), (c', oc1), (opA, op)] i h v) ?mono ?fn ?step
  case mono => exact fun i h h' v J k => J.mono (keep4 hon elo dA dB d3) k
  case fn =>
    intro i h v J
    have z := J.fix _ (.tail _ (.head _))
    rw [elo] at z
    exact ⟨_, _, _, _, z⟩
  case step => exact fun i e v hie => join_step2 x y tp pok es rs r0 hrs hall elo dA dB d3 n3 i e v hie hin

theorem begin_L7 : True := by
  w_on
  w_top off
  k_with_none
  k_with "om" => (law_clear; first | with_reducible assumption | (law_purse 20000 => grind))
  k_with "guard" => skip
  trivial
set_option maxHeartbeats 4000000
local macro_rules | `(tactic| walk_at "subscriptTail") => `(tactic| (k_here; (with_reducible show wpAny _ _ (subscriptTail _ _ (Value.ref _) (Value.int _ _)) _ _ _); (refine' item_at ?ihx ?ihl ?ih0 ?_ ?ihs; (case ihl => is_list); (case ihx => assumption); (case ih0 => assumption); (case ihs => with_unfolding_all rfl)); (try dsimp only)))
theorem kw_L7_1 : True := by
  k_with_none
  k_with "om" => (law_clear; first | with_reducible assumption | (law_purse 20000 => grind))
  k_with "eval BinOp" => (k_here; (with_reducible show wpAny _ _ (eval (Expr.BinOp (Expr.Name _ _) _ (Expr.Constant (Const.int _) _ _) _) _) _ _ _); k_dflt (refine binNC (by k_asm) (by rfl) ?_ (by rfl) (by rfl) (by decide)); (try dsimp only))
  k_with "eval BinOp" => (k_here; (with_reducible show wpAny _ _ (eval (Expr.BinOp (Expr.Name _ _) _ (Expr.Name _ _) _) _) _ _ _); k_dflt (refine binNN (by k_asm) (by rfl) (by rfl) ?_ (by rfl) (by rfl) (by rfl) (by decide) (by decide)); (try dsimp only))
  k_with "isTrue Compare" => (k_here; (with_reducible show wpAny _ _ (isTrue (Expr.Compare (Expr.Name _ _) [_] [Expr.Constant (Const.int _) _ _] _) _ _) _ _ _); k_dflt (refine isNC (by k_asm) (by rfl) ?_ (by rfl) (by rfl) (by decide) (by with_unfolding_all rfl)); (try dsimp only))
  k_with "guard" => ((fail_if_success (with_reducible show Exists _)); (fail_if_success (with_reducible show wpAny _ _ (pyIter _) _ _ _)); (fail_if_success (with_reducible show wpAny _ _ (exec (Stmt.For _ _ _ _ _) _) _ _ _)); (fail_if_success (with_reducible show wpAny _ _ (exec (Stmt.While _ _ _ _) _) _ _ _)); (fail_if_success (with_reducible show wpAny _ _ (eval (Expr.ListComp _ _ _ _) _) _ _ _)); (fail_if_success (with_reducible show wpAny _ _ (exec (Stmt.Assign _ (Expr.ListComp _ _ _ _) _) _) _ _ _)); (fail_if_success (with_reducible show wpAny _ _ (call (Value.ref 206) _ _) _ _ _)); (fail_if_success (with_reducible show wpAny _ _ (call (Value.ref 213) _ _) _ _ _)); (fail_if_success (with_reducible show wpAny _ _ (call (Value.ref 47) _ _) _ _ _)); (fail_if_success (with_reducible show wpAny _ _ (call (Value.ref 234) _ _) _ _ _)); (fail_if_success (with_reducible show wpAny _ _ (call (Value.ref 227) _ _) _ _ _)); (fail_if_success (with_reducible show wpAny _ _ (call (Value.ref 241) _ _) _ _ _)); (fail_if_success (with_reducible show wpAny _ _ (call (Value.ref 246) _ _) _ _ _)); (fail_if_success (with_reducible show wpAny _ _ (compareOp CmpOp.NotEq (Value.ref _) (Value.ref _)) _ _ _)); (fail_if_success (with_reducible show ElEnd _ _ _ _ _ _ _ _ _ _ _ _ _)); (fail_if_success (with_reducible show CSrc _ _ _ _ _ _ _ _ _ _ _ _ _ _ _ _)))
  k_with "eval Name" => (k_here; (with_reducible show wpAny _ _ (eval (Expr.Name _ _) (envOfC _ _ _ _ _)) _ _ _); k_dflt (refine name_B (by k_asm) (by k_asm) (by k_asm) (by k_is) (by boot_by_name) (by decide) ?_))
  k_with "call builtin:sum" => ((k_here; (with_reducible show wpAny _ _ (call (Value.builtin "sum") [Value.ref _]) _ _ _); k_dflt (refine sum_any (by k_asm) (by k_asm) (by rfl) (by is_list) (by assumption) ?_); intro h' tk' t' F' N'); (try (revert h' tk' t' F' N'; intros)))
  k_with "call type:list" => ((k_here; (with_reducible show wpAny _ _ (call (Value.type "list") [Value.bytes _ _]) _ _ _); k_dflt (refine list_bytes (by k_asm) (by k_asm) (by rfl) _ _ _ (by exact rfl) (by (rw [sizeLine_eq]; first | decide | exact Nat.le_of_ble_eq_true rfl)) ?_; k_whole); intro D' h' tk' vs' c' hLn' hI' F' N' l1; (try simp only [List.size_toArray, List.length_cons, List.length_nil] at hLn'); (try k_lt l1)); (try (revert D' h' tk' vs' c' hLn' hI' F' N' l1; intros)))
  k_with "binaryOp Add ref ref" => ((k_here; (with_reducible show wpAny _ _ (binaryOp _ (Value.ref _) (Value.ref _)) _ _ _); k_dflt (refine kmk_add_lit (by k_asm) (by k_asm) (by is_list) (by is_list) (by exact rfl) ?_ (by (simp only [sizeLine_eq, List.toList_toArray, List.length_cons, List.length_nil]; omega))); intro D' h' F' N' l1; (try k_lt l1); (try k_sweep); (try simp only [List.toList_toArray] at N')); (try (revert D' h' F' N' l1; intros)))
  k_with "call type:bytes" => ((k_here; (with_reducible show wpAny _ _ (call (Value.type "bytes") [Value.ref _]) _ _ _); k_dflt (refine KBa.make_K (by k_asm) (by k_asm) (by rfl) (by first | assumption | is_list) (by assumption) (by assumption) (by omega) ?_); intro h' t' k' F' N' hr'); (try (revert h' t' k' F' N' hr'; intros)))
  k_with "subscriptTail" => (k_here; (with_reducible show wpAny _ _ (subscriptTail _ _ (Value.ref _) (Value.int (-1) _)) _ _ _); (refine kde_neg (by is_list) (by decide) (by decide) (seqIndex_l1 _ _) (get_l1 _ _) ?_))
  trivial
theorem st_way {s0 : Heap} {toks : Nat} {Q : Flow → Shared → Prop}
    (X : (hd.heap_1 w.params).In g) (T : Top p loose mean mg mb g) (hdp : dp + 40 < recursionLimit) (hun : un + 8 * 40 < cLine) (h48 : @LT.lt Nat _ 248 L) (sa na pa fra lea ga aa noa pia : Addr) (to fi : Value) (ps : Array Value) (ux uy : UInt8) (tp : Tok) (pcs : List Pcs) (q0 : Pcs) (hq0 : pcs[0]? = some q0)
    (hp : Rep (PP L) s0 (.ref pa) (.lst (pcs.map pieceD)))
    (S : LawAt g L s0 (lawM (some (.ref sa)) (some (.ref na)) (some (.ref pa)) (some (to)) (some (.ref fra)) (some (fi)) (some (.ref lea)) (some (.ref ga)) (some (.ref pia)) none none none none none none none none none) (some (.ref aa)) (some (.ref noa)) (some (.bytes #[ux, uy] tp)) none none ps)
    (h : ∀ h' tk' tw, LawAt g L h' (lawM (some (.ref sa)) (some (.ref na)) (some (.ref pa)) (some (to)) (some (.ref fra)) (some (fi)) (some (.ref lea)) (some (.ref ga)) (some (.ref pia)) none none none none none none none none none) (some (.ref aa)) (some (.ref noa)) (some (.bytes #[ux, uy] tp)) none (some (.int q0.1 tw)) ps → Kept (PP L) s0 h' → Q .next ⟨h', gens, drawn, tk', os⟩) :
    wpAny (model PySem.Challenge.rw_qh0094_01.row.prog w) (Ar dp un fr gd) (exec (lawBody.getD 13 (.Pass default)) (lawEnv L fa)) Q E ⟨s0, gens, drawn, toks, os⟩ := by
  show wpAny _ _ (exec (Stmt.Assign _ _ _) (envOfC _ lawScope _ _ _)) _ _ _
  conv in lawScope => whnf
  refine @by_no _ fun hNo9 => ?_
  obtain ⟨ow, ot, op, on, oa, F, N, d1, d2, d3, d4, d5⟩ := S
  refine hNo9 ?_
  clear hNo9
  revert X; k_fill; intro X
  refine @by_no _ fun hNo9 => ?_
  obtain ⟨_, pv, e, hpp, lpa, hr⟩ := hp.list_inv
  cases e
  have hlt : 0 < pcs.length := (List.getElem?_eq_some_iff.mp hq0).1
  obtain ⟨v0, hv0, r0⟩ := hr.getAt 0 (pieceD q0) (by rw [List.getElem?_map, hq0]; rfl)
  obtain ⟨t4, tvs, rfl, pt, lt4, r0⟩ := r0.list_inv
  obtain ⟨_, _, rfl, ri, r0⟩ := r0.cons_inv
  obtain ⟨tw, rfl⟩ := ri.int_inv
  obtain ⟨led, hBN⟩ := base_of F N
  have own := hBN.2.1
  have N := hBN.1
  have B := hBN.2.2
  simp only [List.cons_append, List.nil_append] at N
  have k0 : (0 : Int) ≤ 0 ∧ (0 : Int) < 2 ^ 62 := by decide
  have n0 : pa ≠ L := hpp.1
  have n1 : pa ∉ [(L + 1 + 1 + 1 + 1 + 1, ow), (L + 1 + 1 + 1 + 1, ot), (L + 1 + 1 + 1, op), (L + 1 + 1, on), (L + 1, oa), (248, tabObj ps)].map (·.1) := hpp.2
  have n2 : t4 ≠ L := pt.1
  have n3 : t4 ∉ [(L + 1 + 1 + 1 + 1 + 1, ow), (L + 1 + 1 + 1 + 1, ot), (L + 1 + 1 + 1, op), (L + 1 + 1, on), (L + 1, oa), (248, tabObj ps)].map (·.1) := pt.2
  have hv1 : pv[Int.toNat 0]? = some (Value.ref t4) := hv0
  have lt4' : s0.IsList t4 (List.toArray _) := lt4
  have hv2 : ∀ x, (Value.int q0.1 tw :: x)[Int.toNat 0]? = some (Value.int q0.1 tw) := fun _ => rfl
  have hv3 := hv2 ‹List Value›
  refine hNo9 ?_
  clear hNo9
  k_steps
  rename Fr _ _ _ _ => F1
  rename News _ _ _ _ => N1
  rename _ = Data.cell (some (Value.int _ _)) => d9
  refine h _ _ _ ⟨_, ot, op, on, oa, F1, fun p hp => N1 p ?nw, d9, d2, d3, d4, d5⟩ (fun a o q _ e => hBN.2.2.get e q.1 q.2 F1 N1 ?kb)
  case nw => first | exact List.mem_append_left led hp | exact .tail _ (List.mem_append_left led hp)
  case kb => intro p hp; simp only [List.mem_cons, hp, or_true]
theorem st_octets {s0 : Heap} {toks : Nat} {Q : Flow → Shared → Prop}
    (X : (hd.heap_1 w.params).In g) (T : Top p loose mean mg mb g) (hdp : dp + 40 < recursionLimit) (hun : un + 8 * 40 < cLine) (h48 : @LT.lt Nat _ 248 L) (sa na pa fra lea ga aa noa pia : Addr) (to fi : Value) (ps : Array Value) (ux uy : UInt8) (tp : Tok) (pcs : List Pcs) (wy : Int) (tw : Tok) (htot : (pcs.flatMap (·.2.1)).length ≤ 100)
    (hp : Rep (PP L) s0 (.ref pa) (.lst (pcs.map pieceD)))
    (S : LawAt g L s0 (lawM (some (.ref sa)) (some (.ref na)) (some (.ref pa)) (some (to)) (some (.ref fra)) (some (fi)) (some (.ref lea)) (some (.ref ga)) (some (.ref pia)) none none none none none none none none none) (some (.ref aa)) (some (.ref noa)) (some (.bytes #[ux, uy] tp)) none (some (.int wy tw)) ps)
    (h : ∀ h' tk' oc ov, LawAt g L h' (lawM (some (.ref sa)) (some (.ref na)) (some (.ref pa)) (some (to)) (some (.ref fra)) (some (fi)) (some (.ref lea)) (some (.ref ga)) (some (.ref pia)) (some (.ref oc)) none none none none none none none none) (some (.ref aa)) (some (.ref noa)) (some (.bytes #[ux, uy] tp)) none (some (.int wy tw)) ps → h'.IsList oc (List.toArray ov) → IntsAre ov (pcs.flatMap (·.2.1)) → Kept (PP L) s0 h' → Q .next ⟨h', gens, drawn, tk', os⟩) :
    wpAny (model PySem.Challenge.rw_qh0094_01.row.prog w) (Ar dp un fr gd) (exec (lawBody.getD 14 (.Pass default)) (lawEnv L fa)) Q E ⟨s0, gens, drawn, toks, os⟩ := by
  show wpAny _ _ (exec (Stmt.Assign _ _ _) (envOfC _ lawScope _ _ _)) _ _ _
  conv in lawScope => whnf
  refine @by_no _ fun hNo9 => ?_
  obtain ⟨ow, ot, op, on, oa, F, N, d1, d2, d3, d4, d5⟩ := S
  refine hNo9 ?_
  clear hNo9
  revert X; k_fill; intro X
  refine @by_no _ fun hNo9 => ?_
  obtain ⟨_, pv, e, hpp, lpa, hr⟩ := hp.list_inv
  cases e
  refine hNo9 ?_
  clear hNo9
  k_dflt (refine assign_flat (pcs := pcs) (cl := []) F (by rfl) (by with_unfolding_all rfl) (by rfl) (by decide) (by rfl) (by decide) (by rfl) (by rfl) (by rfl) (by rfl) (by rfl) (by rfl) (by rfl) (by decide) (by decide) (by decide) htot ?_)
  k_steps
  refine ⟨pa, pv, rfl, lpa, hr.weaken fun _ _ => trivial, F, ?_⟩
  intro Dd h4 tk4 ys O hy
  exact h _ _ _ _ ⟨ow, ot, op, on, oa, Fr.congr O.F lm_octets, fun p hp => ⟨O.keep _ _ (N p hp).2.1 (N p hp).1, (N p hp).2⟩, d1, d2, d3, d4, d5⟩ ⟨_, O.get, rfl, _, rfl⟩ hy (fun a o q _ e => O.keep a o q.1 e)
theorem st_written {s0 : Heap} {toks : Nat} {Q : Flow → Shared → Prop}
    (X : (hd.heap_1 w.params).In g) (T : Top p loose mean mg mb g) (hdp : dp + 40 < recursionLimit) (hun : un + 8 * 40 < cLine) (h48 : @LT.lt Nat _ 248 L) (sa na pa fra lea ga aa noa pia oca : Addr) (to fi : Value) (ps : Array Value) (ux uy : UInt8) (tp : Tok) (pok : PairOk ux.toNat uy.toNat) (ov : List Value) (os9 : List Int) (wy : Int) (tw : Tok) (hk : K4 wy) (hoc : Oct os9) (htot : os9.length ≤ 100)
    (ha : Rep (PP L) s0 (.ref aa) (.lst ((AL ux.toNat uy.toNat).map fun al => .lst (al.map .int)))) (lo : s0.IsList oca ov.toArray) (hio : IntsAre ov os9)
    (S : LawAt g L s0 (lawM (some (.ref sa)) (some (.ref na)) (some (.ref pa)) (some (to)) (some (.ref fra)) (some (fi)) (some (.ref lea)) (some (.ref ga)) (some (.ref pia)) (some (.ref oca)) none none none none none none none none) (some (.ref aa)) (some (.ref noa)) (some (.bytes #[ux, uy] tp)) none (some (.int wy tw)) ps)
    (h : ∀ h' tk' bw tb, KBw.bInts bw = wrK ux.toNat uy.toNat wy os9 → LawAt g L h' (lawM (some (.ref sa)) (some (.ref na)) (some (.ref pa)) (some (to)) (some (.ref fra)) (some (fi)) (some (.ref lea)) (some (.ref ga)) (some (.ref pia)) (some (.ref oca)) (some (.bytes bw tb)) none none none none none none none) (some (.ref aa)) (some (.ref noa)) (some (.bytes #[ux, uy] tp)) none (some (.int wy tw)) ps → Kept (PP L) s0 h' → Q .next ⟨h', gens, drawn, tk', os⟩) :
    wpAny (model PySem.Challenge.rw_qh0094_01.row.prog w) (Ar dp un fr gd) (exec (lawBody.getD 15 (.Pass default)) (lawEnv L fa)) Q E ⟨s0, gens, drawn, toks, os⟩ := by
  have hpo := S.pp _ _ lo
  show wpAny _ _ (exec (Stmt.Assign _ _ _) (envOfC _ lawScope _ _ _)) _ _ _
  conv in lawScope => whnf
  refine @by_no _ fun hNo9 => ?_
  obtain ⟨ow, ot, op, on, oa, F, N, d1, d2, d3, d4, d5⟩ := S
  refine hNo9 ?_
  clear hNo9
  revert X; k_fill; intro X
  refine @by_no _ fun hNo9 => ?_
  obtain ⟨_, av, e, haa, laa, har⟩ := ha.list_inv
  cases e
  have hkb := hk.bd
  have hkb2 : 0 ≤ wy ∧ wy < 2 ^ 62 := by omega
  obtain ⟨va, hva, ra4⟩ := har.get wy.toNat (.int 0) (by rw [List.length_map]; show wy.toNat < 4; omega)
  rw [map_getD _ _ _ [] _ (by show wy.toNat < 4; omega)] at ra4
  obtain ⟨sb, sav, rfl, psb, lsa, hsa⟩ := ra4.list_inv
  have hsi := rep_ints hsa
  obtain ⟨led, hBN⟩ := base_of F N
  have own := hBN.2.1
  have N := hBN.1
  have B := hBN.2.2
  simp only [List.cons_append, List.nil_append] at N
  have n0 : aa ≠ L := haa.1
  have n1 : aa ∉ [(L + 1 + 1 + 1 + 1 + 1, ow), (L + 1 + 1 + 1 + 1, ot), (L + 1 + 1 + 1, op), (L + 1 + 1, on), (L + 1, oa), (248, tabObj ps)].map (·.1) := haa.2
  refine hNo9 ?_
  clear hNo9
  k_steps
  all_goals (
    k_dflt (refine' use_spec (sp_writtenK pok oca sb ov sav os9 wy _ _ hk (by (try simp only [decide_eq_true_eq, decide_eq_false_iff_not] at *); split <;> first | rfl | omega) hio hsi (by omega) hoc) ?F ?N ?X ?T ?hp ?hd ?hu ?_; (case F => k_asm); (case N => k_asm); (case X => k_asm); (case T => k_asm); (case hp => exact ⟨lo, lsa⟩); (case hd => omega); (case hu => omega); k_whole)
    intro v' h' tk' F' N' st' hv'
    obtain ⟨r', t', hv', hr'⟩ := hv'
    subst hv'
    k_steps
    rename Fr _ _ _ _ => F8
    rename News _ _ _ _ => N8
    refine h _ _ _ _ hr' ⟨ow, ot, op, on, oa, Fr.congr F8 lm_written, fun p hp => N8 p ?nw, d1, d2, d3, d4, d5⟩ (fun a o q _ e => hBN.2.2.get e q.1 q.2 F8 N8 ?kb)
    case nw => exact List.mem_append_left led hp
    case kb => intro p hp; simp only [List.mem_cons, hp, or_true])
theorem st_ones {s0 : Heap} {toks : Nat} {Q : Flow → Shared → Prop}
    (X : (hd.heap_1 w.params).In g) (T : Top p loose mean mg mb g) (hdp : dp + 40 < recursionLimit) (hun : un + 8 * 40 < cLine) (h48 : @LT.lt Nat _ 248 L) (sa na pa fra lea ga aa noa pia oca : Addr) (to fi wr : Value) (ps : Array Value) (ux uy : UInt8) (tp : Tok) (pcs : List Pcs) (wy : Int) (tw : Tok) (hpl : pcs.length ≤ 1000) (ono : Obj) (hno : s0.get? noa = some ono) (hnP : PP L noa)
    (hg : Rep (PP L) s0 (.ref ga) (.lst (pcs.map (givenD ux.toNat uy.toNat))))
    (S : LawAt g L s0 (lawM (some (.ref sa)) (some (.ref na)) (some (.ref pa)) (some (to)) (some (.ref fra)) (some (fi)) (some (.ref lea)) (some (.ref ga)) (some (.ref pia)) (some (.ref oca)) (some (wr)) none none none none none none none) (some (.ref aa)) (some (.ref noa)) (some (.bytes #[ux, uy] tp)) none (some (.int wy tw)) ps)
    (h : ∀ h' tk' ona, LawAt g L h' (lawM (some (.ref sa)) (some (.ref na)) (some (.ref pa)) (some (to)) (some (.ref fra)) (some (fi)) (some (.ref lea)) (some (.ref ga)) (some (.ref pia)) (some (.ref oca)) (some (wr)) (some (.ref ona)) none none none none none none) (some (.ref aa)) (some (.ref noa)) (some (.bytes #[ux, uy] tp)) none (some (.int wy tw)) ps → Rep (fun a => a ≠ noa ∧ PP L a) h' (.ref ona) (.lst (pcs.map (oneD ux.toNat uy.toNat))) → Kept (PP L) s0 h' → Q .next ⟨h', gens, drawn, tk', os⟩) :
    wpAny (model PySem.Challenge.rw_qh0094_01.row.prog w) (Ar dp un fr gd) (exec (lawBody.getD 16 (.Pass default)) (lawEnv L fa)) Q E ⟨s0, gens, drawn, toks, os⟩ := by
  show wpAny _ _ (exec (Stmt.Assign _ _ _) (envOfC _ lawScope _ _ _)) _ _ _
  conv in lawScope => whnf
  refine @by_no _ fun hNo9 => ?_
  obtain ⟨ow, ot, op, on, oa, F, N, d1, d2, d3, d4, d5⟩ := S
  refine hNo9 ?_
  clear hNo9
  revert X; k_fill; intro X
  refine @by_no _ fun hNo9 => ?_
  obtain ⟨_, gv, e, hgp, lga, hgr⟩ := hg.list_inv
  cases e
  have hglen : gv.length = pcs.length := by rw [hgr.length]; simp
  refine hNo9 ?_
  clear hNo9
  k_dflt (refine assign_comp (PX := fun a => a ≠ noa) (cl := []) F (by rfl) (by with_unfolding_all rfl) (by rfl) (by decide) (by rfl) (by decide) (by rfl) (by rfl) ?_)
  k_steps
  refine cs_list rfl F (fun k => oneD ux.toNat uy.toNat (pcs.getD k default)) (by rw [sizeLine_eq]; omega) lga ?el ?fin
  case el =>
    intro I C Dd h4 ys XX kx v hkx hv
    refine @by_no _ fun hNo9 => ?_
    try dsimp only at hv
    obtain ⟨q, hq⟩ : ∃ q, pcs[kx]? = some q := ⟨_, List.getElem?_eq_getElem (by omega)⟩
    obtain ⟨v', e', R9⟩ := hgr.get kx (.int 0) (by rw [List.length_map]; omega)
    cases hv.symm.trans e'
    rw [List.getD_eq_getElem?_getD, List.getElem?_map, hq] at R9
    refine hNo9 ?_
    clear hNo9
    show ElTurn _ _ _ _ _ _ _ _ _ _ _ _ _ _ _ _ _ (oneD ux.toNat uy.toNat (pcs.getD kx default))
    rw [show pcs.getD kx default = q by rw [List.getD_eq_getElem?_getD, hq]; rfl]
    refine @by_no _ fun hNo9 => ?_
    replace R9 : Rep _ s0 v (.lst [.int q.1, .byt (wrK ux.toNat uy.toNat q.1 q.2.1), .int q.2.2]) := R9
    obtain ⟨t4, tvs, rfl, pt, lt4, R9⟩ := R9.list_inv
    obtain ⟨_, _, rfl, ri, R9⟩ := R9.cons_inv
    obtain ⟨_, _, rfl, rb, R9⟩ := R9.cons_inv
    obtain ⟨_, _, rfl, rj, R9⟩ := R9.cons_inv
    obtain rfl := R9.nil_inv
    obtain ⟨tw, rfl⟩ := ri.int_inv
    obtain ⟨tj, rfl⟩ := rj.int_inv
    obtain ⟨bb, tb, rfl, hbb⟩ := rb.byt_inv
    have lt5 : h4.IsList t4 _ := isList_keep lt4 fun o e => XX.keep _ o (isList_ne F.ns lt4) e
    refine hNo9 ?_
    clear hNo9
    refine elTurn_name XX (lits := litsL L ow ot op on oa ps) N (by rfl) (by rfl) ?_
    intro h5 tk5 oI oC mC Z m1
    have lro5 : h5.IsList t4 _ := isList_keep lt5 fun o e => Z.keep _ o (ne_fresh lt4 XX.Cs) e
    obtain ⟨led5, hBN⟩ := base_of Z.F Z.N
    have N5 := hBN.1
    have own5 := hBN.2.1
    have B5 := hBN.2.2
    have F5 := Z.F
    have nsC := Z.nsC
    have p1 := lits_off (oI := oI) (oC := oC) (ys := ys) (h' := s0) F N d1 d2 d3 d4 d5 XX.Is XX.Cs XX.Ds lt4
    have q1 := isList_ne F.ns lt4
    simp only [List.cons_append, List.nil_append] at N5
    clear N F
    k_steps
    rename Fr _ _ _ _ => F8
    rename News _ _ _ _ => N8
    have hA := (by assumption : _ ∧ _ ∧ _ ∧ _ ∧ _ ∧ _ ∧ _ ∧ _ ∧ _ ∧ AllLt _ led5)
    have z := N8 _ (.head _)
    have hf := fresh_led hBN.2.2 z.2.2 z.2.1 (by
      simp only [List.map_cons, List.map_nil, List.mem_cons, List.not_mem_nil, or_false, not_or]
      exact ⟨Nat.ne_of_gt hA.1, Nat.ne_of_gt hA.2.1, Nat.ne_of_gt hA.2.2.1, Nat.ne_of_gt hA.2.2.2.1, Nat.ne_of_gt hA.2.2.2.2.1, Nat.ne_of_gt hA.2.2.2.2.2.1, Nat.ne_of_gt hA.2.2.2.2.2.2.1, Nat.ne_of_gt hA.2.2.2.2.2.2.2.1, Nat.ne_of_gt hA.2.2.2.2.2.2.2.2.1⟩) hA.2.2.2.2.2.2.2.2.2
    have hn5 : h5.get? noa = some ono := Z.keep _ _ (fun q => by have := XX.Cs; rw [← q, hno] at this; cases this) (XX.keep _ _ hnP.1 hno)
    exact el_end Z hBN.2.2 hBN.1 F8 N8 (fun p hp => .tail _ hp) (.lst ⟨by refine neN ?_; omega, fun q => by rw [q, hn5] at hf; cases hf⟩ (News.isList N8 (.head _)) (.cons (.int _ _) (.cons (.byt _ hbb) .nil)))
  case fin =>
    intro Dd h4 tk4 ys O
    have S' : LawAt g L h4 (lawM (some (.ref sa)) (some (.ref na)) (some (.ref pa)) (some (to)) (some (.ref fra)) (some (fi)) (some (.ref lea)) (some (.ref ga)) (some (.ref pia)) (some (.ref oca)) (some (wr)) (some (.ref Dd)) none none none none none none) (some (.ref aa)) (some (.ref noa)) (some (.bytes #[ux, uy] tp)) none (some (.int wy tw)) ps :=
      ⟨ow, ot, op, on, oa, Fr.congr O.F lm_ones, fun p hp => ⟨O.keep _ _ (N p hp).2.1 (N p hp).1, (N p hp).2⟩, d1, d2, d3, d4, d5⟩
    have lD : h4.IsList Dd ys.toArray := ⟨_, O.get, rfl, _, rfl⟩
    refine h _ _ _ S' (.lst ⟨fun q => (by have := O.new; rw [q, hno] at this; cases this), S'.pp _ _ lD⟩ lD ?rp) (fun a o q _ e => O.keep a o q.1 e)
    case rp =>
      have e : (List.range gv.length).map (fun k => oneD ux.toNat uy.toNat (pcs.getD k default)) = pcs.map (oneD ux.toNat uy.toNat) := by
        rw [hglen]; exact map_range_getD _ _ _
      rw [← e]
      exact (O.reps.onL S'.pp).weaken fun a p => ⟨p.1.2.2, p.2⟩

theorem begin_L8 : True := by
  w_on
  w_top off
  k_with_none
  k_with "om" => (law_clear; first | with_reducible assumption | (law_purse 20000 => grind))
  k_with "guard" => skip
  trivial
set_option maxHeartbeats 4000000
theorem kw_L8_1 : True := by
  k_with_none
  k_with "om" => (law_clear; first | with_reducible assumption | (law_purse 20000 => grind))
  k_with "eval BinOp" => (k_here; (with_reducible show wpAny _ _ (eval (Expr.BinOp (Expr.Name _ _) _ (Expr.Constant (Const.int _) _ _) _) _) _ _ _); k_dflt (refine binNC (by k_asm) (by rfl) ?_ (by rfl) (by rfl) (by decide)); (try dsimp only))
  k_with "eval BinOp" => (k_here; (with_reducible show wpAny _ _ (eval (Expr.BinOp (Expr.Name _ _) _ (Expr.Name _ _) _) _) _ _ _); k_dflt (refine binNN (by k_asm) (by rfl) (by rfl) ?_ (by rfl) (by rfl) (by rfl) (by decide) (by decide)); (try dsimp only))
  k_with "isTrue Compare" => (k_here; (with_reducible show wpAny _ _ (isTrue (Expr.Compare (Expr.Name _ _) [_] [Expr.Constant (Const.int _) _ _] _) _ _) _ _ _); k_dflt (refine isNC (by k_asm) (by rfl) ?_ (by rfl) (by rfl) (by decide) (by with_unfolding_all rfl)); (try dsimp only))
  k_with "guard" => ((fail_if_success (with_reducible show Exists _)); (fail_if_success (with_reducible show wpAny _ _ (pyIter _) _ _ _)); (fail_if_success (with_reducible show wpAny _ _ (exec (Stmt.For _ _ _ _ _) _) _ _ _)); (fail_if_success (with_reducible show wpAny _ _ (exec (Stmt.While _ _ _ _) _) _ _ _)); (fail_if_success (with_reducible show wpAny _ _ (eval (Expr.ListComp _ _ _ _) _) _ _ _)); (fail_if_success (with_reducible show wpAny _ _ (exec (Stmt.Assign _ (Expr.ListComp _ _ _ _) _) _) _ _ _)); (fail_if_success (with_reducible show wpAny _ _ (call (Value.ref 206) _ _) _ _ _)); (fail_if_success (with_reducible show wpAny _ _ (call (Value.ref 213) _ _) _ _ _)); (fail_if_success (with_reducible show wpAny _ _ (call (Value.ref 47) _ _) _ _ _)); (fail_if_success (with_reducible show wpAny _ _ (call (Value.ref 234) _ _) _ _ _)); (fail_if_success (with_reducible show wpAny _ _ (call (Value.ref 227) _ _) _ _ _)); (fail_if_success (with_reducible show wpAny _ _ (call (Value.ref 241) _ _) _ _ _)); (fail_if_success (with_reducible show wpAny _ _ (call (Value.ref 246) _ _) _ _ _)); (fail_if_success (with_reducible show wpAny _ _ (compareOp CmpOp.NotEq (Value.ref _) (Value.ref _)) _ _ _)); (fail_if_success (with_reducible show ElEnd _ _ _ _ _ _ _ _ _ _ _ _ _)); (fail_if_success (with_reducible show CSrc _ _ _ _ _ _ _ _ _ _ _ _ _ _ _ _)))
  k_with "eval Name" => (k_here; (with_reducible show wpAny _ _ (eval (Expr.Name _ _) (envOfC _ _ _ _ _)) _ _ _); k_dflt (first | (refine name_BC (by k_asm) (by k_asm) (by k_asm) (by k_is) (by boot_by_name) (by decide) (by rfl) (by decide +kernel) (by decide) ?_) | (refine name_GC (by k_asm) (by k_asm) (by k_asm) (by k_is) (by rfl) (by decide +kernel) (by decide) ?_)))
  k_with "callWith ref" => (k_here; (with_reducible show wpAny _ _ (callWith _ (Value.ref _) _ _ _) _ _ _); k_dflt (refine callWith_K (by k_asm) (by k_is) ?_; k_whole))
  k_with "eval Lambda" => ((k_here; k_dflt (refine lam_nest (by k_asm) (by k_asm) (by k_asm) (by assumption) (by k_updF) (by (simp [TriplesOk, rawInt]; done)) (by (simp [codeAmong, rawInt]; done)) (by exact rfl) (by exact rfl) ?_); intro f' lo' c' oc' vs' t' ct' h' tk' elo' F' N' d1' d2' l1 l2; (try dsimp only at N'); (try k_lt l1); (try k_lt2 l2)); (try (revert f' lo' c' oc' vs' t' ct' h' tk' elo' F' N' d1' d2' l1 l2; intros)))
  k_with "call builtin:sum" => ((k_here; (with_reducible show wpAny _ _ (call (Value.builtin "sum") [Value.ref _]) _ _ _); k_dflt (refine sum_any (by k_asm) (by k_asm) (by rfl) (by is_list) (by assumption) ?_); intro h' tk' t' F' N'); (try (revert h' tk' t' F' N'; intros)))
  k_with "call type:list" => ((k_here; (with_reducible show wpAny _ _ (call (Value.type "list") [Value.bytes _ _]) _ _ _); k_dflt (refine list_bytes (by k_asm) (by k_asm) (by rfl) _ _ _ (by exact rfl) (by (rw [sizeLine_eq]; first | decide | exact Nat.le_of_ble_eq_true rfl)) ?_; k_whole); intro D' h' tk' vs' c' hLn' hI' F' N' l1; (try simp only [List.size_toArray, List.length_cons, List.length_nil] at hLn'); (try k_lt l1)); (try (revert D' h' tk' vs' c' hLn' hI' F' N' l1; intros)))
  k_with "binaryOp Add ref ref" => ((k_here; (with_reducible show wpAny _ _ (binaryOp _ (Value.ref _) (Value.ref _)) _ _ _); k_dflt (refine kmk_add_lit (by k_asm) (by k_asm) (by is_list) (by is_list) (by exact rfl) ?_ (by (simp only [sizeLine_eq, List.toList_toArray, List.length_cons, List.length_nil]; omega))); intro D' h' F' N' l1; (try k_lt l1); (try k_sweep); (try simp only [List.toList_toArray] at N')); (try (revert D' h' F' N' l1; intros)))
  k_with "call type:bytes" => ((k_here; (with_reducible show wpAny _ _ (call (Value.type "bytes") [Value.ref _]) _ _ _); k_dflt (refine KBa.make_K (by k_asm) (by k_asm) (by rfl) (by first | assumption | is_list) (by assumption) (by assumption) (by omega) ?_); intro h' t' k' F' N' hr'); (try (revert h' t' k' F' N' hr'; intros)))
  k_with "subscriptTail" => (k_here; (with_reducible show wpAny _ _ (subscriptTail _ _ (Value.ref _) (Value.int (-1) _)) _ _ _); (refine kde_neg (by is_list) (by decide) (by decide) (seqIndex_l1 _ _) (get_l1 _ _) ?_))
  trivial
theorem slice_rev {prog : Program} {w : World} {A : Around} {E : Value → Shared → Prop} {s : Shared} {h₀ : Heap} {L : Addr} {m : Str → Option Value} {news : List (Addr × Obj)} {value slice : Expr} {l : Addr} {us : List Value} {t : Tok} {ops : List Value} {Q : Value → Shared → Prop}
    (F : Fr h₀ L s.heap m) (N : News h₀ L s.heap news) (hl : s.heap.IsList l us.toArray)
    (h : ∀ D h', Fr h₀ L h' m → News h₀ L h' ((D, listOf us.reverse.toArray 0) :: news) → (∀ p ∈ news, p.1 < D) → Q (.ref D) { s with heap := h' })
    (hsz : us.length ≤ 10000)
    (hs : subscripted slice false (.ref l) (.ref s.heap.objs.size) = operate ops (getItem (.ref l) (.ref s.heap.objs.size)))
    (ht : ∀ r, letTemporaryGo value (.ref l) r = pure ()) :
    wpAny (model prog w) A (subscriptTail value slice (.ref l) (.ref s.heap.objs.size)) Q E { s with heap := s.heap.push { cls := .type "slice", data := .fields #[.none, .none, .int (-1) t] } } :=
  krv_lit (its := us.toArray) (zs := us.reverse) F N hl (IsPart.int _ _) rfl h hs ht (by rw [List.size_toArray, sizeLine_eq]; omega)
theorem pick_tl (v0 : Value) (us : List Value) : slicePick (v0 :: us).toArray (some 1) none none = us.toArray := by
  rw [kmk_pick_nat (a := 1) (b := us.length + 1)]
  · simp
  · unfold sliceBounds
    simp
    omega
theorem slice_tl {prog : Program} {w : World} {A : Around} {E : Value → Shared → Prop} {s : Shared} {h₀ : Heap} {L : Addr} {m : Str → Option Value} {news : List (Addr × Obj)} {value slice : Expr} {l : Addr} {v0 : Value} {us : List Value} {t : Tok} {Q : Value → Shared → Prop}
    (F : Fr h₀ L s.heap m) (N : News h₀ L s.heap news) (hl : s.heap.IsList l (v0 :: us).toArray)
    (h : ∀ D h', Fr h₀ L h' m → News h₀ L h' ((D, listOf us.toArray 0) :: news) → (∀ p ∈ news, p.1 < D) → Q (.ref D) { s with heap := h' })
    (hsz : us.length ≤ 10000)
    (hs : subscripted slice false (.ref l) (.ref s.heap.objs.size) = operate [.ref s.heap.objs.size, .ref l] (getItem (.ref l) (.ref s.heap.objs.size)) := by with_unfolding_all rfl)
    (ht : ∀ r, letTemporaryGo value (.ref l) r = pure () := by intro _; with_unfolding_all rfl) :
    wpAny (model prog w) A (subscriptTail value slice (.ref l) (.ref s.heap.objs.size)) Q E { s with heap := s.heap.push { cls := .type "slice", data := .fields #[.int 1 t, .none, .none] } } := by
  refine kmk_slice (lo := some 1) (hi := none) F N hl (by constructor) (by constructor) (fun D h' F' N' l1 => ?_) hs ht (by simp only [List.size_toArray, List.length_cons, sizeLine_eq]; omega)
  rw [pick_tl] at N'
  exact h D h' F' N' l1
theorem kw_L8_2 : True := by
  k_with "subscriptTail Name Slice ref ref" => ((k_here; (with_reducible show wpAny _ _ (subscriptTail _ (PySem.Expr.Slice none none (some _) _) (Value.ref _) (Value.ref _)) _ _ _); (with_reducible rename Fr _ _ _ _ => F'); (with_reducible rename News _ _ _ _ => N'); k_dflt (refine slice_rev (s := ⟨_, _, _, _, _⟩) F' N' (by is_list) ?_ (by omega) (by with_unfolding_all rfl) (by (intro _; with_unfolding_all rfl))); intro D' h' F' N' l1; (try k_lt l1); (try k_sweep); (try dsimp only)); (try (revert D' h' F' N' l1; intros)))
  k_with "subscriptTail Name Slice ref ref" => ((k_here; (with_reducible show wpAny _ _ (subscriptTail _ (PySem.Expr.Slice (some _) none none _) (Value.ref _) (Value.ref _)) _ _ _); (with_reducible rename Fr _ _ _ _ => F'); (with_reducible rename News _ _ _ _ => N'); k_dflt (refine slice_tl (s := ⟨_, _, _, _, _⟩) F' N' (by is_list) ?_ (by omega)); intro D' h' F' N' l1; (try k_lt l1); (try k_sweep); (try dsimp only)); (try (revert D' h' F' N' l1; intros)))
  trivial
theorem use_red {f : Addr} {pos : List Value} {k : Nat} {noa : Addr} {on : Obj} {pre : Heap → Prop} {post : Value → Heap → Prop}
    {dp un : Nat} {fr : Option (List Env)} {gd : Option (List Code)} {s : Shared} {Q E : Value → Shared → Prop} {g : Heap} {L : Addr} {m : Str → Option Value} {news : List (Addr × Obj)}
    (C : SpecN f pos k noa pre (fun _ => post)) (hpost : ∀ v h', post v h' → h'.get? noa = some on) (F : Fr g L s.heap m) (N : News g L s.heap news) (X : (hd.heap_1 w.params).In g) (T : Top p loose mean mg mb g) (hgn : g.get? noa = none) (hn : s.heap.get? noa = some on)
    (hp : pre s.heap) (hd : dp + k < recursionLimit) (hu : un + 8 * k < cLine)
    (h : ∀ v h' tk', Fr g L h' m → News g L h' news → (∀ a o, s.heap.get? a = some o → h'.get? a = some o) → post v h' → Q v { s with heap := h', toks := tk' }) :
    wpAny (model PySem.Challenge.rw_qh0094_01.row.prog w) (Ar dp un fr gd) (call (.ref f) pos) Q E s := by
  refine use_specN C X T F.keep hgn hp hd hu fun v h' tk' kk hv => ?_
  have st : ∀ a o, s.heap.get? a = some o → h'.get? a = some o := fun a o e => by
    by_cases q : a = noa
    · subst q
      rw [hn] at e
      cases e
      exact hpost v h' hv
    · exact kk a o q e
  exact h v h' tk' (F.keeps st) (fun p hp => ⟨st _ _ (N p hp).1, (N p hp).2⟩) st hv

theorem Reps.reverse9 {P : Addr → Prop} {h : Heap} : ∀ {vs : List Value} {ds : List D}, Reps P h vs ds → Reps P h vs.reverse ds.reverse
  | _, _, .nil => .nil
  | _, _, .cons x r => by rw [List.reverse_cons, List.reverse_cons]; exact (Reps.reverse9 r).append (.one x)
theorem ne_39 {w : World} {g h : Heap} {L a : Addr} {m : Str → Option Value} {items : Array Value} (X : (hd.heap_1 w.params).In g) (F : Fr g L h m) (l : h.IsList a items) {oy : Obj} (hy : (hd.heap_1 w.params).lookup 39 = some oy) (hc : oy.cls ≠ .type "list") : @Ne Nat a 39 := by
  rintro rfl
  refine @by_no _ fun hNo9 => ?_
  obtain ⟨o, e, c, _⟩ := l
  rw [F.keep _ _ (X _ _ hy)] at e
  cases e
  refine hNo9 ?_
  clear hNo9
  exact hc c
theorem led_lt {g h : Heap} {L a d : Addr} {lits : List Addr} {led : List (Addr × Obj)} {o : Obj} (B : Base g L lits h led) (e : h.get? a = some o) (hL : a ≠ L) (hl : a ∉ lits) (hg : g.get? a = none) (hA : AllLt d led) : d ≠ a := fun q => absurd (allLt_mem hA _ (B.full a o e hL hl hg)) (by rw [q]; exact Nat.lt_irrefl _)
noncomputable abbrev PS5 (c0 c1 c2 c3 c4 c5 : Addr) : Array Value := #[] ++ #[rawInt 293, rawInt 0, .ref c0] ++ #[rawInt 301, rawInt 0, .ref c1] ++ #[rawInt 302, rawInt 0, .ref c2] ++ #[rawInt 303, rawInt 0, .ref c3] ++ #[rawInt 304, rawInt 0, .ref c4] ++ #[rawInt 305, rawInt 0, .ref c5]
structure EndsAt (x y : Int) (L ona pia noa ra0 : Addr) (on : Obj) (es qs ezs : List Value) (q0 ez : Value) (rt zt pt : List Rw) (r0 z0 p0 : Rw) (h : Heap) : Prop where
  lon : h.IsList ona (Value.ref ra0 :: es).toArray
  lpi : h.IsList pia (q0 :: qs).toArray
  la0 : ∃ us : List Value, h.IsList ra0 us.toArray
  re0 : Rep (fun a => a ≠ noa ∧ PP L a) h (.ref ra0) (toldRow x y r0)
  res : Reps (fun a => a ≠ noa ∧ PP L a) h es (rt.map (toldRow x y))
  rez : Rep (fun a => a ≠ noa ∧ PP L a) h ez (toldRow x y z0)
  rezs : Reps (fun a => a ≠ noa ∧ PP L a) h ezs (zt.map (toldRow x y))
  rq0 : Rep (fun a => a ≠ noa ∧ PP L a) h q0 (toldRow x y p0)
  rqs : Reps (fun a => a ≠ noa ∧ PP L a) h qs (pt.map (toldRow x y))
  hn : h.get? noa = some on
theorem EndsAt.kept {x y : Int} {L ona pia noa ra0 : Addr} {on : Obj} {es qs ezs : List Value} {q0 ez : Value} {rt zt pt : List Rw} {r0 z0 p0 : Rw} {h h' : Heap} (Z : EndsAt x y L ona pia noa ra0 on es qs ezs q0 ez rt zt pt r0 z0 p0 h)
    (po : ona ≠ noa ∧ PP L ona) (pp : pia ≠ noa ∧ PP L pia) (pa : ra0 ≠ noa ∧ PP L ra0) (pn : PP L noa) (k : ∀ a o, PP L a → h.get? a = some o → h'.get? a = some o) : EndsAt x y L ona pia noa ra0 on es qs ezs q0 ez rt zt pt r0 z0 p0 h' := by
  have kq : Kept (fun a => a ≠ noa ∧ PP L a) h h' := fun a o q _ e => k a o q.2 e
  obtain ⟨us, la⟩ := Z.la0
  exact ⟨kq.list po Z.lon, kq.list pp Z.lpi, ⟨us, kq.list pa la⟩, Z.re0.kept kq, Z.res.kept kq, Z.rez.kept kq, Z.rezs.kept kq, Z.rq0.kept kq, Z.rqs.kept kq, k _ _ pn Z.hn⟩
theorem st_ends {s0 : Heap} {toks : Nat} {Q : Flow → Shared → Prop}
    (X : (hd.heap_1 w.params).In g) (T : Top p loose mean mg mb g) (hdp : dp + 40 < recursionLimit) (hun : un + 8 * 40 < cLine) (h48 : @LT.lt Nat _ 248 L) (C : CodeHd g 250 248) (sa na pa fra lea ga aa noa pia oca ona c0 : Addr) (to fi : Value) (ux uy : UInt8) (tp : Tok) (pok : PairOk ux.toNat uy.toNat) (bw : Array UInt8) (tb : Tok) (os9 : List Int) (wy : Int) (tw : Tok) (hbw : KBw.bInts bw = wrK ux.toNat uy.toNat wy os9)
    (rs : List Rw) (st9 : List Rw) (hrl : rs.length ≤ 100) (r0 : Rw) (rt : List Rw) (hrt : rs = r0 :: rt) (z0 : Rw) (zt : List Rw) (hzt : rs.reverse = z0 :: zt) (p0 : Rw) (pt : List Rw) (hpt : st9.reverse = p0 :: pt)
    (hrs : ∀ q ∈ rs, RwOk q) (hps : ∀ q ∈ pt, RwOk q) (w1 : ∀ i, i ≤ rt.length → RwOk ((rt.take i).foldl fL r0)) (w2 : ∀ i, i ≤ zt.length → RwOk ((zt.take i).foldl fR z0)) (w4 : ∀ i, i ≤ pt.length → RwOk ((pt.take i).foldl fL p0))
    (e1 : rt.foldl fL r0 = (wy, os9)) (e2 : zt.foldl fR z0 = (wy, os9)) (e4 : pt.foldl fL p0 = (wy, os9)) (hwy : RwOk (wy, os9))
    (hpia : Rep (fun a => a ≠ noa ∧ PP L a) s0 (.ref pia) (toldD ux.toNat uy.toNat st9)) (hones : Rep (fun a => a ≠ noa ∧ PP L a) s0 (.ref ona) (.lst (rs.map (toldRow ux.toNat uy.toNat))))
    (hng : g.get? noa = none) (nv : List Value) (nn : Nat) (hn : s0.get? noa = some (W.listOf nv.toArray nn))
    (S : LawAt g L s0 (lawM (some (.ref sa)) (some (.ref na)) (some (.ref pa)) (some (to)) (some (.ref fra)) (some (fi)) (some (.ref lea)) (some (.ref ga)) (some (.ref pia)) (some (.ref oca)) (some (.bytes bw tb)) (some (.ref ona)) none none none none none none) (some (.ref aa)) (some (.ref noa)) (some (.bytes #[ux, uy] tp)) none (some (.int wy tw)) (#[] ++ #[rawInt 293, rawInt 0, .ref c0]))
    (h : ∀ h' tk' ena c1 c2 c3 c4 c5, LawAt g L h' (lawM (some (.ref sa)) (some (.ref na)) (some (.ref pa)) (some (to)) (some (.ref fra)) (some (fi)) (some (.ref lea)) (some (.ref ga)) (some (.ref pia)) (some (.ref oca)) (some (.bytes bw tb)) (some (.ref ona)) (some (.ref ena)) none none none none none) (some (.ref aa)) (some (.ref noa)) (some (.bytes #[ux, uy] tp)) none (some (.int wy tw)) (PS5 c0 c1 c2 c3 c4 c5) → Rep (PP L) h' (.ref ena) (.lst (List.replicate 5 (toldRow ux.toNat uy.toNat (wy, os9)))) → Kept (PP L) s0 h' → Q .next ⟨h', gens, drawn, tk', os⟩) :
    wpAny (model PySem.Challenge.rw_qh0094_01.row.prog w) (Ar dp un fr gd) (exec (lawBody.getD 17 (.Pass default)) (lawEnv L fa)) Q E ⟨s0, gens, drawn, toks, os⟩ := by
  have hnoP := S.pp noa _ ⟨_, hn, rfl, _, rfl⟩
  show wpAny _ _ (exec (Stmt.Assign _ _ _) (envOfC _ lawScope _ _ _)) _ _ _
  conv in lawScope => whnf
  refine @by_no _ fun hNo9 => ?_
  obtain ⟨ow, ot, op, on, oa, F, N, d1, d2, d3, d4, d5⟩ := S
  refine hNo9 ?_
  clear hNo9
  revert X; k_fill; intro X
  refine @by_no _ fun hNo9 => ?_
  obtain ⟨_, ov, e, hpo, lon, hor⟩ := hones.list_inv
  cases e
  subst hrt
  obtain ⟨e0, es, rfl, re0, res⟩ := hor.cons_inv
  have re0' : Rep _ s0 e0 (.lst [.int r0.1, .byt (wrK ux.toNat uy.toNat r0.1 r0.2)]) := re0
  obtain ⟨ra0, us0, rfl, pra0, lra0, rus0⟩ := re0'.list_inv
  have hesl : es.length = rt.length := by rw [res.length]; simp
  have hrev := hor.reverse
  rw [← List.map_reverse, hzt] at hrev
  obtain ⟨ez, ezs, hez, rez, rezs⟩ := hrev.cons_inv
  have hezl : ezs.length = zt.length := by rw [rezs.length]; simp
  refine hNo9 ?_
  clear hNo9
  unfold toldD at hpia
  refine @by_no _ fun hNo9 => ?_
  rw [hpt] at hpia
  obtain ⟨_, pv, e, hpp, lpi, hpr⟩ := hpia.list_inv
  cases e
  obtain ⟨q0, qs, rfl, rq0, rqs⟩ := hpr.cons_inv
  have hqsl : qs.length = pt.length := by rw [rqs.length]; simp
  refine hNo9 ?_
  clear hNo9
  have hol : (Value.ref ra0 :: es).length ≤ 10000 := by simp only [List.length_cons] at hrl ⊢; omega
  refine @by_no _ fun hNo9 => ?_
  have hol2 : es.length ≤ 10000 := by simp only [List.length_cons] at hrl; omega
  have hx0 : (Value.ref ra0 :: es)[Int.toNat 0]? = some (Value.ref ra0) := rfl
  have k0 : (0 : Int) ≤ 0 ∧ (0 : Int) < 2 ^ 62 := by decide
  have hz0 := hnoP.2
  simp only [lawL, List.mem_cons, List.not_mem_nil, or_false, not_or] at hz0
  have hop : (L + 1 + 1 + 1 : Addr) ≠ noa := Ne.symm hz0.2.2.1
  have kon : KeepO (W.listOf nv.toArray nn) := ⟨nofun, nofun⟩
  have hzs : ∀ q ∈ zt, RwOk q := fun q hq => hrs q (List.mem_reverse.mp (by rw [hzt]; exact .tail _ hq))
  have Z0 : EndsAt ux.toNat uy.toNat L ona pia noa ra0 (W.listOf nv.toArray nn) es qs ezs q0 ez rt zt pt r0 z0 p0 s0 := ⟨lon, lpi, ⟨_, lra0⟩, re0, res, rez, rezs, rq0, rqs, hn⟩
  have hv39 : @Ne Nat ra0 39 := ne_39 X F lra0 (by k_is) (by simp)
  clear lon lpi lra0 re0 res rez rezs rq0 rqs rus0 hrev hor hpr re0' hones hpia
  obtain ⟨lon, lpi, _, re0, res, rez, rezs, rq0, rqs, hn0⟩ := id Z0
  obtain ⟨led, hBN⟩ := base_of F N
  have own := hBN.2.1
  have N := hBN.1
  have B := hBN.2.2
  simp only [List.cons_append, List.nil_append] at N
  have n0 : ona ≠ L := hpo.2.1
  have n1 : ona ∉ [(L + 1 + 1 + 1 + 1 + 1, ow), (L + 1 + 1 + 1 + 1, ot), (L + 1 + 1 + 1, op), (L + 1 + 1, on), (L + 1, oa), (248, tabObj (#[] ++ #[rawInt 293, rawInt 0, .ref c0]))].map (·.1) := hpo.2.2
  have n2 : pia ≠ L := hpp.2.1
  have n3 : pia ∉ [(L + 1 + 1 + 1 + 1 + 1, ow), (L + 1 + 1 + 1 + 1, ot), (L + 1 + 1 + 1, op), (L + 1 + 1, on), (L + 1, oa), (248, tabObj (#[] ++ #[rawInt 293, rawInt 0, .ref c0]))].map (·.1) := hpp.2.2
  refine hNo9 ?_
  clear hNo9
  k_steps
  rename_i f1 lo1 c1 oc1 vs1 t1 ct1 h1 tk1 elo1 F1 N1 dA1 dB1 lA1 lB1
  have ka : ∀ a o, PP L a → s0.get? a = some o → h1.get? a = some o := fun a o q e => B.get e q.1 q.2 F1 N1 (fun p hp => by simp only [List.mem_cons, hp, or_true])
  have kp : Kept (fun a => a ≠ noa ∧ PP L a) s0 h1 := fun a o q _ e => ka a o q.2 e
  have hnH := ka _ _ hnoP hn0
  k_dflt (refine' use_red (red_two1 ux uy tp pok es rt r0 (fun q hq => hrs q (.tail _ hq)) w1 elo1 dA1 dB1 d3 hop ona hpo.1 (.ref ra0) kon hesl) (fun v h' J => J.fix _ (.head _)) F1 N1 X T hng hnH ?pre1 ?hd1 ?hu1 ?_; (case hd1 => omega); (case hu1 => omega); (case pre1 => exact ⟨hnH, kp.list hpo lon, List.forall_mem_cons.mpr ⟨hnH, List.forall_mem_cons.mpr ⟨(N1 _ (.head _)).1, List.forall_mem_cons.mpr ⟨(N1 _ (.tail _ (.head _))).1, List.forall_mem_cons.mpr ⟨(N1 _ (.tail _ (.tail _ (.tail _ (.tail _ (.head _)))))).1, List.forall_mem_nil _⟩⟩⟩⟩, (res.kept kp).weaken fun _ q => q.1, (re0.kept kp).weaken fun _ q => q.1⟩))
  intro v1 g1 tg G M sg J
  dsimp only at G M sg ⊢
  have R1 := J.val
  rw [hesl, List.take_length, e1] at R1
  have Z1 := Z0.kept hpo hpp pra0 hnoP fun a o q e => sg _ _ (ka a o q e)
  replace M : News g L g1 [(L + 1 + 1 + 1 + 1 + 1, ow), (L + 1 + 1 + 1 + 1, ot), (L + 1 + 1 + 1, op), (L + 1 + 1, on), (L + 1, oa), (248, tabObj (#[] ++ #[rawInt 293, rawInt 0, .ref c0] ++ #[rawInt 301, rawInt 0, .ref c1]))] := fun p hp => M p (.tail _ (.tail _ (List.mem_append_left led hp)))
  replace R1 := R1.onL fun a items l => list_PP G M d1 d2 d3 d4 d5 l
  have KP1 : ∀ a o, PP L a → s0.get? a = some o → g1.get? a = some o := fun a o q e => sg _ _ (ka a o q (e))
  clear B own hBN n0 n1 n2 n3 lon lpi re0 res rez rezs rq0 rqs J kp ka sg hnH
  try clear F
  try clear N
  try clear F1
  try clear N1
  try clear lA1
  try clear lB1
  refine @by_no _ fun hNo9 => ?_
  clear Z0 hn0
  have F := G
  have N := M
  clear G M
  obtain ⟨lon, lpi, _, re0, res, rez, rezs, rq0, rqs, hn1⟩ := id Z1
  obtain ⟨led, hBN⟩ := base_of F N
  have own := hBN.2.1
  have N := hBN.1
  have B := hBN.2.2
  simp only [List.cons_append, List.nil_append] at N
  have n0 : ona ≠ L := hpo.2.1
  have n1 : ona ∉ [(L + 1 + 1 + 1 + 1 + 1, ow), (L + 1 + 1 + 1 + 1, ot), (L + 1 + 1 + 1, op), (L + 1 + 1, on), (L + 1, oa), (248, tabObj (#[] ++ #[rawInt 293, rawInt 0, .ref c0] ++ #[rawInt 301, rawInt 0, .ref c1]))].map (·.1) := hpo.2.2
  have n2 : pia ≠ L := hpp.2.1
  have n3 : pia ∉ [(L + 1 + 1 + 1 + 1 + 1, ow), (L + 1 + 1 + 1 + 1, ot), (L + 1 + 1 + 1, op), (L + 1 + 1, on), (L + 1, oa), (248, tabObj (#[] ++ #[rawInt 293, rawInt 0, .ref c0] ++ #[rawInt 301, rawInt 0, .ref c1]))].map (·.1) := hpp.2.2
  refine hNo9 ?_
  clear hNo9
  k_steps
  rename_i f1 lo1 c2 oc1 vs1 t1 ct1 hh1 tk1 elo1 dA1 dB1 lA1 lB1 D1 h1 F1 N1 lD1
  have ka : ∀ a o, PP L a → g1.get? a = some o → h1.get? a = some o := fun a o q e => B.get e q.1 q.2 F1 N1 (fun p hp => by simp only [List.mem_cons, hp, or_true])
  have kp : Kept (fun a => a ≠ noa ∧ PP L a) g1 h1 := fun a o q _ e => ka a o q.2 e
  have hnH := ka _ _ hnoP hn1
  have hD1 : D1 ≠ noa := led_lt B hn1 hnoP.1 hnoP.2 hng lD1.2.2.2.2.2.2.2.2
  have lDD : h1.IsList D1 (ez :: ezs).toArray := by rw [← hez]; exact News.isList N1 (.head _)
  k_dflt (refine' use_red (red_two2 ux uy tp pok ezs zt z0 hzs w2 elo1 dA1 dB1 d3 hop D1 hD1 ez kon hezl) (fun v h' J => J.fix _ (.head _)) F1 N1 X T hng hnH ?pre2 ?hd2 ?hu2 ?_; (case hd2 => omega); (case hu2 => omega); (case pre2 => exact ⟨hnH, lDD, List.forall_mem_cons.mpr ⟨hnH, List.forall_mem_cons.mpr ⟨(N1 _ (.tail _ (.head _))).1, List.forall_mem_cons.mpr ⟨(N1 _ (.tail _ (.tail _ (.head _)))).1, List.forall_mem_cons.mpr ⟨(N1 _ (.tail _ (.tail _ (.tail _ (.tail _ (.tail _ (.head _))))))).1, List.forall_mem_nil _⟩⟩⟩⟩, (rezs.kept kp).weaken fun _ q => q.1, (rez.kept kp).weaken fun _ q => q.1⟩))
  intro v2 g2 tg G M sg J
  dsimp only at G M sg ⊢
  have R2 := J.val
  rw [hezl, List.take_length, e2] at R2
  have Z2 := Z1.kept hpo hpp pra0 hnoP fun a o q e => sg _ _ (ka a o q e)
  replace M : News g L g2 [(L + 1 + 1 + 1 + 1 + 1, ow), (L + 1 + 1 + 1 + 1, ot), (L + 1 + 1 + 1, op), (L + 1 + 1, on), (L + 1, oa), (248, tabObj (#[] ++ #[rawInt 293, rawInt 0, .ref c0] ++ #[rawInt 301, rawInt 0, .ref c1] ++ #[rawInt 302, rawInt 0, .ref c2]))] := fun p hp => M p (.tail _ (.tail _ (.tail _ (List.mem_append_left led hp))))
  replace R1 := R1.kept (h' := g2) fun a o q c e => sg _ _ (kp a o q c e)
  replace R2 := R2.onL fun a items l => list_PP G M d1 d2 d3 d4 d5 l
  have KP2 : ∀ a o, PP L a → s0.get? a = some o → g2.get? a = some o := fun a o q e => sg _ _ (ka a o q (KP1 a o q e))
  clear B own hBN n0 n1 n2 n3 lon lpi re0 res rez rezs rq0 rqs J kp ka sg hnH
  try clear F
  try clear N
  try clear F1
  try clear N1
  try clear lA1
  try clear lB1
  clear Z1 hn1
  try clear lD1
  try clear lD0
  refine @by_no _ fun hNo9 => ?_
  have F := G
  have N := M
  clear G M
  obtain ⟨lon, lpi, ⟨us0, la0⟩, re0, res, rez, rezs, rq0, rqs, hn2⟩ := id Z2
  obtain ⟨led, hBN⟩ := base_of F N
  have own := hBN.2.1
  have N := hBN.1
  have B := hBN.2.2
  simp only [List.cons_append, List.nil_append] at N
  have n0 : ona ≠ L := hpo.2.1
  have n1 : ona ∉ [(L + 1 + 1 + 1 + 1 + 1, ow), (L + 1 + 1 + 1 + 1, ot), (L + 1 + 1 + 1, op), (L + 1 + 1, on), (L + 1, oa), (248, tabObj (#[] ++ #[rawInt 293, rawInt 0, .ref c0] ++ #[rawInt 301, rawInt 0, .ref c1] ++ #[rawInt 302, rawInt 0, .ref c2]))].map (·.1) := hpo.2.2
  have n2 : pia ≠ L := hpp.2.1
  have n3 : pia ∉ [(L + 1 + 1 + 1 + 1 + 1, ow), (L + 1 + 1 + 1 + 1, ot), (L + 1 + 1 + 1, op), (L + 1 + 1, on), (L + 1, oa), (248, tabObj (#[] ++ #[rawInt 293, rawInt 0, .ref c0] ++ #[rawInt 301, rawInt 0, .ref c1] ++ #[rawInt 302, rawInt 0, .ref c2]))].map (·.1) := hpp.2.2
  refine hNo9 ?_
  clear hNo9
  k_steps
  rename_i f1 lo1 c3 oc1 vs1 t1 ct1 hh1 tk1 elo1 dA1 dB1 lA1 lB1 D1 h1 F1 N1 lD1
  have ka : ∀ a o, PP L a → g2.get? a = some o → h1.get? a = some o := fun a o q e => B.get e q.1 q.2 F1 N1 (fun p hp => by simp only [List.mem_cons, hp, or_true])
  have kp : Kept (fun a => a ≠ noa ∧ PP L a) g2 h1 := fun a o q _ e => ka a o q.2 e
  have hnH := ka _ _ hnoP hn2
  have hD1 : D1 ≠ noa := led_lt B hn2 hnoP.1 hnoP.2 hng lD1.2.2.2.2.2.2.2.2
  k_dflt (refine' use_red (red_three1 ux uy tp pok es rt r0 (fun q hq => hrs q (.tail _ hq)) w1 elo1 dA1 dB1 d3 hop D1 ra0 hD1 us0 hv39 pra0.1 kon hesl) (fun v h' J => J.fix _ (.head _)) F1 N1 X T hng hnH ?pre3 ?hd3 ?hu3 ?_; (case hd3 => omega); (case hu3 => omega); (case pre3 => exact ⟨hnH, News.isList N1 (.head _), kp.list pra0 la0, List.forall_mem_cons.mpr ⟨hnH, List.forall_mem_cons.mpr ⟨(N1 _ (.tail _ (.head _))).1, List.forall_mem_cons.mpr ⟨(N1 _ (.tail _ (.tail _ (.head _)))).1, List.forall_mem_cons.mpr ⟨(N1 _ (.tail _ (.tail _ (.tail _ (.tail _ (.tail _ (.head _))))))).1, List.forall_mem_nil _⟩⟩⟩⟩, (res.kept kp).weaken fun _ q => q.1, (re0.kept kp).weaken fun _ q => q.1⟩))
  intro v3 g3 tg G M sg J
  dsimp only at G M sg ⊢
  have R3 := J.val
  rw [hesl, List.take_length, e1] at R3
  have Z3 := Z2.kept hpo hpp pra0 hnoP fun a o q e => sg _ _ (ka a o q e)
  replace M : News g L g3 [(L + 1 + 1 + 1 + 1 + 1, ow), (L + 1 + 1 + 1 + 1, ot), (L + 1 + 1 + 1, op), (L + 1 + 1, on), (L + 1, oa), (248, tabObj (#[] ++ #[rawInt 293, rawInt 0, .ref c0] ++ #[rawInt 301, rawInt 0, .ref c1] ++ #[rawInt 302, rawInt 0, .ref c2] ++ #[rawInt 303, rawInt 0, .ref c3]))] := fun p hp => M p (.tail _ (.tail _ (.tail _ (List.mem_append_left led hp))))
  replace R1 := R1.kept (h' := g3) fun a o q c e => sg _ _ (kp a o q c e)
  replace R2 := R2.kept (h' := g3) fun a o q c e => sg _ _ (kp a o q c e)
  replace R3 := R3.onL fun a items l => list_PP G M d1 d2 d3 d4 d5 l
  have KP3 : ∀ a o, PP L a → s0.get? a = some o → g3.get? a = some o := fun a o q e => sg _ _ (ka a o q (KP2 a o q e))
  clear B own hBN n0 n1 n2 n3 lon lpi re0 res rez rezs rq0 rqs J kp ka sg hnH
  try clear F
  try clear N
  try clear F1
  try clear N1
  try clear lA1
  try clear lB1
  clear Z2 hn2
  try clear lD1
  try clear lD0
  refine @by_no _ fun hNo9 => ?_
  have F := G
  have N := M
  clear G M
  obtain ⟨lon, lpi, _, re0, res, rez, rezs, rq0, rqs, hn3⟩ := id Z3
  obtain ⟨led, hBN⟩ := base_of F N
  have own := hBN.2.1
  have N := hBN.1
  have B := hBN.2.2
  simp only [List.cons_append, List.nil_append] at N
  have n0 : ona ≠ L := hpo.2.1
  have n1 : ona ∉ [(L + 1 + 1 + 1 + 1 + 1, ow), (L + 1 + 1 + 1 + 1, ot), (L + 1 + 1 + 1, op), (L + 1 + 1, on), (L + 1, oa), (248, tabObj (#[] ++ #[rawInt 293, rawInt 0, .ref c0] ++ #[rawInt 301, rawInt 0, .ref c1] ++ #[rawInt 302, rawInt 0, .ref c2] ++ #[rawInt 303, rawInt 0, .ref c3]))].map (·.1) := hpo.2.2
  have n2 : pia ≠ L := hpp.2.1
  have n3 : pia ∉ [(L + 1 + 1 + 1 + 1 + 1, ow), (L + 1 + 1 + 1 + 1, ot), (L + 1 + 1 + 1, op), (L + 1 + 1, on), (L + 1, oa), (248, tabObj (#[] ++ #[rawInt 293, rawInt 0, .ref c0] ++ #[rawInt 301, rawInt 0, .ref c1] ++ #[rawInt 302, rawInt 0, .ref c2] ++ #[rawInt 303, rawInt 0, .ref c3]))].map (·.1) := hpp.2.2
  refine hNo9 ?_
  clear hNo9
  k_steps
  rename_i f1 lo1 c4 oc1 vs1 t1 ct1 h1 tk1 elo1 F1 N1 dA1 dB1 lA1 lB1
  have ka : ∀ a o, PP L a → g3.get? a = some o → h1.get? a = some o := fun a o q e => B.get e q.1 q.2 F1 N1 (fun p hp => by simp only [List.mem_cons, hp, or_true])
  have kp : Kept (fun a => a ≠ noa ∧ PP L a) g3 h1 := fun a o q _ e => ka a o q.2 e
  have hnH := ka _ _ hnoP hn3
  k_dflt (refine' use_red (red_two1 ux uy tp pok qs pt p0 hps w4 elo1 dA1 dB1 d3 hop pia hpp.1 q0 kon hqsl) (fun v h' J => J.fix _ (.head _)) F1 N1 X T hng hnH ?pre4 ?hd4 ?hu4 ?_; (case hd4 => omega); (case hu4 => omega); (case pre4 => exact ⟨hnH, kp.list hpp lpi, List.forall_mem_cons.mpr ⟨hnH, List.forall_mem_cons.mpr ⟨(N1 _ (.head _)).1, List.forall_mem_cons.mpr ⟨(N1 _ (.tail _ (.head _))).1, List.forall_mem_cons.mpr ⟨(N1 _ (.tail _ (.tail _ (.tail _ (.tail _ (.head _)))))).1, List.forall_mem_nil _⟩⟩⟩⟩, (rqs.kept kp).weaken fun _ q => q.1, (rq0.kept kp).weaken fun _ q => q.1⟩))
  intro v4 g4 tg G M sg J
  dsimp only at G M sg ⊢
  have R4 := J.val
  rw [hqsl, List.take_length, e4] at R4
  have Z4 := Z3.kept hpo hpp pra0 hnoP fun a o q e => sg _ _ (ka a o q e)
  replace M : News g L g4 [(L + 1 + 1 + 1 + 1 + 1, ow), (L + 1 + 1 + 1 + 1, ot), (L + 1 + 1 + 1, op), (L + 1 + 1, on), (L + 1, oa), (248, tabObj (#[] ++ #[rawInt 293, rawInt 0, .ref c0] ++ #[rawInt 301, rawInt 0, .ref c1] ++ #[rawInt 302, rawInt 0, .ref c2] ++ #[rawInt 303, rawInt 0, .ref c3] ++ #[rawInt 304, rawInt 0, .ref c4]))] := fun p hp => M p (.tail _ (.tail _ (List.mem_append_left led hp)))
  replace R1 := R1.kept (h' := g4) fun a o q c e => sg _ _ (kp a o q c e)
  replace R2 := R2.kept (h' := g4) fun a o q c e => sg _ _ (kp a o q c e)
  replace R3 := R3.kept (h' := g4) fun a o q c e => sg _ _ (kp a o q c e)
  replace R4 := R4.onL fun a items l => list_PP G M d1 d2 d3 d4 d5 l
  have KP4 : ∀ a o, PP L a → s0.get? a = some o → g4.get? a = some o := fun a o q e => sg _ _ (ka a o q (KP3 a o q e))
  clear B own hBN n0 n1 n2 n3 lon lpi re0 res rez rezs rq0 rqs J kp ka sg hnH
  try clear F
  try clear N
  try clear F1
  try clear N1
  try clear lA1
  try clear lB1
  refine @by_no _ fun hNo9 => ?_
  clear Z3 hn3
  have F := G
  have N := M
  clear G M
  obtain ⟨lon, lpi, _, re0, res, rez, rezs, rq0, rqs, hn4⟩ := id Z4
  obtain ⟨led, hBN⟩ := base_of F N
  have own := hBN.2.1
  have N := hBN.1
  have B := hBN.2.2
  simp only [List.cons_append, List.nil_append] at N
  have n0 : ona ≠ L := hpo.2.1
  have n1 : ona ∉ [(L + 1 + 1 + 1 + 1 + 1, ow), (L + 1 + 1 + 1 + 1, ot), (L + 1 + 1 + 1, op), (L + 1 + 1, on), (L + 1, oa), (248, tabObj (#[] ++ #[rawInt 293, rawInt 0, .ref c0] ++ #[rawInt 301, rawInt 0, .ref c1] ++ #[rawInt 302, rawInt 0, .ref c2] ++ #[rawInt 303, rawInt 0, .ref c3] ++ #[rawInt 304, rawInt 0, .ref c4]))].map (·.1) := hpo.2.2
  have n2 : pia ≠ L := hpp.2.1
  have n3 : pia ∉ [(L + 1 + 1 + 1 + 1 + 1, ow), (L + 1 + 1 + 1 + 1, ot), (L + 1 + 1 + 1, op), (L + 1 + 1, on), (L + 1, oa), (248, tabObj (#[] ++ #[rawInt 293, rawInt 0, .ref c0] ++ #[rawInt 301, rawInt 0, .ref c1] ++ #[rawInt 302, rawInt 0, .ref c2] ++ #[rawInt 303, rawInt 0, .ref c3] ++ #[rawInt 304, rawInt 0, .ref c4]))].map (·.1) := hpp.2.2
  refine hNo9 ?_
  clear hNo9
  k_steps
  rename_i f1 lo1 c5 oc1 vs1 t1 ct1 hh1 tk1 elo1 dA1 dB1 lA1 lB1 D0 hh0 lD0 D1 h1 F1 N1 lD1
  have ka : ∀ a o, PP L a → g4.get? a = some o → h1.get? a = some o := fun a o q e => B.get e q.1 q.2 F1 N1 (fun p hp => by simp only [List.mem_cons, hp, or_true])
  have kp : Kept (fun a => a ≠ noa ∧ PP L a) g4 h1 := fun a o q _ e => ka a o q.2 e
  have hnH := ka _ _ hnoP hn4
  have hD0 : D0 ≠ noa := led_lt B hn4 hnoP.1 hnoP.2 hng lD0.2.2.2.2.2.2.2.2
  have hD1 : D1 ≠ noa := led_lt B hn4 hnoP.1 hnoP.2 hng lD1.2.2.2.2.2.2.2.2.2
  have hv39 : @Ne Nat D1 39 := by omega
  have w5 : ∀ i, i ≤ ([] : List Rw).length → RwOk ((([] : List Rw).take i).foldl fL (wy, os9)) := fun i hi => by
    rw [List.take_nil]
    exact hwy
  k_dflt (refine' use_red (red_three1 ux uy tp pok [] [] (wy, os9) (fun q hq => nomatch hq) w5 elo1 dA1 dB1 d3 hop D0 D1 hD0 [Value.int wy tw, Value.bytes bw tb] hv39 hD1 kon rfl) (fun v h' J => J.fix _ (.head _)) F1 N1 X T hng hnH ?pre5 ?hd5 ?hu5 ?_; (case hd5 => omega); (case hu5 => omega); (case pre5 => exact ⟨hnH, News.isList N1 (.tail _ (.head _)), News.isList N1 (.head _), List.forall_mem_cons.mpr ⟨hnH, List.forall_mem_cons.mpr ⟨(N1 _ (.tail _ (.tail _ (.head _)))).1, List.forall_mem_cons.mpr ⟨(N1 _ (.tail _ (.tail _ (.tail _ (.head _))))).1, List.forall_mem_cons.mpr ⟨(N1 _ (.tail _ (.tail _ (.tail _ (.tail _ (.tail _ (.tail _ (.head _)))))))).1, List.forall_mem_nil _⟩⟩⟩⟩, .nil, .lst hD1 (News.isList N1 (.head _)) (.cons (.int _ _) (.cons (.byt _ hbw) .nil))⟩))
  intro v5 g5 tg G M sg J
  dsimp only at G M sg ⊢
  have R5 := J.val
  rw [List.length_nil, List.take_nil, List.foldl_nil] at R5
  have Z5 := Z4.kept hpo hpp pra0 hnoP fun a o q e => sg _ _ (ka a o q e)
  replace M : News g L g5 [(L + 1 + 1 + 1 + 1 + 1, ow), (L + 1 + 1 + 1 + 1, ot), (L + 1 + 1 + 1, op), (L + 1 + 1, on), (L + 1, oa), (248, tabObj (#[] ++ #[rawInt 293, rawInt 0, .ref c0] ++ #[rawInt 301, rawInt 0, .ref c1] ++ #[rawInt 302, rawInt 0, .ref c2] ++ #[rawInt 303, rawInt 0, .ref c3] ++ #[rawInt 304, rawInt 0, .ref c4] ++ #[rawInt 305, rawInt 0, .ref c5]))] := fun p hp => M p (.tail _ (.tail _ (.tail _ (.tail _ (List.mem_append_left led hp)))))
  replace R1 := R1.kept (h' := g5) fun a o q c e => sg _ _ (kp a o q c e)
  replace R2 := R2.kept (h' := g5) fun a o q c e => sg _ _ (kp a o q c e)
  replace R3 := R3.kept (h' := g5) fun a o q c e => sg _ _ (kp a o q c e)
  replace R4 := R4.kept (h' := g5) fun a o q c e => sg _ _ (kp a o q c e)
  replace R5 := R5.onL fun a items l => list_PP G M d1 d2 d3 d4 d5 l
  have KP5 : ∀ a o, PP L a → s0.get? a = some o → g5.get? a = some o := fun a o q e => sg _ _ (ka a o q (KP4 a o q e))
  clear B own hBN n0 n1 n2 n3 lon lpi re0 res rez rezs rq0 rqs J kp ka sg hnH
  try clear F
  try clear N
  try clear F1
  try clear N1
  try clear lA1
  try clear lB1
  clear Z4 hn4
  try clear lD1
  try clear lD0
  have F := G
  have N := M
  clear G M
  obtain ⟨led, hBN⟩ := base_of F N
  have own := hBN.2.1
  have N := hBN.1
  have B := hBN.2.2
  simp only [List.cons_append, List.nil_append] at N
  k_steps
  rename Fr _ _ _ _ => F8
  rename News _ _ _ _ => N8
  have k8 : ∀ a o, PP L a → g5.get? a = some o → (heapOfFr F8).get? a = some o := fun a o q e => B.get e q.1 q.2 F8 N8 (fun p hp => by simp only [List.mem_cons, hp, or_true])
  have l8 := News.isList N8 (.head _)
  refine h _ _ _ c1 c2 c3 c4 c5 ⟨ow, ot, op, on, oa, Fr.congr F8 lm_ends, fun p hp => N8 p ?nw, d1, d2, d3, d4, d5⟩ (.lst ?pp l8 (.cons ?x1 (.cons ?x2 (.cons ?x3 (.cons ?x4 (.cons ?x5 .nil)))))) (fun a o q _ e => k8 a o q (KP5 a o q e))
  case nw => exact .tail _ (List.mem_append_left led hp)
  case pp => exact list_PP F8 (fun p hp => N8 p (.tail _ (List.mem_append_left led hp))) d1 d2 d3 d4 d5 l8
  case x1 => exact (R1.kept fun a o q _ e => k8 a o q.2 e).weaken fun a q => q.2
  case x2 => exact (R2.kept fun a o q _ e => k8 a o q.2 e).weaken fun a q => q.2
  case x3 => exact (R3.kept fun a o q _ e => k8 a o q.2 e).weaken fun a q => q.2
  case x4 => exact (R4.kept fun a o q _ e => k8 a o q.2 e).weaken fun a q => q.2
  case x5 => exact (R5.kept fun a o q _ e => k8 a o q.2 e).weaken fun a q => q.2

theorem begin_L9 : True := by
  w_on
  w_top off
  k_with_none
  k_with "om" => (law_clear; first | with_reducible assumption | (law_purse 20000 => grind))
  k_with "guard" => skip
  trivial
set_option maxHeartbeats 4000000
theorem kw_L9_1 : True := by
  k_with_none
  k_with "om" => (law_clear; first | with_reducible assumption | (law_purse 20000 => grind))
  k_with "eval BinOp" => (k_here; (with_reducible show wpAny _ _ (eval (Expr.BinOp (Expr.Name _ _) _ (Expr.Constant (Const.int _) _ _) _) _) _ _ _); k_dflt (refine binNC (by k_asm) (by rfl) ?_ (by rfl) (by rfl) (by decide)); (try dsimp only))
  k_with "eval BinOp" => (k_here; (with_reducible show wpAny _ _ (eval (Expr.BinOp (Expr.Name _ _) _ (Expr.Name _ _) _) _) _ _ _); k_dflt (refine binNN (by k_asm) (by rfl) (by rfl) ?_ (by rfl) (by rfl) (by rfl) (by decide) (by decide)); (try dsimp only))
  k_with "isTrue Compare" => (k_here; (with_reducible show wpAny _ _ (isTrue (Expr.Compare (Expr.Name _ _) [_] [Expr.Constant (Const.int _) _ _] _) _ _) _ _ _); k_dflt (refine isNC (by k_asm) (by rfl) ?_ (by rfl) (by rfl) (by decide) (by with_unfolding_all rfl)); (try dsimp only))
  k_with "guard" => ((fail_if_success (with_reducible show Exists _)); (fail_if_success (with_reducible show wpAny _ _ (pyIter _) _ _ _)); (fail_if_success (with_reducible show wpAny _ _ (exec (Stmt.For _ _ _ _ _) _) _ _ _)); (fail_if_success (with_reducible show wpAny _ _ (exec (Stmt.While _ _ _ _) _) _ _ _)); (fail_if_success (with_reducible show wpAny _ _ (eval (Expr.ListComp _ _ _ _) _) _ _ _)); (fail_if_success (with_reducible show wpAny _ _ (exec (Stmt.Assign _ (Expr.ListComp _ _ _ _) _) _) _ _ _)); (fail_if_success (with_reducible show wpAny _ _ (call (Value.ref 206) _ _) _ _ _)); (fail_if_success (with_reducible show wpAny _ _ (call (Value.ref 213) _ _) _ _ _)); (fail_if_success (with_reducible show wpAny _ _ (call (Value.ref 47) _ _) _ _ _)); (fail_if_success (with_reducible show wpAny _ _ (call (Value.ref 234) _ _) _ _ _)); (fail_if_success (with_reducible show wpAny _ _ (call (Value.ref 227) _ _) _ _ _)); (fail_if_success (with_reducible show wpAny _ _ (call (Value.ref 241) _ _) _ _ _)); (fail_if_success (with_reducible show wpAny _ _ (call (Value.ref 246) _ _) _ _ _)); (fail_if_success (with_reducible show wpAny _ _ (compareOp CmpOp.NotEq (Value.ref _) (Value.ref _)) _ _ _)); (fail_if_success (with_reducible show ElEnd _ _ _ _ _ _ _ _ _ _ _ _ _)); (fail_if_success (with_reducible show CSrc _ _ _ _ _ _ _ _ _ _ _ _ _ _ _ _)))
  k_with "eval Name" => (k_here; (with_reducible show wpAny _ _ (eval (Expr.Name _ _) (envOfC _ _ _ _ _)) _ _ _); k_dflt (first | (refine name_BC (by k_asm) (by k_asm) (by k_asm) (by k_is) (by boot_by_name) (by decide) (by rfl) (by decide +kernel) (by decide) ?_) | (refine name_GC (by k_asm) (by k_asm) (by k_asm) (by k_is) (by rfl) (by decide +kernel) (by decide) ?_)))
  k_with "callWith ref" => (k_here; (with_reducible show wpAny _ _ (callWith _ (Value.ref _) _ _ _) _ _ _); k_dflt (refine callWith_K (by k_asm) (by k_is) ?_; k_whole))
  k_with "eval Lambda" => ((k_here; k_dflt (refine lam_nest (by k_asm) (by k_asm) (by k_asm) (by assumption) (by k_updF) (by (simp [TriplesOk, rawInt]; done)) (by (simp [codeAmong, rawInt]; done)) (by exact rfl) (by exact rfl) ?_); intro f' lo' c' oc' vs' t' ct' h' tk' elo' F' N' d1' d2' l1 l2; (try dsimp only at N'); (try k_lt l1); (try k_lt2 l2)); (try (revert f' lo' c' oc' vs' t' ct' h' tk' elo' F' N' d1' d2' l1 l2; intros)))
  k_with "call builtin:sum" => ((k_here; (with_reducible show wpAny _ _ (call (Value.builtin "sum") [Value.ref _]) _ _ _); k_dflt (refine sum_any (by k_asm) (by k_asm) (by rfl) (by is_list) (by assumption) ?_); intro h' tk' t' F' N'); (try (revert h' tk' t' F' N'; intros)))
  k_with "call type:list" => ((k_here; (with_reducible show wpAny _ _ (call (Value.type "list") [Value.bytes _ _]) _ _ _); k_dflt (refine list_bytes (by k_asm) (by k_asm) (by rfl) _ _ _ (by exact rfl) (by (rw [sizeLine_eq]; first | decide | exact Nat.le_of_ble_eq_true rfl)) ?_; k_whole); intro D' h' tk' vs' c' hLn' hI' F' N' l1; (try simp only [List.size_toArray, List.length_cons, List.length_nil] at hLn'); (try k_lt l1)); (try (revert D' h' tk' vs' c' hLn' hI' F' N' l1; intros)))
  k_with "binaryOp Add ref ref" => ((k_here; (with_reducible show wpAny _ _ (binaryOp _ (Value.ref _) (Value.ref _)) _ _ _); k_dflt (refine kmk_add_lit (by k_asm) (by k_asm) (by is_list) (by is_list) (by exact rfl) ?_ (by (simp only [sizeLine_eq, List.toList_toArray, List.length_cons, List.length_nil]; omega))); intro D' h' F' N' l1; (try k_lt l1); (try k_sweep); (try simp only [List.toList_toArray] at N')); (try (revert D' h' F' N' l1; intros)))
  k_with "call type:bytes" => ((k_here; (with_reducible show wpAny _ _ (call (Value.type "bytes") [Value.ref _]) _ _ _); k_dflt (refine KBa.make_K (by k_asm) (by k_asm) (by rfl) (by first | assumption | is_list) (by assumption) (by assumption) (by omega) ?_); intro h' t' k' F' N' hr'); (try (revert h' t' k' F' N' hr'; intros)))
  k_with "subscriptTail" => (k_here; (with_reducible show wpAny _ _ (subscriptTail _ _ (Value.ref _) (Value.int (-1) _)) _ _ _); (refine kde_neg (by is_list) (by decide) (by decide) (seqIndex_l1 _ _) (get_l1 _ _) ?_))
  k_with "binaryOp Mult ref int" => ((k_here; (with_reducible show wpAny _ _ (binaryOp Operator.Mult (Value.ref _) (Value.int _ _)) _ _ _); k_dflt (refine KMa.mul (vs := [Value.ref _]) (by k_asm) (by k_asm) (by exact News.isList (by k_asm) (.head _)) (by decide) (by decide) (by exact (by decide : 1 * 5 ≤ 256)) (by exact rfl) ?_); intro D' h' F' N' l1; (try k_lt l1); (try k_sweep)); (try (revert D' h' F' N' l1; intros)))
  trivial
theorem st_check2 {s0 : Heap} {toks : Nat} {Q : Flow → Shared → Prop}
    (X : (hd.heap_1 w.params).In g) (T : Top p loose mean mg mb g) (hdp : dp + 40 < recursionLimit) (hun : un + 8 * 40 < cLine) (h48 : @LT.lt Nat _ 248 L) (sa na pa fra lea ga aa noa pia oca ona ena : Addr) (to fi : Value) (ps : Array Value) (ux uy : UInt8) (tp : Tok) (bw : Array UInt8) (tb : Tok) (os9 : List Int) (wy : Int) (tw : Tok) (hbw : KBw.bInts bw = wrK ux.toNat uy.toNat wy os9)
    (hen : Rep (PP L) s0 (.ref ena) (.lst (List.replicate 5 (toldRow ux.toNat uy.toNat (wy, os9)))))
    (S : LawAt g L s0 (lawM (some (.ref sa)) (some (.ref na)) (some (.ref pa)) (some (to)) (some (.ref fra)) (some (fi)) (some (.ref lea)) (some (.ref ga)) (some (.ref pia)) (some (.ref oca)) (some (.bytes bw tb)) (some (.ref ona)) (some (.ref ena)) none none none none none) (some (.ref aa)) (some (.ref noa)) (some (.bytes #[ux, uy] tp)) none (some (.int wy tw)) ps)
    (h : ∀ h' tk', LawAt g L h' (lawM (some (.ref sa)) (some (.ref na)) (some (.ref pa)) (some (to)) (some (.ref fra)) (some (fi)) (some (.ref lea)) (some (.ref ga)) (some (.ref pia)) (some (.ref oca)) (some (.bytes bw tb)) (some (.ref ona)) (some (.ref ena)) none none none none none) (some (.ref aa)) (some (.ref noa)) (some (.bytes #[ux, uy] tp)) none (some (.int wy tw)) ps → Kept (PP L) s0 h' → Q .next ⟨h', gens, drawn, tk', os⟩) :
    wpAny (model PySem.Challenge.rw_qh0094_01.row.prog w) (Ar dp un fr gd) (exec (lawBody.getD 18 (.Pass default)) (lawEnv L fa)) Q E ⟨s0, gens, drawn, toks, os⟩ := by
  show wpAny _ _ (exec (Stmt.If _ _ _ _) (envOfC _ lawScope _ _ _)) _ _ _
  conv in lawScope => whnf
  refine @by_no _ fun hNo9 => ?_
  obtain ⟨ow, ot, op, on, oa, F, N, d1, d2, d3, d4, d5⟩ := S
  refine hNo9 ?_
  clear hNo9
  revert X; k_fill; intro X
  refine @by_no _ fun hNo9 => ?_
  obtain ⟨_, ev, e, hep, len, her⟩ := hen.list_inv
  cases e
  obtain ⟨led, hBN⟩ := base_of F N
  have own := hBN.2.1
  have N := hBN.1
  have B := hBN.2.2
  simp only [List.cons_append, List.nil_append] at N
  refine hNo9 ?_
  clear hNo9
  k_steps
  rename_i la hA lA1 lb hB lB1 D1 h1 F1 N1 lD1
  have k1 : Kept (PP L) s0 h1 := fun a o q _ e => B.get e q.1 q.2 F1 N1 (fun p hp => by simp only [List.mem_cons, hp, or_true])
  have onP : ∀ a items, h1.IsList a items → PP L a := fun a items l => list_PP F1 (fun p hp => N1 p (.tail _ (.tail _ (.tail _ (List.mem_append_left led hp))))) d1 d2 d3 d4 d5 l
  have lla := News.isList N1 (.tail _ (.tail _ (.head _)))
  have row : Rep (PP L) h1 (.ref la) (toldRow ux.toNat uy.toNat (wy, os9)) := .lst (onP _ _ lla) lla (.cons (.int _ _) (.cons (.byt _ hbw) .nil))
  have lD := News.isList N1 (.head _)
  have rD : Rep (PP L) h1 (.ref D1) (.lst (List.replicate 5 (toldRow ux.toNat uy.toNat (wy, os9)))) := .lst (onP _ _ lD) lD (.cons row (.cons row (.cons row (.cons row (.cons row .nil)))))
  refine ne_rep (hen.kept k1) rD (depths_le fun d hd => ?_) (by show un + 20 < _; omega) ?_
  · obtain rfl := List.eq_of_mem_replicate hd
    exact (by decide : 1 ≤ 10)
  k_steps
  have len1 : h1.IsList ena ev.toArray := k1.list hep len
  have her1 := her.kept k1
  have N6 : News g L h1 (litsL L ow ot op on oa ps) := fun p hp => N1 p (.tail _ (.tail _ (.tail _ (List.mem_append_left led hp))))
  clear hBN own B row rD lD lla
  k_dflt (refine eval_none (cl := []) F1 (by rfl) (by decide) (by rfl) (by decide) (by rfl) (by rfl) ?_)
  k_steps
  refine ⟨ena, ev, _, rfl, len1, F1, N6, ?el, ?fin⟩
  case el =>
    intro I C Dd h4 h5 tk5 oI oC mC v hv XX Z m1
    refine @by_no _ fun hNo9 => ?_
    obtain ⟨kx, hkx, rfl⟩ := List.getElem_of_mem hv
    have hkl : kx < 5 := by rw [her1.length] at hkx; exact hkx
    obtain ⟨v', e', R9⟩ := her1.getAt kx (toldRow ux.toNat uy.toNat (wy, os9)) (by rw [List.getElem?_replicate]; simp [hkl])
    rw [List.getElem?_eq_getElem hkx] at e'
    cases e'
    refine hNo9 ?_
    clear hNo9
    generalize ev[kx] = v at *
    refine @by_no _ fun hNo9 => ?_
    have R8 : Rep (PP L) h1 v (.lst [.int wy, .byt (wrK ux.toNat uy.toNat wy os9)]) := R9
    obtain ⟨t4, tvs, rfl, pt, lt4, R7⟩ := R8.list_inv
    obtain ⟨_, _, rfl, ri, R7⟩ := R7.cons_inv
    obtain ⟨_, _, rfl, rb, R7⟩ := R7.cons_inv
    obtain rfl := R7.nil_inv
    obtain ⟨tw9, rfl⟩ := ri.int_inv
    obtain ⟨bb, tb9, rfl, hbb⟩ := rb.byt_inv
    have lt5 : h4.IsList t4 _ := isList_keep lt4 fun o e => XX.keep _ o (isList_ne F1.ns lt4) e
    have lro5 : h5.IsList t4 _ := isList_keep lt5 fun o e => Z.keep _ o (ne_fresh lt4 XX.Cs) e
    obtain ⟨led5, hBN⟩ := base_of Z.F Z.N
    have N5 := hBN.1
    have own5 := hBN.2.1
    have B5 := hBN.2.2
    have F5 := Z.F
    have nsC := Z.nsC
    have p1 := lits_off (oI := oI) (oC := oC) (ys := []) (h' := h1) F1 N6 d1 d2 d3 d4 d5 XX.Is XX.Cs XX.Ds lt4
    have q1 := isList_ne F1.ns lt4
    simp only [List.cons_append, List.nil_append] at N5
    clear N1 F1 N6
    refine hNo9 ?_
    clear hNo9
    k_steps
    exact ⟨_, _, rfl, fun a o e => e⟩
  case fin =>
    intro Dd h4 tk4 O
    refine @by_no _ fun hNo9 => ?_
    have S4 : LawAt g L h4 (lawM (some (.ref sa)) (some (.ref na)) (some (.ref pa)) (some (to)) (some (.ref fra)) (some (fi)) (some (.ref lea)) (some (.ref ga)) (some (.ref pia)) (some (.ref oca)) (some (.bytes bw tb)) (some (.ref ona)) (some (.ref ena)) none none none none none) (some (.ref aa)) (some (.ref noa)) (some (.bytes #[ux, uy] tp)) none (some (.int wy tw)) ps :=
      ⟨ow, ot, op, on, oa, O.F, fun p hp => ⟨O.keep _ _ (N6 p hp).2.1 (N6 p hp).1, (N6 p hp).2⟩, d1, d2, d3, d4, d5⟩
    have k4 : Kept (PP L) h1 h4 := fun a o q _ e => O.keep a o q.1 e
    have lD4 : h4.IsList Dd (List.toArray []) := ⟨_, O.get, rfl, _, rfl⟩
    have r4 : Rep (PP L) h4 (.ref Dd) (.lst []) := .lst (S4.pp _ _ lD4) lD4 .nil
    obtain ⟨ow4, ot4, op4, on4, oa4, F4, N4, e1, e2, e3, e4, e5⟩ := S4
    obtain ⟨led4, hBN4⟩ := base_of F4 N4
    have own4 := hBN4.2.1
    have N5 := hBN4.1
    simp only [List.cons_append, List.nil_append] at N5
    clear F1 N1 N4 N6
    refine hNo9 ?_
    clear hNo9
    k_steps
    rename Fr _ _ _ _ => F9
    rename News _ _ _ _ => N9
    have k9 : Kept (PP L) h4 (heapOfFr F9) := fun a o q _ e => hBN4.2.2.get e q.1 q.2 F9 N9 (fun p hp => by simp only [List.mem_cons, hp, or_true])
    have l9 := News.isList N9 (.head _)
    have r9 : Rep (fun _ => True) (heapOfFr F9) _ (.lst []) := .lst trivial l9 .nil
    refine ne_rep ((r4.kept k9).weaken fun _ _ => trivial) r9 (Nat.zero_le _) (by show un + 20 < _; omega) ?_
    k_steps
    exact h _ _ ⟨ow4, ot4, op4, on4, oa4, F9, fun p hp => N9 p (.tail _ (List.mem_append_left led4 hp)), e1, e2, e3, e4, e5⟩ ((k1.trans k4).trans k9)

theorem begin_L10 : True := by
  w_on
  w_top off
  k_with_none
  k_with "om" => (law_clear; first | with_reducible assumption | (law_purse 20000 => grind))
  k_with "guard" => skip
  trivial
set_option maxHeartbeats 4000000
theorem kw_L10_1 : True := by
  k_with_none
  k_with "om" => (law_clear; first | with_reducible assumption | (law_purse 20000 => grind))
  k_with "eval BinOp" => (k_here; (with_reducible show wpAny _ _ (eval (Expr.BinOp (Expr.Name _ _) _ (Expr.Constant (Const.int _) _ _) _) _) _ _ _); k_dflt (refine binNC (by k_asm) (by rfl) ?_ (by rfl) (by rfl) (by decide)); (try dsimp only))
  k_with "eval BinOp" => (k_here; (with_reducible show wpAny _ _ (eval (Expr.BinOp (Expr.Name _ _) _ (Expr.Name _ _) _) _) _ _ _); k_dflt (refine binNN (by k_asm) (by rfl) (by rfl) ?_ (by rfl) (by rfl) (by rfl) (by decide) (by decide)); (try dsimp only))
  k_with "isTrue Compare" => (k_here; (with_reducible show wpAny _ _ (isTrue (Expr.Compare (Expr.Name _ _) [_] [Expr.Constant (Const.int _) _ _] _) _ _) _ _ _); k_dflt (refine isNC (by k_asm) (by rfl) ?_ (by rfl) (by rfl) (by decide) (by with_unfolding_all rfl)); (try dsimp only))
  k_with "guard" => ((fail_if_success (with_reducible show Exists _)); (fail_if_success (with_reducible show wpAny _ _ (pyIter _) _ _ _)); (fail_if_success (with_reducible show wpAny _ _ (exec (Stmt.For _ _ _ _ _) _) _ _ _)); (fail_if_success (with_reducible show wpAny _ _ (exec (Stmt.While _ _ _ _) _) _ _ _)); (fail_if_success (with_reducible show wpAny _ _ (eval (Expr.ListComp _ _ _ _) _) _ _ _)); (fail_if_success (with_reducible show wpAny _ _ (exec (Stmt.Assign _ (Expr.ListComp _ _ _ _) _) _) _ _ _)); (fail_if_success (with_reducible show wpAny _ _ (call (Value.ref 206) _ _) _ _ _)); (fail_if_success (with_reducible show wpAny _ _ (call (Value.ref 213) _ _) _ _ _)); (fail_if_success (with_reducible show wpAny _ _ (call (Value.ref 47) _ _) _ _ _)); (fail_if_success (with_reducible show wpAny _ _ (call (Value.ref 234) _ _) _ _ _)); (fail_if_success (with_reducible show wpAny _ _ (call (Value.ref 227) _ _) _ _ _)); (fail_if_success (with_reducible show wpAny _ _ (call (Value.ref 241) _ _) _ _ _)); (fail_if_success (with_reducible show wpAny _ _ (call (Value.ref 246) _ _) _ _ _)); (fail_if_success (with_reducible show wpAny _ _ (compareOp CmpOp.NotEq (Value.ref _) (Value.ref _)) _ _ _)); (fail_if_success (with_reducible show ElEnd _ _ _ _ _ _ _ _ _ _ _ _ _)); (fail_if_success (with_reducible show CSrc _ _ _ _ _ _ _ _ _ _ _ _ _ _ _ _)))
  k_with "eval Name" => (k_here; (with_reducible show wpAny _ _ (eval (Expr.Name _ _) (envOfC _ _ _ _ _)) _ _ _); k_dflt (first | (refine name_BC (by k_asm) (by k_asm) (by k_asm) (by k_is) (by boot_by_name) (by decide) (by rfl) (by decide +kernel) (by decide) ?_) | (refine name_GC (by k_asm) (by k_asm) (by k_asm) (by k_is) (by rfl) (by decide +kernel) (by decide) ?_)))
  k_with "callWith ref" => (k_here; (with_reducible show wpAny _ _ (callWith _ (Value.ref _) _ _ _) _ _ _); k_dflt (refine callWith_K (by k_asm) (by k_is) ?_; k_whole))
  k_with "eval Lambda" => ((k_here; k_dflt (refine lam_nest (by k_asm) (by k_asm) (by k_asm) (by assumption) (by k_updF) (by (simp [TriplesOk, rawInt]; done)) (by (simp [codeAmong, rawInt]; done)) (by exact rfl) (by exact rfl) ?_); intro f' lo' c' oc' vs' t' ct' h' tk' elo' F' N' d1' d2' l1 l2; (try dsimp only at N'); (try k_lt l1); (try k_lt2 l2)); (try (revert f' lo' c' oc' vs' t' ct' h' tk' elo' F' N' d1' d2' l1 l2; intros)))
  k_with "call builtin:sum" => ((k_here; (with_reducible show wpAny _ _ (call (Value.builtin "sum") [Value.ref _]) _ _ _); k_dflt (refine sum_any (by k_asm) (by k_asm) (by rfl) (by is_list) (by assumption) ?_); intro h' tk' t' F' N'); (try (revert h' tk' t' F' N'; intros)))
  k_with "call type:list" => ((k_here; (with_reducible show wpAny _ _ (call (Value.type "list") [Value.bytes _ _]) _ _ _); k_dflt (refine list_bytes (by k_asm) (by k_asm) (by rfl) _ _ _ (by exact rfl) (by (rw [sizeLine_eq]; first | decide | exact Nat.le_of_ble_eq_true rfl)) ?_; k_whole); intro D' h' tk' vs' c' hLn' hI' F' N' l1; (try simp only [List.size_toArray, List.length_cons, List.length_nil] at hLn'); (try k_lt l1)); (try (revert D' h' tk' vs' c' hLn' hI' F' N' l1; intros)))
  k_with "binaryOp Add ref ref" => ((k_here; (with_reducible show wpAny _ _ (binaryOp _ (Value.ref _) (Value.ref _)) _ _ _); k_dflt (refine kmk_add_lit (by k_asm) (by k_asm) (by is_list) (by is_list) (by exact rfl) ?_ (by (simp only [sizeLine_eq, List.toList_toArray, List.length_cons, List.length_nil]; omega))); intro D' h' F' N' l1; (try k_lt l1); (try k_sweep); (try simp only [List.toList_toArray] at N')); (try (revert D' h' F' N' l1; intros)))
  k_with "call type:bytes" => ((k_here; (with_reducible show wpAny _ _ (call (Value.type "bytes") [Value.ref _]) _ _ _); k_dflt (refine KBa.make_K (by k_asm) (by k_asm) (by rfl) (by first | assumption | is_list) (by assumption) (by assumption) (by omega) ?_); intro h' t' k' F' N' hr'); (try (revert h' t' k' F' N' hr'; intros)))
  k_with "subscriptTail" => (k_here; (with_reducible show wpAny _ _ (subscriptTail _ _ (Value.ref _) (Value.int (-1) _)) _ _ _); (refine kde_neg (by is_list) (by decide) (by decide) (seqIndex_l1 _ _) (get_l1 _ _) ?_))
  k_with "binaryOp Mult ref int" => ((k_here; (with_reducible show wpAny _ _ (binaryOp Operator.Mult (Value.ref _) (Value.int _ _)) _ _ _); k_dflt (refine KMa.mul (vs := [Value.ref _]) (by k_asm) (by k_asm) (by exact News.isList (by k_asm) (.head _)) (by decide) (by decide) (by exact (by decide : 1 * 5 ≤ 256)) (by exact rfl) ?_); intro D' h' F' N' l1; (try k_lt l1); (try k_sweep)); (try (revert D' h' F' N' l1; intros)))
  trivial
theorem st_parts {s0 : Heap} {toks : Nat} {Q : Flow → Shared → Prop}
    (X : (hd.heap_1 w.params).In g) (T : Top p loose mean mg mb g) (hdp : dp + 40 < recursionLimit) (hun : un + 8 * 40 < cLine) (h48 : @LT.lt Nat _ 248 L) (sa na pa fra lea ga aa noa pia oca ona ena paa dua : Addr) (to fi : Value) (ps : Array Value) (ux uy : UInt8) (tp : Tok) (bw : Array UInt8) (tb : Tok) (wy : Int) (tw : Tok)
    (S : LawAt g L s0 (lawM (some (.ref sa)) (some (.ref na)) (some (.ref pa)) (some (to)) (some (.ref fra)) (some (fi)) (some (.ref lea)) (some (.ref ga)) (some (.ref pia)) (some (.ref oca)) (some (.bytes bw tb)) (some (.ref ona)) (some (.ref ena)) none none none none none) (some (.ref aa)) (some (.ref noa)) (some (.bytes #[ux, uy] tp)) none (some (.int wy tw)) ps)
    (h : ∀ h' tk' paa, LawAt g L h' (lawM (some (.ref sa)) (some (.ref na)) (some (.ref pa)) (some (to)) (some (.ref fra)) (some (fi)) (some (.ref lea)) (some (.ref ga)) (some (.ref pia)) (some (.ref oca)) (some (.bytes bw tb)) (some (.ref ona)) (some (.ref ena)) (some (.ref paa)) none none none none) (some (.ref aa)) (some (.ref noa)) (some (.bytes #[ux, uy] tp)) none (some (.int wy tw)) ps → h'.get? paa = some (W.listOf #[] 0) → g.get? paa = none → s0.get? paa = none → Kept (PP L) s0 h' → Q .next ⟨h', gens, drawn, tk', os⟩) :
    wpAny (model PySem.Challenge.rw_qh0094_01.row.prog w) (Ar dp un fr gd) (exec (lawBody.getD 19 (.Pass default)) (lawEnv L fa)) Q E ⟨s0, gens, drawn, toks, os⟩ := by
  show wpAny _ _ (exec (Stmt.Assign _ _ _) (envOfC _ lawScope _ _ _)) _ _ _
  conv in lawScope => whnf
  refine @by_no _ fun hNo9 => ?_
  obtain ⟨ow, ot, op, on, oa, F, N, d1, d2, d3, d4, d5⟩ := S
  refine hNo9 ?_
  clear hNo9
  revert X; k_fill; intro X
  obtain ⟨led, hBN⟩ := base_of F N
  have own := hBN.2.1
  have N := hBN.1
  simp only [List.cons_append, List.nil_append] at N
  k_steps
  rename Fr _ _ _ _ => F1
  rename News _ _ _ _ => N1
  have hA := (by assumption : _ ∧ _ ∧ _ ∧ _ ∧ _ ∧ _ ∧ AllLt _ led)
  have z := N1 _ (.head _)
  refine h _ _ _ ⟨ow, ot, op, on, oa, Fr.congr F1 lm_parts, fun p hp => N1 p ?nw, d1, d2, d3, d4, d5⟩ z.1 z.2.2 (fresh_led hBN.2.2 z.2.2 z.2.1 ?nl hA.2.2.2.2.2.2) (fun a o q _ e => hBN.2.2.get e q.1 q.2 F1 N1 ?kb)
  case nw => exact .tail _ (List.mem_append_left led hp)
  case nl =>
    simp only [List.map_cons, List.map_nil, List.mem_cons, List.not_mem_nil, or_false, not_or]
    exact ⟨Nat.ne_of_gt hA.1, Nat.ne_of_gt hA.2.1, Nat.ne_of_gt hA.2.2.1, Nat.ne_of_gt hA.2.2.2.1, Nat.ne_of_gt hA.2.2.2.2.1, Nat.ne_of_gt hA.2.2.2.2.2.1⟩
  case kb => intro p hp; simp only [List.mem_cons, hp, or_true]

theorem st_due {s0 : Heap} {toks : Nat} {Q : Flow → Shared → Prop}
    (X : (hd.heap_1 w.params).In g) (T : Top p loose mean mg mb g) (hdp : dp + 40 < recursionLimit) (hun : un + 8 * 40 < cLine) (h48 : @LT.lt Nat _ 248 L) (sa na pa fra lea ga aa noa pia oca ona ena paa dua : Addr) (to fi : Value) (ps : Array Value) (ux uy : UInt8) (tp : Tok) (bw : Array UInt8) (tb : Tok) (wy : Int) (tw : Tok)
    (S : LawAt g L s0 (lawM (some (.ref sa)) (some (.ref na)) (some (.ref pa)) (some (to)) (some (.ref fra)) (some (fi)) (some (.ref lea)) (some (.ref ga)) (some (.ref pia)) (some (.ref oca)) (some (.bytes bw tb)) (some (.ref ona)) (some (.ref ena)) (some (.ref paa)) none none none none) (some (.ref aa)) (some (.ref noa)) (some (.bytes #[ux, uy] tp)) none (some (.int wy tw)) ps)
    (h : ∀ h' tk' dua, LawAt g L h' (lawM (some (.ref sa)) (some (.ref na)) (some (.ref pa)) (some (to)) (some (.ref fra)) (some (fi)) (some (.ref lea)) (some (.ref ga)) (some (.ref pia)) (some (.ref oca)) (some (.bytes bw tb)) (some (.ref ona)) (some (.ref ena)) (some (.ref paa)) (some (.ref dua)) none none none) (some (.ref aa)) (some (.ref noa)) (some (.bytes #[ux, uy] tp)) none (some (.int wy tw)) ps → h'.get? dua = some (W.listOf #[] 0) → g.get? dua = none → s0.get? dua = none → Kept (PP L) s0 h' → Q .next ⟨h', gens, drawn, tk', os⟩) :
    wpAny (model PySem.Challenge.rw_qh0094_01.row.prog w) (Ar dp un fr gd) (exec (lawBody.getD 20 (.Pass default)) (lawEnv L fa)) Q E ⟨s0, gens, drawn, toks, os⟩ := by
  show wpAny _ _ (exec (Stmt.Assign _ _ _) (envOfC _ lawScope _ _ _)) _ _ _
  conv in lawScope => whnf
  refine @by_no _ fun hNo9 => ?_
  obtain ⟨ow, ot, op, on, oa, F, N, d1, d2, d3, d4, d5⟩ := S
  refine hNo9 ?_
  clear hNo9
  revert X; k_fill; intro X
  obtain ⟨led, hBN⟩ := base_of F N
  have own := hBN.2.1
  have N := hBN.1
  simp only [List.cons_append, List.nil_append] at N
  k_steps
  rename Fr _ _ _ _ => F1
  rename News _ _ _ _ => N1
  have hA := (by assumption : _ ∧ _ ∧ _ ∧ _ ∧ _ ∧ _ ∧ AllLt _ led)
  have z := N1 _ (.head _)
  refine h _ _ _ ⟨ow, ot, op, on, oa, Fr.congr F1 lm_due, fun p hp => N1 p ?nw, d1, d2, d3, d4, d5⟩ z.1 z.2.2 (fresh_led hBN.2.2 z.2.2 z.2.1 ?nl hA.2.2.2.2.2.2) (fun a o q _ e => hBN.2.2.get e q.1 q.2 F1 N1 ?kb)
  case nw => exact .tail _ (List.mem_append_left led hp)
  case nl =>
    simp only [List.map_cons, List.map_nil, List.mem_cons, List.not_mem_nil, or_false, not_or]
    exact ⟨Nat.ne_of_gt hA.1, Nat.ne_of_gt hA.2.1, Nat.ne_of_gt hA.2.2.1, Nat.ne_of_gt hA.2.2.2.1, Nat.ne_of_gt hA.2.2.2.2.1, Nat.ne_of_gt hA.2.2.2.2.2.1⟩
  case kb => intro p hp; simp only [List.mem_cons, hp, or_true]

theorem st_at {s0 : Heap} {toks : Nat} {Q : Flow → Shared → Prop}
    (X : (hd.heap_1 w.params).In g) (T : Top p loose mean mg mb g) (hdp : dp + 40 < recursionLimit) (hun : un + 8 * 40 < cLine) (h48 : @LT.lt Nat _ 248 L) (sa na pa fra lea ga aa noa pia oca ona ena paa dua : Addr) (to fi : Value) (ps : Array Value) (ux uy : UInt8) (tp : Tok) (bw : Array UInt8) (tb : Tok) (wy : Int) (tw : Tok)
    (S : LawAt g L s0 (lawM (some (.ref sa)) (some (.ref na)) (some (.ref pa)) (some (to)) (some (.ref fra)) (some (fi)) (some (.ref lea)) (some (.ref ga)) (some (.ref pia)) (some (.ref oca)) (some (.bytes bw tb)) (some (.ref ona)) (some (.ref ena)) (some (.ref paa)) (some (.ref dua)) none none none) (some (.ref aa)) (some (.ref noa)) (some (.bytes #[ux, uy] tp)) none (some (.int wy tw)) ps)
    (h : ∀ h' tk' ta, LawAt g L h' (lawM (some (.ref sa)) (some (.ref na)) (some (.ref pa)) (some (to)) (some (.ref fra)) (some (fi)) (some (.ref lea)) (some (.ref ga)) (some (.ref pia)) (some (.ref oca)) (some (.bytes bw tb)) (some (.ref ona)) (some (.ref ena)) (some (.ref paa)) (some (.ref dua)) (some (.int 0 ta)) none none) (some (.ref aa)) (some (.ref noa)) (some (.bytes #[ux, uy] tp)) none (some (.int wy tw)) ps →  Kept (PP L) s0 h' → Q .next ⟨h', gens, drawn, tk', os⟩) :
    wpAny (model PySem.Challenge.rw_qh0094_01.row.prog w) (Ar dp un fr gd) (exec (lawBody.getD 21 (.Pass default)) (lawEnv L fa)) Q E ⟨s0, gens, drawn, toks, os⟩ := by
  show wpAny _ _ (exec (Stmt.Assign _ _ _) (envOfC _ lawScope _ _ _)) _ _ _
  conv in lawScope => whnf
  refine @by_no _ fun hNo9 => ?_
  obtain ⟨ow, ot, op, on, oa, F, N, d1, d2, d3, d4, d5⟩ := S
  refine hNo9 ?_
  clear hNo9
  revert X; k_fill; intro X
  obtain ⟨led, hBN⟩ := base_of F N
  have own := hBN.2.1
  have N := hBN.1
  simp only [List.cons_append, List.nil_append] at N
  k_steps
  rename Fr _ _ _ _ => F1
  rename News _ _ _ _ => N1
  refine h _ _ _ ⟨ow, ot, op, on, oa, Fr.congr F1 lm_at, fun p hp => N1 p ?nw, d1, d2, d3, d4, d5⟩ (fun a o q _ e => hBN.2.2.get e q.1 q.2 F1 N1 ?kb)
  case nw => exact List.mem_append_left led hp
  case kb => intro p hp; simp only [List.mem_cons, hp, or_true]

theorem begin_L11 : True := by
  w_on
  w_top off
  k_with_none
  k_with "om" => (law_clear; first | with_reducible assumption | (law_purse 20000 => grind))
  k_with "guard" => skip
  trivial
set_option maxHeartbeats 4000000
theorem kw_L11_1 : True := by
  k_with_none
  k_with "om" => (law_clear; first | with_reducible assumption | (law_purse 20000 => grind))
  k_with "eval BinOp" => (k_here; (with_reducible show wpAny _ _ (eval (Expr.BinOp (Expr.Name _ _) _ (Expr.Constant (Const.int _) _ _) _) _) _ _ _); k_dflt (refine binNC (by k_asm) (by rfl) ?_ (by rfl) (by rfl) (by decide)); (try dsimp only))
  k_with "eval BinOp" => (k_here; (with_reducible show wpAny _ _ (eval (Expr.BinOp (Expr.Name _ _) _ (Expr.Name _ _) _) _) _ _ _); k_dflt (refine binNN (by k_asm) (by rfl) (by rfl) ?_ (by rfl) (by rfl) (by rfl) (by decide) (by decide)); (try dsimp only))
  k_with "isTrue Compare" => (k_here; (with_reducible show wpAny _ _ (isTrue (Expr.Compare (Expr.Name _ _) [_] [Expr.Constant (Const.int _) _ _] _) _ _) _ _ _); k_dflt (refine isNC (by k_asm) (by rfl) ?_ (by rfl) (by rfl) (by decide) (by with_unfolding_all rfl)); (try dsimp only))
  k_with "guard" => ((fail_if_success (with_reducible show Exists _)); (fail_if_success (with_reducible show wpAny _ _ (pyIter _) _ _ _)); (fail_if_success (with_reducible show wpAny _ _ (exec (Stmt.For _ _ _ _ _) _) _ _ _)); (fail_if_success (with_reducible show wpAny _ _ (exec (Stmt.While _ _ _ _) _) _ _ _)); (fail_if_success (with_reducible show wpAny _ _ (eval (Expr.ListComp _ _ _ _) _) _ _ _)); (fail_if_success (with_reducible show wpAny _ _ (exec (Stmt.Assign _ (Expr.ListComp _ _ _ _) _) _) _ _ _)); (fail_if_success (with_reducible show wpAny _ _ (call (Value.ref 206) _ _) _ _ _)); (fail_if_success (with_reducible show wpAny _ _ (call (Value.ref 213) _ _) _ _ _)); (fail_if_success (with_reducible show wpAny _ _ (call (Value.ref 47) _ _) _ _ _)); (fail_if_success (with_reducible show wpAny _ _ (call (Value.ref 234) _ _) _ _ _)); (fail_if_success (with_reducible show wpAny _ _ (call (Value.ref 227) _ _) _ _ _)); (fail_if_success (with_reducible show wpAny _ _ (call (Value.ref 241) _ _) _ _ _)); (fail_if_success (with_reducible show wpAny _ _ (call (Value.ref 246) _ _) _ _ _)); (fail_if_success (with_reducible show wpAny _ _ (compareOp CmpOp.NotEq (Value.ref _) (Value.ref _)) _ _ _)); (fail_if_success (with_reducible show ElEnd _ _ _ _ _ _ _ _ _ _ _ _ _)); (fail_if_success (with_reducible show CSrc _ _ _ _ _ _ _ _ _ _ _ _ _ _ _ _)))
  k_with "eval Name" => (k_here; (with_reducible show wpAny _ _ (eval (Expr.Name _ _) (envOfC _ _ _ _ _)) _ _ _); k_dflt (first | (refine name_BC (by k_asm) (by k_asm) (by k_asm) (by k_is) (by boot_by_name) (by decide) (by rfl) (by decide +kernel) (by decide) ?_) | (refine name_GC (by k_asm) (by k_asm) (by k_asm) (by k_is) (by rfl) (by decide +kernel) (by decide) ?_)))
  k_with "callWith ref" => (k_here; (with_reducible show wpAny _ _ (callWith _ (Value.ref _) _ _ _) _ _ _); k_dflt (refine callWith_K (by k_asm) (by k_is) ?_; k_whole))
  k_with "eval Lambda" => ((k_here; k_dflt (refine lam_nest (by k_asm) (by k_asm) (by k_asm) (by assumption) (by k_updF) (by (simp [TriplesOk, rawInt]; done)) (by (simp [codeAmong, rawInt]; done)) (by exact rfl) (by exact rfl) ?_); intro f' lo' c' oc' vs' t' ct' h' tk' elo' F' N' d1' d2' l1 l2; (try dsimp only at N'); (try k_lt l1); (try k_lt2 l2)); (try (revert f' lo' c' oc' vs' t' ct' h' tk' elo' F' N' d1' d2' l1 l2; intros)))
  k_with "call builtin:sum" => ((k_here; (with_reducible show wpAny _ _ (call (Value.builtin "sum") [Value.ref _]) _ _ _); k_dflt (refine sum_any (by k_asm) (by k_asm) (by rfl) (by is_list) (by assumption) ?_); intro h' tk' t' F' N'); (try (revert h' tk' t' F' N'; intros)))
  k_with "call type:list" => ((k_here; (with_reducible show wpAny _ _ (call (Value.type "list") [Value.bytes _ _]) _ _ _); k_dflt (refine list_bytes (by k_asm) (by k_asm) (by rfl) _ _ _ (by exact rfl) (by (rw [sizeLine_eq]; first | decide | exact Nat.le_of_ble_eq_true rfl)) ?_; k_whole); intro D' h' tk' vs' c' hLn' hI' F' N' l1; (try simp only [List.size_toArray, List.length_cons, List.length_nil] at hLn'); (try k_lt l1)); (try (revert D' h' tk' vs' c' hLn' hI' F' N' l1; intros)))
  k_with "binaryOp Add ref ref" => ((k_here; (with_reducible show wpAny _ _ (binaryOp _ (Value.ref _) (Value.ref _)) _ _ _); k_dflt (refine kmk_add_lit (by k_asm) (by k_asm) (by is_list) (by is_list) (by exact rfl) ?_ (by (simp only [sizeLine_eq, List.toList_toArray, List.length_cons, List.length_nil]; omega))); intro D' h' F' N' l1; (try k_lt l1); (try k_sweep); (try simp only [List.toList_toArray] at N')); (try (revert D' h' F' N' l1; intros)))
  k_with "call type:bytes" => ((k_here; (with_reducible show wpAny _ _ (call (Value.type "bytes") [Value.ref _]) _ _ _); k_dflt (refine KBa.make_K (by k_asm) (by k_asm) (by rfl) (by first | assumption | is_list) (by assumption) (by apply_assumption) (by (refine Nat.le_trans ?_ (by decide : 100 ≤ 16777216); apply_assumption)) ?_); intro h' t' k' F' N' hr'); (try (revert h' t' k' F' N' hr'; intros)))
  k_with "subscriptTail" => (k_here; (with_reducible show wpAny _ _ (subscriptTail _ _ (Value.ref _) (Value.int (-1) _)) _ _ _); (refine kde_neg (by is_list) (by decide) (by decide) (seqIndex_l1 _ _) (get_l1 _ _) ?_))
  trivial
theorem slice_upto {prog : Program} {w : World} {A : Around} {E : Value → Shared → Prop} {s : Shared} {h₀ : Heap} {L : Addr} {m : Str → Option Value} {news : List (Addr × Obj)} {value slice : Expr} {l : Addr} {vs : List Value} {ns : List Int} {k : Nat} {t : Tok} {Q : Value → Shared → Prop}
    (F : Fr h₀ L s.heap m) (N : News h₀ L s.heap news) (hl : s.heap.IsList l vs.toArray) (hi : IntsAre vs ns) (hz : vs.length ≤ 10000)
    (h : ∀ D ws h', Fr h₀ L h' m → News h₀ L h' ((D, listOf (List.toArray ws) 0) :: news) → (∀ p ∈ news, p.1 < D) → IntsAre ws (ns.take k) → h'.IsList D ws.toArray → Q (.ref D) { s with heap := h' })
    (hs : subscripted slice false (.ref l) (.ref s.heap.objs.size) = operate [.ref s.heap.objs.size, .ref l] (getItem (.ref l) (.ref s.heap.objs.size)) := by with_unfolding_all rfl)
    (ht : ∀ r, letTemporaryGo value (.ref l) r = pure () := by intro _; with_unfolding_all rfl) :
    wpAny (model prog w) A (subscriptTail value slice (.ref l) (.ref s.heap.objs.size)) Q E { s with heap := s.heap.push { cls := .type "slice", data := .fields #[.none, .int (k : Int) t, .none] } } :=
  kmk_slice_ints (lo := none) (hi := some (k : Int)) (ms := ns.take k) F N hl (by constructor) (by constructor) hi (by have := kmk_upto (y := (k : Int)) hi (by omega); rwa [Int.toNat_natCast] at this) rfl (fun D ws h' F' N' l1 hI _ _ => h D ws h' F' N' l1 hI (News.isList N' (.head _))) hs ht (by rw [List.size_toArray, sizeLine_eq]; omega)
theorem kw_L11_2 : True := by
  k_with "subscriptTail Name Slice ref ref" => ((k_here; (with_reducible show wpAny _ _ (subscriptTail _ (PySem.Expr.Slice none (some _) none _) (Value.ref _) (Value.ref _)) _ _ _); (with_reducible rename Fr _ _ _ _ => F'); (with_reducible rename News _ _ _ _ => N'); k_dflt (refine slice_upto (s := ⟨_, _, _, _, _⟩) F' N' (by is_list) (by assumption) (by omega) ?_); intro D' ws' h' F' N' l1 hI' lI'; (try k_lt l1); (try k_sweep); (try dsimp only)); (try (revert D' ws' h' F' N' l1 hI' lI'; intros)))
  k_with "binaryOp Mult ref int" => ((k_here; (with_reducible show wpAny _ _ (binaryOp Operator.Mult (Value.ref _) (Value.int _ _)) _ _ _); k_dflt (refine KMa.mul (vs := [Value.ref _]) (by k_asm) (by k_asm) (by exact News.isList (by k_asm) (.head _)) (by decide) (by decide) (by exact (by decide : 1 * 5 ≤ 256)) (by exact rfl) ?_); intro D' h' F' N' l1; (try k_lt l1); (try k_sweep)); (try (revert D' h' F' N' l1; intros)))
  trivial
theorem min_c {prog : Program} {w : World} {A : Around} {E : Value → Shared → Prop} {s : Shared} {h₀ : Heap} {L : Addr} {m : Str → Option Value} {news : List (Addr × Obj)} {a b : Int} {t u : Tok} {c : Nat} {Q : Value → Shared → Prop} (F : Fr h₀ L s.heap m) (N : News h₀ L s.heap news) (hh : A.handled = none) (hc : (if b < a then b else a) = ((c : Nat) : Int))
    (h : ∀ h' tk t', Fr h₀ L h' m → News h₀ L h' news → Q (.int (c : Int) t') { s with heap := h', toks := tk }) : wpAny (model prog w) A (call (.builtin "min") [.int a t, .int b u]) Q E s := by
  refine min_two_ints hh fun h' tk k => ?_
  split at hc
  · rw [if_pos (by assumption), hc]; exact h h' tk u (F.keeps k) (N.grown k)
  · rw [if_neg (by assumption), hc]; exact h h' tk t (F.keeps k) (N.grown k)
theorem floordiv4 {prog : Program} {w : World} {A : Around} {E : Value → Shared → Prop} {s : Shared} {t u : Tok} {c : Nat} {Q : Value → Shared → Prop} (h : Q (.int ((c / 4 : Nat) : Int) s.toks) { s with toks := s.toks + 1 }) : wpAny (model prog w) A (binaryOp .FloorDiv (.int (c : Int) t) (.int 4 u)) Q E s :=
  floordiv_int (by decide) (by rw [Int.fdiv_eq_ediv_of_nonneg _ (by decide)]; exact h) (.inl (PyProof.noPylong_of_log2 (by decide)))
theorem mul_nat {prog : Program} {w : World} {A : Around} {E : Value → Shared → Prop} {s : Shared} {t u : Tok} {a n : Nat} {b : Int} {Q : Value → Shared → Prop} (hb : b = (n : Int)) (hm : IntMulOk (a : Int) (n : Int)) (h : Q (.int ((a * n : Nat) : Int) s.toks) { s with toks := s.toks + 1 }) : wpAny (model prog w) A (binaryOp .Mult (.int (a : Int) t) (.int b u)) Q E s := by
  subst hb
  exact mul_int (by rw [← Int.natCast_mul]; exact h) hm
theorem kw_L11_3 : True := by
  k_with "subscriptTail Name Slice bytes ref" => ((k_here; (with_reducible show wpAny _ _ (subscriptTail _ (PySem.Expr.Slice (some _) (some _) none _) (Value.bytes _ _) (Value.ref _)) _ _ _); (with_reducible rename Fr _ _ _ _ => F'); (with_reducible rename News _ _ _ _ => N'); (refine KBc.slice_K (s := ⟨_, _, _, _, _⟩) F' N' (by assumption) (by constructor) (by constructor) (by omega) ?_); intro h' t' k' F' N' kbcK; (simp only [Option.elim, clipAt_nat] at kbcK)); (try (revert h' t' k' F' N' kbcK; intros)))
  k_with "call builtin:min" => ((k_here; (with_reducible show wpAny _ _ (call (Value.builtin _) [Value.int _ _, Value.int _ _]) _ _ _); k_dflt (refine min_c (by k_asm) (by k_asm) (by rfl) (by assumption) ?_); intro h' tk' t' F' N'); (try (revert h' tk' t' F' N'; intros)))
  k_with "binaryOp FloorDiv int int" => (k_here; (with_reducible show wpAny _ _ (binaryOp _ (Value.int (Nat.cast _) _) (Value.int 4 _)) _ _ _); k_dflt (refine floordiv4 ?_))
  k_with "binaryOp Mult int int" => (k_here; (with_reducible show wpAny _ _ (binaryOp _ (Value.int (Nat.cast _) _) (Value.int _ _)) _ _ _); k_dflt (first | refine mul_nat (n := 4) rfl (by mul_fits) ?_ | refine mul_nat (n := 2) rfl (by mul_fits) ?_ | refine mul_nat (n := 3) rfl (by mul_fits) ?_))
  trivial
/-- where the cutting stands behind i parts -/
noncomputable def cutAt (n : Nat) (zs : List Int) : Nat → Nat
  | 0 => 0
  | i + 1 => min (cutAt n zs i + (zs.getD i 0).toNat) n
noncomputable def partD (W : List Int) (zs : List Int) (i : Nat) : D := .byt ((W.drop (cutAt W.length zs i)).take (zs.getD i 0).toNat)
noncomputable def dueD (k : Int) (W os9 : List Int) (zs : List Int) (i : Nat) : D :=
  .lst [.byt ((W.drop (cutAt W.length zs (i + 1) / 4 * 4)).take (cutAt W.length zs (i + 1) - cutAt W.length zs (i + 1) / 4 * 4)), .byt (os9.take (cutAt W.length zs (i + 1) / 4 * (if k = 3 then 2 else 3)))]
theorem part_eq {W : List Int} {c nn : Nat} (h : c ≤ W.length) : List.take (clipAt W.length ((c : Int) + (nn : Int)) - min c W.length) (List.drop (min c W.length) W) = (W.drop c).take nn := by
  rw [show (c : Int) + (nn : Int) = ((c + nn : Nat) : Int) from (Int.natCast_add c nn).symm, clipAt_nat, Nat.min_eq_left h]
  by_cases q : c + nn ≤ W.length
  · rw [Nat.min_eq_left q, Nat.add_sub_cancel_left]
  · rw [Nat.min_eq_right (by omega), List.take_of_length_le (by rw [List.length_drop]; omega), List.take_of_length_le (by rw [List.length_drop]; omega)]
theorem due_eq {W : List Int} {c : Nat} (h : c ≤ W.length) : List.take (min c W.length - min (c / 4 * 4) W.length) (List.drop (min (c / 4 * 4) W.length) W) = (W.drop (c / 4 * 4)).take (c - c / 4 * 4) := by
  rw [Nat.min_eq_left h, Nat.min_eq_left (by omega)]
theorem cutAt_le (n : Nat) (zs : List Int) : ∀ i, cutAt n zs i ≤ n
  | 0 => Nat.zero_le _
  | _ + 1 => Nat.min_le_right _ _
set_option maxHeartbeats 16000000 in
theorem st_for {s0 : Heap} {toks : Nat} {Q : Flow → Shared → Prop}
    (X : (hd.heap_1 w.params).In g) (T : Top p loose mean mg mb g) (hdp : dp + 40 < recursionLimit) (hun : un + 8 * 40 < cLine) (h48 : @LT.lt Nat _ 248 L) (sa na pa fra lea ga aa noa pia oca ona ena paa dua : Addr) (to fi : Value) (ps : Array Value) (ux uy : UInt8) (tp : Tok) (bw : Array UInt8) (tb ta : Tok) (os9 : List Int) (wy : Int) (tw : Tok) (hk : K4 wy) (hbw : KBw.bInts bw = wrK ux.toNat uy.toNat wy os9) (hWl : (wrK ux.toNat uy.toNat wy os9).length ≤ 1000)
    (nv : List Value) (ms : List Int) (lna : s0.IsList na nv.toArray) (hin : IntsAre nv ms) (hml : ms.length ≤ 63) (zs : List Int) (hzs : zs = ms.map (Int.fmod · 7) ++ [((wrK ux.toNat uy.toNat wy os9).length : Int)])
    (ov : List Value) (loc : s0.IsList oca ov.toArray) (hio : IntsAre ov os9) (hoc : Oct os9) (hol : os9.length ≤ 100)
    (hpa : s0.get? paa = some (W.listOf #[] 0)) (hpg : g.get? paa = none) (hda : s0.get? dua = some (W.listOf #[] 0)) (hdg : g.get? dua = none) (hpd : paa ≠ dua) (hop : oca ≠ paa) (hod : oca ≠ dua)
    (S : LawAt g L s0 (lawM (some (.ref sa)) (some (.ref na)) (some (.ref pa)) (some (to)) (some (.ref fra)) (some (fi)) (some (.ref lea)) (some (.ref ga)) (some (.ref pia)) (some (.ref oca)) (some (.bytes bw tb)) (some (.ref ona)) (some (.ref ena)) (some (.ref paa)) (some (.ref dua)) (some (.int 0 ta)) none none) (some (.ref aa)) (some (.ref noa)) (some (.bytes #[ux, uy] tp)) none (some (.int wy tw)) ps)
    (h : ∀ h' tk' av zv pv pn dv dn, LawAt g L h' (lawM (some (.ref sa)) (some (.ref na)) (some (.ref pa)) (some to) (some (.ref fra)) (some fi) (some (.ref lea)) (some (.ref ga)) (some (.ref pia)) (some (.ref oca)) (some (.bytes bw tb)) (some (.ref ona)) (some (.ref ena)) (some (.ref paa)) (some (.ref dua)) av zv none) (some (.ref aa)) (some (.ref noa)) (some (.bytes #[ux, uy] tp)) none (some (.int wy tw)) ps → h'.get? paa = some (W.listOf (List.toArray pv) pn) → Reps (fun a => a ≠ paa ∧ a ≠ dua ∧ PP L a) h' pv ((List.range zs.length).map (partD (wrK ux.toNat uy.toNat wy os9) zs)) →
      h'.get? dua = some (W.listOf (List.toArray dv) dn) → Reps (fun a => a ≠ paa ∧ a ≠ dua ∧ PP L a) h' dv ((List.range zs.length).map (dueD wy (wrK ux.toNat uy.toNat wy os9) os9 zs)) → Kept (fun a => PP L a ∧ a ≠ paa ∧ a ≠ dua) s0 h' → Q .next ⟨h', gens, drawn, tk', os⟩) :
    wpAny (model PySem.Challenge.rw_qh0094_01.row.prog w) (Ar dp un fr gd) (exec (lawBody.getD 22 (.Pass default)) (lawEnv L fa)) Q E ⟨s0, gens, drawn, toks, os⟩ := by
  have hppa := S.pp _ _ ⟨_, hpa, rfl, _, rfl⟩
  have hpda := S.pp _ _ ⟨_, hda, rfl, _, rfl⟩
  have hpna := S.pp _ _ lna
  have hpoc := S.pp _ _ loc
  show wpAny _ _ (exec (Stmt.For _ _ _ _ _) (envOfC _ lawScope _ _ _)) _ _ _
  conv in lawScope => whnf
  refine @by_no _ fun hNo9 => ?_
  obtain ⟨ow, ot, op, on, oa, F, N, d1, d2, d3, d4, d5⟩ := S
  refine hNo9 ?_
  clear hNo9
  revert X; k_fill; intro X
  refine wpAny_For ?_
  k_steps
  have hnl : nv.length = ms.length := hin.length
  k_dflt (refine eval_comp (PX := fun _ => True) (cl := []) F (by rfl) (by decide) (by rfl) (by decide) ?_)
  k_steps
  refine cs_list rfl F (fun k => .int ((ms.getD k 0).fmod 7)) (by rw [sizeLine_eq]; omega) lna ?el ?fin
  case el =>
    intro I C Dd h4 ys XX kx v hkx hv
    try dsimp only at hv
    obtain ⟨n, tn, rfl, hn⟩ := IntsAre.getAt hin kx v hv
    show ElTurn _ _ _ _ _ _ _ _ _ _ _ _ _ _ _ _ _ (.int ((ms.getD kx 0).fmod 7))
    rw [show ms.getD kx 0 = n by rw [List.getD_eq_getElem?_getD, hn]; rfl]
    refine elTurn_name XX (lits := litsL L ow ot op on oa ps) N (by rfl) (by rfl) ?_
    intro h5 tk5 oI oC mC Z m1
    obtain ⟨led5, hBN⟩ := base_of Z.F Z.N
    have N5 := hBN.1
    have own5 := hBN.2.1
    have B5 := hBN.2.2
    have F5 := Z.F
    have nsC := Z.nsC
    simp only [List.cons_append, List.nil_append] at N5
    clear N F
    k_steps
    exact el_end Z hBN.2.2 hBN.1 Z.F hBN.1 (fun p hp => hp) (.int _ _)
  case fin =>
    intro Dd h4 tk4 ys O
    refine @by_no _ fun hNo9 => ?_
    have S4 : LawAt g L h4 (lawM (some (.ref sa)) (some (.ref na)) (some (.ref pa)) (some (to)) (some (.ref fra)) (some (fi)) (some (.ref lea)) (some (.ref ga)) (some (.ref pia)) (some (.ref oca)) (some (.bytes bw tb)) (some (.ref ona)) (some (.ref ena)) (some (.ref paa)) (some (.ref dua)) (some (.int 0 ta)) none none) (some (.ref aa)) (some (.ref noa)) (some (.bytes #[ux, uy] tp)) none (some (.int wy tw)) ps := ⟨ow, ot, op, on, oa, O.F, fun p hp => ⟨O.keep _ _ (N p hp).2.1 (N p hp).1, (N p hp).2⟩, d1, d2, d3, d4, d5⟩
    have k4 : Kept (PP L) s0 h4 := fun a o q _ e => O.keep a o q.1 e
    have lD4 : h4.IsList Dd ys.toArray := ⟨_, O.get, rfl, _, rfl⟩
    have iD4 : IntsAre ys (ms.map (Int.fmod · 7)) := repsInts (P := fun _ => True) (h := h4) (by
      have e : (List.range nv.length).map (fun k => D.int ((ms.getD k 0).fmod 7)) = (ms.map (Int.fmod · 7)).map .int := by
        rw [hnl, List.map_map]; exact map_range_getD (fun z : Int => D.int (z.fmod 7)) _ _
      rw [← e]
      exact O.reps.weaken fun _ _ => trivial)
    have pD4 := S4.pp _ _ lD4
    clear F N
    obtain ⟨ow4, ot4, op4, on4, oa4, F4, N4, e1, e2, e3, e4, e5⟩ := S4
    obtain ⟨led4, hBN4⟩ := base_of F4 N4
    have own4 := hBN4.2.1
    have N5 := hBN4.1
    have B4 := hBN4.2.2
    simp only [List.cons_append, List.nil_append] at N5
    have n0 : Dd ≠ L := pD4.1
    have n1 : Dd ∉ [(L + 1 + 1 + 1 + 1 + 1, ow4), (L + 1 + 1 + 1 + 1, ot4), (L + 1 + 1 + 1, op4), (L + 1 + 1, on4), (L + 1, oa4), (248, tabObj ps)].map (·.1) := pD4.2
    have hyl : ys.length = ms.length := by rw [iD4.length, List.length_map]
    clear N4
    refine hNo9 ?_
    clear hNo9
    k_steps
    rename_i la hA lA1 D1 h1 F1 N1 lD1
    obtain ⟨tl, lD⟩ : ∃ tl, h1.IsList D1 (ys ++ [Value.int ((wrK ux.toNat uy.toNat wy os9).length : Int) tl]).toArray := ⟨_, News.isList N1 (.head _)⟩
    obtain ⟨W9, hW9⟩ : ∃ W9, W9 = wrK ux.toNat uy.toNat wy os9 := ⟨_, rfl⟩
    rw [← hW9] at lD
    have izs : IntsAre (ys ++ [Value.int (W9.length : Int) tl]) zs := by rw [hzs, hW9]; exact IntsAre.append iD4 (.cons _ _ .nil)
    obtain ⟨sv, hsv⟩ : ∃ sv, sv = ys ++ [Value.int (W9.length : Int) tl] := ⟨_, rfl⟩
    rw [← hsv] at lD izs
    have ka : ∀ a o, PP L a → s0.get? a = some o → h1.get? a = some o := fun a o q e => B4.get (O.keep a o q.1 e) q.1 q.2 F1 N1 (fun p hp => by simp only [List.mem_cons, hp, or_true])
    refine wpAny_pyIter_list lD ?_
    dsimp only
    rw [← hW9] at h hbw hWl hzs
    have hLI : L ≠ h1.objs.size := by
      obtain ⟨o, _, _, hL, _⟩ := F1.ns
      exact Nat.ne_of_lt (Heap.lt_size hL)
    have hin1 : ∀ a o, h1.get? a = some o → a ≠ h1.objs.size := fun a o e => Nat.ne_of_lt (Heap.lt_size e)
    have up : ∀ o' a o, h1.get? a = some o → (h1.push o').get? a = some o := fun _ _ _ e => Heap.get?_push_of_some _ e
    have Ns : News g L h1 (litsL L ow4 ot4 op4 on4 oa4 ps) := fun p hp => N1 p (.tail _ (.tail _ (List.mem_append_left led4 hp)))
    have hD1I : D1 ≠ h1.objs.size := by obtain ⟨o, ho, _⟩ := lD; exact hin1 _ _ ho
    have hsl : sv.length = zs.length := izs.length
    have hD1p : D1 ≠ paa := led_lt B4 (O.keep paa _ hppa.1 hpa) hppa.1 hppa.2 hpg lD1.2.2.2.2.2.2.2
    have hD1d : D1 ≠ dua := led_lt B4 (O.keep dua _ hpda.1 hda) hpda.1 hpda.2 hdg lD1.2.2.2.2.2.2.2
    have hgI : g.get? h1.objs.size = none := next_is_new F1
    have pD1 : PP L D1 := list_PP F1 Ns e1 e2 e3 e4 e5 lD
    have hIoff : h1.objs.size ∉ [paa, dua, L + 1 + 1 + 1 + 1 + 1, L + 1 + 1 + 1 + 1, L + 1 + 1 + 1, L + 1 + 1, L + 1, 248] := by
      simp only [List.mem_cons, List.not_mem_nil, or_false, not_or]
      exact ⟨Ne.symm (hin1 _ _ (ka _ _ hppa hpa)), Ne.symm (hin1 _ _ (ka _ _ hpda hda)), Ne.symm (hin1 _ _ (Ns _ (.head _)).1), Ne.symm (hin1 _ _ (Ns _ (.tail _ (.head _))).1), Ne.symm (hin1 _ _ (Ns _ (.tail _ (.tail _ (.head _)))).1), Ne.symm (hin1 _ _ (Ns _ (.tail _ (.tail _ (.tail _ (.head _))))).1), Ne.symm (hin1 _ _ (Ns _ (.tail _ (.tail _ (.tail _ (.tail _ (.head _)))))).1), Ne.symm (hin1 _ _ (Ns _ (.tail _ (.tail _ (.tail _ (.tail _ (.tail _ (.head _))))))).1)⟩
    have hoff : ∀ a, a ≠ paa → a ≠ dua → PP L a → a ∉ [paa, dua, L + 1 + 1 + 1 + 1 + 1, L + 1 + 1 + 1 + 1, L + 1 + 1 + 1, L + 1 + 1, L + 1, 248] := by
      intro a n1 n2 n3 hm
      rcases List.mem_cons.mp hm with e | hm
      · exact n1 e
      rcases List.mem_cons.mp hm with e | hm
      · exact n2 e
      exact n3.2 hm
    have hzp : ∀ z ∈ zs, 0 ≤ z ∧ z ≤ 1000 := by
      intro z hz
      rw [hzs] at hz
      rcases List.mem_append.mp hz with hz | hz
      · obtain ⟨y, _, rfl⟩ := List.mem_map.mp hz
        have h7 : (0 : Int) < 7 := by decide
        have a1 := Int.fmod_nonneg_of_pos y h7
        have a2 := Int.fmod_lt_of_pos y h7
        omega
      · obtain rfl := List.mem_singleton.mp hz
        omega
    refine for_heap (walks_list rfl h1.objs.size D1 hD1I sv) (fun (i : Nat) (hh : Heap) => Ex67 (α := Tok) (β := (Option Value)) (γ := (List Value)) (δ := Nat) (ε := (List Value)) (ζ := Nat) (fun ta9 zv _ _ _ _ => Fr g L hh (lawM (some (.ref sa)) (some (.ref na)) (some (.ref pa)) (some to) (some (.ref fra)) (some fi) (some (.ref lea)) (some (.ref ga)) (some (.ref pia)) (some (.ref oca)) (some (.bytes bw tb)) (some (.ref ona)) (some (.ref ena)) (some (.ref paa)) (some (.ref dua)) (some (.int ((cutAt W9.length zs i : Nat) : Int) ta9)) zv none)) (fun _ _ _ _ _ _ => News g L hh (litsL L ow4 ot4 op4 on4 oa4 ps)) (fun _ _ pv pn _ _ => hh.get? paa = some (W.listOf (List.toArray pv) pn)) (fun _ _ pv _ _ _ => Reps (fun a => (a ≠ paa ∧ a ≠ dua ∧ PP L a) ∧ a ≠ h1.objs.size) hh pv ((List.range i).map (partD W9 zs))) (fun _ _ _ _ dv dn => hh.get? dua = some (W.listOf (List.toArray dv) dn)) (fun _ _ _ _ dv _ => Reps (fun a => (a ≠ paa ∧ a ≠ dua ∧ PP L a) ∧ a ≠ h1.objs.size) hh dv ((List.range i).map (dueD wy W9 os9 zs))) (fun _ _ _ _ _ _ => (∀ a o, PP L a → a ≠ paa → a ≠ dua → s0.get? a = some o → hh.get? a = some o))) 0 (Nat.zero_le _) ?st ?J ?next ?go ?turn ?done
    case st => exact ⟨⟨_, Heap.get?_push_size _ rfl, rfl, rfl⟩, lD.push _⟩
    case J => exact ⟨ta, none, [], 0, [], 0, F1.push _, Ns.grown (up _), up _ _ _ (ka _ _ hppa hpa), .nil, up _ _ _ (ka _ _ hpda hda), .nil, fun a o q _ _ e => up _ _ _ (ka _ _ q e)⟩
    case next =>
      intro i h2 h3 ri31 hk
      refine @by_no _ fun hNo9 => ?_
      obtain ⟨ta9, zv, pv, pn, dv, dn, F, N, gp, Rp, gd', Rd, kk⟩ := ri31
      refine hNo9 ?_
      clear hNo9
      refine ⟨ta9, zv, pv, pn, dv, dn, ⟨F.ns.at' fun o e => hk _ o (by simpa using hLI) e, fun b o e => hk b o ?k1 (F.keep b o e), F.above⟩, fun p hp => ⟨hk _ _ ?k2 (N _ hp).1, (N p hp).2⟩, hk _ _ (by simpa using hin1 _ _ (ka _ _ hppa hpa)) gp, Rp.kept fun a o p _ e => hk a o (by simpa using p.2) e, hk _ _ (by simpa using hin1 _ _ (ka _ _ hpda hda)) gd', Rd.kept fun a o p _ e => hk a o (by simpa using p.2) e, fun a o q n1 n2 e => hk _ _ (by simpa using hin1 _ _ (ka _ _ q e)) (kk a o q n1 n2 e)⟩
      case k1 => simpa using hin1 _ _ (F1.keep b o e)
      case k2 => simpa using hin1 _ _ (Ns p hp).1
    case go =>
      intro i v hh tk Q' E' hst hP hq
      obtain ⟨n, tn, rfl, _⟩ := IntsAre.getAt izs i v hP
      exact wpAny_pure hq
    case turn =>
      intro i v hh tk QB1 hQB1 _ _ hi hP ri32 hit
      refine @by_no _ fun hNo9 => ?_
      obtain ⟨ta9, zv, pv, pn, dv, dn, F, N, gp, Rp, gd', Rd, kk⟩ := ri32
      refine hNo9 ?_
      clear hNo9
      dsimp only
      refine @by_no _ fun hno => ?_
      refine @by_no _ fun hNo9 => ?_
      obtain ⟨n, tn, rfl, hn⟩ := IntsAre.getAt izs i v hP
      have hnb := hzp n (List.mem_of_getElem? hn)
      obtain ⟨nn, rfl⟩ : ∃ nn : Nat, n = (nn : Int) := ⟨n.toNat, by omega⟩
      have hzi : (zs.getD i 0).toNat = nn := by rw [List.getD_eq_getElem?_getD, hn]; simp
      obtain ⟨c, hc⟩ : ∃ c, c = cutAt W9.length zs i := ⟨_, rfl⟩
      obtain ⟨c', hc'⟩ : ∃ c', c' = cutAt W9.length zs (i + 1) := ⟨_, rfl⟩
      have hcc : c' = min (c + nn) W9.length := by rw [hc', hc, ← hzi]; rfl
      have hcl : c ≤ W9.length := by rw [hc]; exact cutAt_le _ _ _
      have lo5 := isList_keep loc fun o e => kk oca o hpoc hop hod e
      have q1 : oca ≠ L := hpoc.1
      have q2 : oca ∉ ((paa, W.listOf pv.toArray pn) :: (dua, W.listOf dv.toArray dn) :: litsL L ow4 ot4 op4 on4 oa4 ps).map (·.1) := by
        intro hm
        rcases List.mem_cons.mp hm with e | hm
        · exact hop e
        rcases List.mem_cons.mp hm with e | hm
        · exact hod e
        exact hpoc.2 hm
      have hp6 : (@Ne Nat paa (L + 1 + 1 + 1 + 1 + 1)) ∧ (@Ne Nat paa (L + 1 + 1 + 1 + 1)) ∧ (@Ne Nat paa (L + 1 + 1 + 1)) ∧ (@Ne Nat paa (L + 1 + 1)) ∧ (@Ne Nat paa (L + 1)) ∧ (@Ne Nat paa 248) := by
        have := hppa.2
        simp only [lawL, List.mem_cons, List.not_mem_nil, or_false, not_or] at this
        exact this
      have hd6 : (@Ne Nat dua (L + 1 + 1 + 1 + 1 + 1)) ∧ (@Ne Nat dua (L + 1 + 1 + 1 + 1)) ∧ (@Ne Nat dua (L + 1 + 1 + 1)) ∧ (@Ne Nat dua (L + 1 + 1)) ∧ (@Ne Nat dua (L + 1)) ∧ (@Ne Nat dua 248) := by
        have := hpda.2
        simp only [lawL, List.mem_cons, List.not_mem_nil, or_false, not_or] at this
        exact this
      have hpdN : @Ne Nat paa dua := hpd
      refine hNo9 ?_
      clear hNo9
      have hmin : (if (W9.length : Int) < (c : Int) + (nn : Int) then (W9.length : Int) else (c : Int) + (nn : Int)) = ((c' : Nat) : Int) := by rw [hcc]; split <;> omega
      have hcl' : c' ≤ W9.length := by omega
      have hovl : ov.length ≤ 100 := by rw [hio.length]; exact hol
      have hoT : ∀ k, KBa.In (os9.take k) := fun k => hoc.take k
      have hoTl : ∀ k, (os9.take k).length ≤ 100 := fun k => by rw [List.length_take]; omega
      have hzl : zs.length ≤ 64 := by rw [hzs, List.length_append, List.length_map, List.length_singleton]; omega
      have hpl9 : pv.length ≤ 100 := by have := Rp.length; rw [List.length_map, List.length_range] at this; omega
      have hdl9 : dv.length ≤ 100 := by have := Rd.length; rw [List.length_map, List.length_range] at this; omega
      rw [← hc] at F
      obtain ⟨led, hBN⟩ := base_of (lits := (paa, W.listOf pv.toArray pn) :: (dua, W.listOf dv.toArray dn) :: litsL L ow4 ot4 op4 on4 oa4 ps) F (by
        intro p hp
        rcases List.mem_cons.mp hp with rfl | hp
        · exact ⟨gp, hppa.1, hpg⟩
        rcases List.mem_cons.mp hp with rfl | hp
        · exact ⟨gd', hpda.1, hdg⟩
        exact N p hp)
      have own := hBN.2.1
      have N5 := hBN.1
      have B := hBN.2.2
      simp only [List.cons_append, List.nil_append] at N5
      simp only [List.map_cons, List.map_nil] at q2
      clear N N1 F1
      refine hno ?_
      clear hno
      k_steps
      all_goals (
        rename Fr _ _ _ _ => F9
        rename News _ _ _ _ => N9
        rename_i kbcK1 g7 tk1 g6 tk6 t2 g5 tk5 g4 t1 k4 kbcK hw D2 ws2 g3 hI2 lI2 l12 g2 t4 k2 hr2 l2 g1 l13 g0
        simp only [List.push_toArray] at N9
        obtain ⟨⟨oI1, eI1, cI1⟩, lI1⟩ := hit
        have kb : ∀ a o, hh.get? a = some o → a ≠ L → a ∉ [paa, dua, L + 1 + 1 + 1 + 1 + 1, L + 1 + 1 + 1 + 1, L + 1 + 1 + 1, L + 1 + 1, L + 1, 248] → g0.get? a = some o := fun a o e h1 h2 => B.get e h1 h2 F9 N9 (fun p hp => by simp only [List.mem_cons, hp, or_true])
        have kk2 : Kept (fun a => (a ≠ paa ∧ a ≠ dua ∧ PP L a) ∧ a ≠ h1.objs.size) hh g0 := fun a o p _ e => kb a o e p.1.2.2.1 (hoff a p.1.1 p.1.2.1 p.1.2.2)
        have Ns9 : News g L g0 (litsL L ow4 ot4 op4 on4 oa4 ps) := fun p hp => N9 p (.tail _ (.tail _ (.tail _ (.tail _ (List.mem_append_left led hp)))))
        have ll2 := News.isList N9 (.head _)
        have pl2 := list_PP F9 Ns9 e1 e2 e3 e4 e5 ll2
        have hl2I : l2 ≠ h1.objs.size := led_lt B eI1 (Ne.symm hLI) hIoff hgI l13.2.2.2.2.2.2.2.2.2
        rw [← hc'] at hQB1
        refine hQB1 g0 tk _ (.inl rfl) ⟨t2, some (.int (nn : Int) tn), pv ++ [_], pn + 1, dv ++ [_], dn + 1, Fr.congr F9 ?fr, Ns9, (N9 _ (.tail _ (.tail _ (.head _)))).1, ?rp, (N9 _ (.tail _ (.tail _ (.tail _ (.head _))))).1, ?rd, fun a o q n1 n2 e => kb a o (kk a o q n1 n2 e) q.1 (hoff a n1 n2 q)⟩ ?fp
        case fr =>
          intro q
          rw [lm_size, lm_at]
        case rp =>
          rw [List.range_succ, List.map_append]
          refine (Rp.kept kk2).append (.one (.byt _ ?_))
          rw [kbcK1, part_eq hcl, ← hc, hzi]
        case rd =>
          rw [List.range_succ, List.map_append]
          refine (Rd.kept kk2).append (.one (.lst ⟨⟨by refine neN ?_; omega, by refine neN ?_; omega, pl2⟩, hl2I⟩ ll2 (.cons (.byt _ ?_) (.cons (.byt _ ?_) .nil))))
          · rw [kbcK, due_eq hcl', ← hc']
          · rw [KBa.ints_make hr2, ← hc']
            first | rw [if_pos hw] | rw [if_neg hw]
        case fp =>
          intro b hb o e
          rcases List.mem_cons.mp hb with rfl | hb
          · exact kb _ o e (Ne.symm hLI) hIoff
          · obtain rfl := List.mem_singleton.mp hb
            exact kb _ o e pD1.1 (hoff _ hD1p hD1d pD1))
    case done =>
      intro hh tk ri33
      refine @by_no _ fun hNo9 => ?_
      obtain ⟨ta9, zv, pv, pn, dv, dn, F, N, gp, Rp, gd', Rd, kk⟩ := ri33
      rw [hsl] at Rp Rd
      refine hNo9 ?_
      clear hNo9
      exact h _ _ _ zv pv pn dv dn ⟨ow4, ot4, op4, on4, oa4, F, N, e1, e2, e3, e4, e5⟩ gp (Rp.weaken fun _ p => p.1) gd' (Rd.weaken fun _ p => p.1) (fun a o q _ e => kk a o q.1 q.2.1 q.2.2 e)

theorem begin_C7 : True := by
  w_on
  w_top off
  k_with_none
  k_with "om" => (law_clear; first | with_reducible assumption | (law_purse 20000 => grind))
  k_with "guard" => skip
  trivial
set_option maxHeartbeats 2000000
section
variable {M : Model} {A : Around} {E : Value → Shared → Prop} {s : Shared}
theorem newFunctionEnv_X {scope : Scope} {globals : Addr} {cl : List (Str × Addr)} {qual : Str} {env₀ : Env} {x : Str} {Q : Env → Shared → Prop}
    (hc : ∀ a, cellsFrom a scope.names cl = (x, a) :: cl) (hp : ∀ h, pushCells h scope.names = h.push { cls := .type "cell", data := .cell none })
    (h : Q { scope, locals := s.heap.objs.size, globals, cells := (x, s.heap.objs.size + 1) :: cl, qual, func := none, code := env₀.code, frame := env₀.frame, builtins := env₀.builtins } { s with heap := (s.heap.push { cls := .type "dict", data := .dict #[] }).push { cls := .type "cell", data := .cell none } }) :
    wpAny M A (newFunctionEnv scope globals cl [] qual none .none (some env₀)) Q E s := by
  simp only [newFunctionEnv, Option.isSome_some, if_true]
  refine wpAny_bind (wpAny_alloc ?_)
  refine wpAny_bind (wpAny_layCells _ (fun name kind cells => by cases hkc : kind == NameKind.cell <;> simp [hkc]) _ _ _ _ ?_)
  dsimp only
  rw [hc, hp, Heap.size_push]
  refine wpAny_bind ?_
  rw [List.forIn_nil]
  exact wpAny_pure (wpAny_pure h)
end
noncomputable abbrev OwnX (C X : Addr) : Heap → Prop := fun h => (∃ mC, h.Ns C mC) ∧ ∃ v, h.IsCell X v
structure CmpX (h₀ : Heap) (L : Addr) (m : Str → Option Value) (hs : Heap) (I C X Dd : Addr) (h : Heap) (ys : List Value) : Prop extends CmpIn h₀ L m hs I C Dd h ys where
  cell : ∃ v, h.IsCell X v
  XL : X ≠ L
  XI : X ≠ I
  XC : X ≠ C
  XD : X ≠ Dd
  X0 : h₀.get? X = none
  Xs : hs.get? X = none
section
variable {PX : Addr → Prop} {prog : Program} {w : World} {A : Around} {E : Value → Shared → Prop} {s : Shared} {h₀ : Heap} {L : Addr} {m : Str → Option Value} {env : Env}
/-- a comprehension's block, its scope with one cell -/
theorem comp_blkX {elt target iter : Expr} {scope : Scope} {cl : List (Str × Addr)} {pos : Pos} {x : Str} {s₂ : Shared} {I : Addr} {fp : List Addr} {n : Nat} {P : Nat → Value → Prop} {St : Nat → Heap → Prop} {ds : Nat → D} {RR : Value → Addr → Result → Shared → Prop}
    (W : Walks prog w A I fp [I] n P St) (hsz : n ≤ sizeLine) (hc : ∀ a, cellsFrom a scope.names cl = (x, a) :: cl) (hp : ∀ h, pushCells h scope.names = h.push { cls := .type "cell", data := .cell none }) (hst : St 0 s₂.heap) (hfp : ∀ b ∈ fp, b < s₂.heap.objs.size) (hLf : L ∉ fp)
    (F : Fr h₀ L s₂.heap m) (hIL : L ≠ I) (hI₀ : h₀.get? I = none) (hIt : ∀ i h, St i h → ItI h I) {hs : Heap} (hss : ∀ a o, hs.get? a = some o → s₂.heap.get? a = some o) (hsI : hs.get? I = none)
    (turn : ∀ C X Dd i v h ys, i < n → P i v → CmpX h₀ L m hs I C X Dd h ys → ElTurn PX prog w A h₀ L m [C, X] (OwnX C X) I Dd target elt (compEnvC scope ((x, X) :: cl) C env) v h s₂ (ds i))
    (hRR : ∀ Dd C h tk mC ys, C ≠ L → Dd ≠ L → C ≠ Dd → h₀.get? C = none → h₀.get? Dd = none → s₂.heap.get? C = none → s₂.heap.get? Dd = none → Fr h₀ L h m → h.get? Dd = some (LCg.lst ys) → h.Ns C mC → (∀ a o, a ≠ L → a ≠ I → s₂.heap.get? a = some o → h.get? a = some o) →
      Reps (fun a => a ≠ L ∧ a ≠ I ∧ a ≠ C ∧ a ≠ Dd ∧ PX a) h ys ((List.range n).map ds) → RR (.ref Dd) C (.ok .next) { s₂ with heap := h, toks := tk }) :
    wpAny (model prog w) A (newList []) (fun acc s₃ => wpAny (model prog w) A (newFunctionEnv scope env.globals cl [] env.qual none .none (some env)) (fun cenv s₄ =>
      codeAny (model prog w) A (.compStart (.ListComp elt [⟨target, iter, [], 0⟩] scope pos) 0 (.ref I) acc { cenv with scope := relabel scope env }) (RR acc cenv.locals) s₄) E s₃) E s₂ := by
  refine wpAny_newObj_type (newFunctionEnv_X hc hp ?_)
  dsimp only
  generalize hH2 : s₂.heap.push { cls := .type "list", dict := none, data := .seq ([] : List Value).toArray } = H2
  obtain ⟨h₁, hh₁⟩ : ∃ h₁, h₁ = (H2.push { cls := .type "dict", data := .dict #[] }).push { cls := .type "cell", data := .cell none } := ⟨_, rfl⟩
  rw [← hh₁]
  have hC : H2.objs.size = s₂.heap.objs.size + 1 := by rw [← hH2, Heap.size_push]
  have up3 : ∀ b o, (H2.push { cls := .type "dict", data := .dict #[] }).get? b = some o → h₁.get? b = some o := fun b o e => by rw [hh₁]; exact Heap.get?_push_of_some _ e
  have up2 : ∀ b o, H2.get? b = some o → h₁.get? b = some o := fun b o e => up3 b o (Heap.get?_push_of_some _ e)
  have hns₁ : h₁.Ns H2.objs.size fun _ => none := (Heap.Ns.new H2 (.type "dict")).keeps up3
  have hcell₁ : h₁.IsCell (H2.objs.size + 1) none := ⟨_, by rw [hh₁, ← Heap.size_push]; exact Heap.get?_push_size _ rfl, rfl⟩
  have hDC : s₂.heap.objs.size ≠ H2.objs.size := by rw [hC]; exact Nat.ne_of_lt (Nat.lt_succ_self _)
  have hDX : s₂.heap.objs.size ≠ H2.objs.size + 1 := by rw [hC]; exact Nat.ne_of_lt (Nat.lt_succ_of_lt (Nat.lt_succ_self _))
  have below : ∀ b, b < s₂.heap.objs.size → b ≠ H2.objs.size ∧ b ≠ s₂.heap.objs.size ∧ b ≠ H2.objs.size + 1 := fun b hb => by
    rw [hC]; exact ⟨Nat.ne_of_lt (Nat.lt_succ_of_lt hb), Nat.ne_of_lt hb, Nat.ne_of_lt (Nat.lt_succ_of_lt (Nat.lt_succ_of_lt hb))⟩
  have hDf : s₂.heap.objs.size ∉ fp := fun hm => Nat.lt_irrefl _ (hfp _ hm)
  have hCf : H2.objs.size ∉ fp := fun hm => by have := hfp _ hm; rw [hC] at this; exact Nat.lt_irrefl _ (Nat.lt_of_succ_lt this)
  have hXf : H2.objs.size + 1 ∉ fp := fun hm => by have := hfp _ hm; rw [hC] at this; exact Nat.lt_irrefl _ (Nat.lt_of_succ_lt (Nat.lt_of_succ_lt this))
  have hIf : I ∈ fp := W.sub I (List.mem_singleton.mpr rfl)
  have hIlt : I < s₂.heap.objs.size := hfp I hIf
  have old : ∀ b o, s₂.heap.get? b = some o → h₁.get? b = some o := fun b o e => up2 b o (hH2 ▸ Heap.get?_push_of_some _ e)
  have hacc : h₁.get? s₂.heap.objs.size = some (LCg.lst []) := up2 _ _ (hH2 ▸ Heap.get?_push_size _ rfl)
  have hst₁ : St 0 h₁ := W.frame _ _ _ hst fun b _ o e => old b o e
  have fresh : ∀ a, s₂.heap.objs.size ≤ a → s₂.heap.get? a = none := fun a ha => Heap.get?_none_of_le ha
  have fresh₀ : ∀ a, s₂.heap.objs.size ≤ a → h₀.get? a = none := fun a ha => keep_none F.keep (fresh a ha)
  have freshS : ∀ a, s₂.heap.objs.size ≤ a → hs.get? a = none := fun a ha => keep_none hss (fresh a ha)
  have hCle : s₂.heap.objs.size ≤ H2.objs.size := by rw [hC]; exact Nat.le_succ _
  have hXle : s₂.heap.objs.size ≤ H2.objs.size + 1 := Nat.le_succ_of_le hCle
  have hLlt : L < s₂.heap.objs.size := F.ns.lt
  have bL := below L hLlt
  have bI := below I hIlt
  have hCX : H2.objs.size + 1 ≠ H2.objs.size := Nat.succ_ne_self _
  have keep : ∀ {h : Heap}, (∀ a o, a ≠ L → a ≠ I → a ∉ [H2.objs.size, H2.objs.size + 1] → a ≠ s₂.heap.objs.size → h₁.get? a = some o → h.get? a = some o) → ∀ a o, a ≠ L → a ≠ I → s₂.heap.get? a = some o → h.get? a = some o :=
    fun k a o h1 h2 e => k a o h1 h2 (by simpa using ⟨(below a (Heap.lt_size e)).1, (below a (Heap.lt_size e)).2.2⟩) (below a (Heap.lt_size e)).2.1 (old a o e)
  have loop : ∀ s₃ : Shared, s₃ = { s₂ with heap := h₁ } →
      codeAny (model prog w) A (.compLoop (.ListComp elt [⟨target, iter, [], 0⟩] scope pos) 0 (.ref I) (.ref s₂.heap.objs.size) (compEnvC scope ((x, H2.objs.size + 1) :: cl) H2.objs.size env))
        (RR (.ref s₂.heap.objs.size) H2.objs.size) s₃ := by
    rintro s₃ rfl
    refine comp_loop (PX := PX) (own := [H2.objs.size, H2.objs.size + 1]) (Own := OwnX H2.objs.size (H2.objs.size + 1)) (ds := ds) W hsz hst₁ (F.keeps old) hIL (Ne.symm bL.2.1) (Ne.symm bI.2.1) (by simpa using ⟨hDC, hDX⟩) hDf hLf
      (fun b hb => by rcases List.mem_cons.mp hb with rfl | hb; · exact hCf
                      · rw [List.mem_singleton.mp hb]; exact hXf) (by simpa using ⟨bL.1, bL.2.2⟩) hI₀ (fresh₀ _ (Nat.le_refl _))
      (fun h h' ⟨⟨mC, y⟩, ⟨v, z⟩⟩ k => ⟨⟨mC, y.at' fun o e => k _ (.head _) o e⟩, ⟨v, let ⟨o, e, r⟩ := z; ⟨o, k _ (.tail _ (.head _)) o e, r⟩⟩⟩) ⟨⟨_, hns₁⟩, ⟨_, hcell₁⟩⟩ hacc ?_ ?_
    · intro i v h ys hi hP F' hk hst' hO hD
      exact turn _ _ _ i v h ys hi hP ⟨⟨F', fun a o h1 e => keep hk a o h1 (fun q => by rw [q, hsI] at e; cases e) (hss a o e), hO.1, hIt _ _ hst', hD, Ne.symm hIL, Ne.symm bL.1, Ne.symm bL.2.1, Ne.symm bI.1, Ne.symm bI.2.1, Ne.symm hDC, hI₀, fresh₀ _ hCle, fresh₀ _ (Nat.le_refl _), hsI, freshS _ hCle, freshS _ (Nat.le_refl _)⟩,
        hO.2, Ne.symm bL.2.2, Ne.symm bI.2.2, hCX, Ne.symm hDX, fresh₀ _ hXle, freshS _ hXle⟩
    · rintro h tk ys F' hD ⟨⟨mC, hn⟩, _⟩ hk hR
      exact hRR _ _ h tk mC ys (Ne.symm bL.1) (Ne.symm bL.2.1) (Ne.symm hDC) (fresh₀ _ hCle) (fresh₀ _ (Nat.le_refl _)) (fresh _ hCle) (fresh _ (Nat.le_refl _)) F' hD hn (keep hk) (hR.weaken fun a p => ⟨p.1, p.2.1, fun q => p.2.2.1 (by rw [q]; exact .head _), p.2.2.2⟩)
  exact codeAny_compStart_list (loop _ rfl) (W.self 0 _ _ _ hst₁ (loop _ rfl))
end

theorem begin_C8 : True := by
  w_on
  w_top off
  k_with_none
  k_with "om" => (law_clear; first | with_reducible assumption | (law_purse 20000 => grind))
  k_with "guard" => skip
  trivial
set_option maxHeartbeats 2000000
section
variable {PX : Addr → Prop} {prog : Program} {w : World} {A : Around} {E : Value → Shared → Prop} {s : Shared} {h₀ : Heap} {L : Addr} {m : Str → Option Value} {env : Env}
inductive CSrcX (PX : Addr → Prop) (prog : Program) (w : World) (A : Around) (h₀ : Heap) (L : Addr) (m : Str → Option Value) (mk : Addr → Str → Option Value) (env : Env) (target elt : Expr) (scope : Scope) (cl : List (Str × Addr)) (x : Str) (Fin : Shared → Addr → Heap → Nat → Prop) (xv : Value) (s₁ : Shared) : Prop
  | mk (hh : A.handled = none) (F : Fr h₀ L s₁.heap m) (ax : Addr) (vs : List Value) (ds : Nat → D) (hn : vs.length ≤ sizeLine) (e : xv = .ref ax) (hl : s₁.heap.IsList ax (List.toArray vs))
    (el : ∀ I C X Dd h ys, CmpX h₀ L m s₁.heap I C X Dd h ys → ∀ i v, i < vs.length → vs[i]? = some v → ElTurn PX prog w A h₀ L m [C, X] (OwnX C X) I Dd target elt (compEnvC scope ((x, X) :: cl) C env) v h s₁ (ds i))
    (fin : ∀ Dd h tk ys, CompOut PX h₀ L (mk Dd) s₁.heap Dd h ys ((List.range vs.length).map ds) → Fin s₁ Dd h tk)
theorem comp_fromX {elt target iter : Expr} {scope : Scope} {cl : List (Str × Addr)} {x : Str} {pos : Pos} {mk : Addr → Str → Option Value} {Fin : Shared → Addr → Heap → Nat → Prop} {s₁ : Shared} {xv : Value} {RR : Value → Addr → Result → Shared → Prop}
    (hc : ∀ a, cellsFrom a scope.names cl = (x, a) :: cl) (hpc : ∀ h, pushCells h scope.names = h.push { cls := .type "cell", data := .cell none }) (S : CSrcX PX prog w A h₀ L m mk env target elt scope cl x Fin xv s₁)
    (hRR : ∀ (dsl : List D) (I Dd C : Addr) (h : Heap) (tk : Nat) (mC : Str → Option Value) (ys : List Value), (∀ Dd h tk ys, CompOut PX h₀ L (mk Dd) s₁.heap Dd h ys dsl → Fin s₁ Dd h tk) →
      C ≠ L → Dd ≠ L → C ≠ Dd → h₀.get? C = none → h₀.get? Dd = none → s₁.heap.get? C = none → s₁.heap.get? Dd = none → Fr h₀ L h m → h.get? Dd = some (LCg.lst ys) → h.Ns C mC → (∀ a o, a ≠ L → s₁.heap.get? a = some o → h.get? a = some o) →
      Reps (fun a => a ≠ L ∧ a ≠ I ∧ a ≠ C ∧ a ≠ Dd ∧ PX a) h ys dsl → RR (.ref Dd) C (.ok .next) { s₁ with heap := h, toks := tk }) :
    wpAny (model prog w) A (pyIter xv) (fun it s₂ => wpAny (model prog w) A (newList []) (fun acc s₃ => wpAny (model prog w) A (newFunctionEnv scope env.globals cl [] env.qual none .none (some env)) (fun cenv s₄ =>
      codeAny (model prog w) A (.compStart (.ListComp elt [⟨target, iter, [], 0⟩] scope pos) 0 it acc { cenv with scope := relabel scope env }) (RR acc cenv.locals) s₄) E s₃) E s₂) E s₁ := by
  refine @by_no _ fun hNo9 => ?_
  obtain ⟨hh, F, ax, vs, ds, hsz, rfl, hl, turn, fin⟩ := S
  have hI₀ : h₀.get? s₁.heap.objs.size = none := next_is_new F
  have hLI : L ≠ s₁.heap.objs.size := Nat.ne_of_lt F.ns.lt
  have fr : s₁.heap.get? s₁.heap.objs.size = none := Heap.get?_none_of_le (Nat.le_refl _)
  have hlt : ax < s₁.heap.objs.size := by obtain ⟨_, e, _⟩ := hl; exact Heap.lt_size e
  have hLax : L ≠ ax := (isList_ne F.ns hl).symm
  refine hNo9 ?_
  clear hNo9
  refine wpAny_pyIter_list hl ?_
  have W' := walks_list (prog := prog) (w := w) hh s₁.heap.objs.size ax (Nat.ne_of_lt hlt) vs
  have nI : ∀ {a : Addr} {o : Obj}, s₁.heap.get? a = some o → a ≠ s₁.heap.objs.size := fun e => Nat.ne_of_lt (Heap.lt_size e)
  try dsimp only
  obtain ⟨h2, hh2⟩ : ∃ h2, h2 = s₁.heap.push { cls := .type "list_iterator", data := .fields #[.ref ax, .int 0 0] } := ⟨_, rfl⟩
  have up : ∀ b o, s₁.heap.get? b = some o → h2.get? b = some o := fun b o e => by rw [hh2]; exact Heap.get?_push_of_some _ e
  have old : ∀ {a : Addr}, h2.get? a = none → s₁.heap.get? a = none := fun {a} e => by
    cases e' : s₁.heap.get? a with
    | none => rfl
    | some o => rw [up a o e'] at e; cases e
  rw [← hh2]
  refine comp_blkX (PX := PX) (ds := ds) (s₂ := { s₁ with heap := h2 }) (hs := s₁.heap) W' hsz hc hpc ⟨by rw [hh2]; exact ⟨_, Heap.get?_push_size _ rfl, rfl, rfl⟩, by rw [hh2]; exact hl.push _⟩ (fun b hb => ?_) (by simpa using ⟨hLI, hLax⟩) (F.keeps up) hLI hI₀ (fun i h st => .inl ⟨_, _, st.1⟩) up fr ?_ ?_
  · show b < h2.objs.size
    rw [hh2, Heap.size_push]
    rcases List.mem_cons.mp hb with rfl | hb
    · exact Nat.lt_succ_self _
    · rw [List.mem_singleton.mp hb]; exact Nat.lt_succ_of_lt hlt
  · intro C X Dd i v h ys hi hP Z
    exact turn _ C X Dd h ys Z i v hi hP
  · intro Dd C h tk mC ys hCL hDL hCD hC₀ hD₀ hCs hDs F' hD hn hk hR
    exact hRR _ s₁.heap.objs.size Dd C h tk mC ys fin hCL hDL hCD hC₀ hD₀ (old hCs) (old hDs) F' hD hn (fun a o h1 e => hk a o h1 (nI e) (up a o e)) hR
theorem assign_compX {elt target iter : Expr} {y : Str} {py : Pos} {scope : Scope} {cl : List (Str × Addr)} {x : Str} {pos spos : Pos} {Q : Flow → Shared → Prop} (_F : Fr h₀ L s.heap m) (hLe : env.locals = L)
    (hsw : swapsWith (.ListComp elt [⟨target, iter, [], 0⟩] scope pos) (some (.Name y py)) spos.line env = pure true)
    (hclos : closureFor scope env = pure cl) (hc : ∀ a, cellsFrom a scope.names cl = (x, a) :: cl) (hpc : ∀ h, pushCells h scope.names = h.push { cls := .type "cell", data := .cell none }) (hkind : scope.kind = .function) (hnames : ∀ y ∈ scope.names, y.2 = .local → scope.names.lookup y.1 = some .local)
    (hy : env.kindOf y = some .local) (hp : (env.scope.kind == .class || (env.scope.kind == .module && env.locals != env.globals)) = false)
    (h : wpAny (model prog w) A (eval iter env) (CSrcX PX prog w A h₀ L m (fun Dd z => if z = y then some (.ref Dd) else m z) env target elt scope cl x (fun s₁ Dd h tk => Q .next { s₁ with heap := h, toks := tk })) E s)
    (hs : ∀ x, foldedSetIterable iter env x = pure x := by intro _; rfl) :
    wpAny (model prog w) A (exec (.Assign [.Name y py] (.ListComp elt [⟨target, iter, [], 0⟩] scope pos) spos) env) Q E s := by
  subst hLe
  rw [exec_Assign_Name_used _ _ _ _ hsw]
  refine wpAny_bind (wpAny_standAt (wpAny_bind ?_))
  show wpAny _ A (do let _ ← comprehension (.ListComp elt [⟨target, iter, [], 0⟩] scope pos) scope env _ (newList []) false (eval iter env) (some (assign (.Name y py) env))) _ _ s
  refine wpAny_bind (wpAny_mono (wpAny_comprehension_free (use := some (assign (.Name y py) env)) (Q := fun _ s' => Q .next s') rfl hs hclos hkind hnames
    (wpAny_mono h (fun xv s₁ S => ?_) fun _ _ e => e)) (fun _ s' hq => wpAny_pure (wpAny_pure hq)) fun _ _ e => e)
  refine comp_fromX (PX := PX) (RR := fun acc C => compPost (model prog w) A E (some (assign (.Name y py) env)) (fun _ s' => Q .next s') acc C) hc hpc S ?_
  intro dsl I Dd C h tk mC ys fin hCL hDL hCD hC₀ hD₀ hCs hDs F' hD hn hk hR
  show wpAny _ A (assign (.Name y py) env (.ref Dd)) _ _ _
  refine wpAny_assign_Name (wpAny_storeName_local hy F'.ns (fun h₂ hn₂ hs₂ => ?_) hp)
  have hL₀ : h₀.get? env.locals = none := Heap.get?_none_of_le F'.above
  have F₂ : Fr h₀ env.locals h₂ (fun z => if z = y then some (.ref Dd) else m z) := ⟨hn₂, fun b o e => hs₂.extBut b o (fun q => by rw [q, hL₀] at e; cases e) (F'.keep b o e), F'.above⟩
  refine ⟨mC, hn.sameBut hs₂ hCL, fun h'' hs'' => ?_⟩
  have nC : ∀ {a : Addr} {o : Obj}, s₁.heap.get? a = some o → a ≠ C := fun {a o} e q => by rw [q, hCs] at e; cases e
  have nD : Dd ≠ C := Ne.symm hCD
  refine fin Dd h'' _ ys ⟨F₂.change hs'' hCL hC₀, hs''.extBut _ _ nD (hs₂.extBut _ _ hDL hD), hDs, hD₀, hDL, fun a o h1 e => hs''.extBut _ _ (nC e) (hs₂.extBut _ _ h1 (hk a o h1 e)), (hR.kept fun a o p _ e => hs''.extBut _ _ p.2.2.1 (hs₂.extBut _ _ p.1 e)).weaken fun a p => ⟨p.1, p.2.2.2⟩⟩
/-- what stands when the element is asked, the name in a cell -/
structure ElAtX (h₀ : Heap) (L : Addr) (m : Str → Option Value) (I C X Dd : Addr) (h h₂ : Heap) (ys : List Value) (lits : List (Addr × Obj)) (oI oC oX : Obj) (mC : Str → Option Value) (v : Value) : Prop where
  F : Fr h₀ L h₂ m
  N : News h₀ L h₂ ((I, oI) :: (C, oC) :: (X, oX) :: (Dd, LCg.lst ys) :: lits)
  nsC : LCg.NsObj oC mC
  cell : oX.data = .cell (some v)
  keep : ∀ a o, a ≠ X → h.get? a = some o → h₂.get? a = some o
  it : ItI h₂ I
  ne : (@Ne Nat I C) ∧ (@Ne Nat I Dd) ∧ (@Ne Nat C Dd) ∧ (@Ne Nat X I) ∧ (@Ne Nat X C) ∧ (@Ne Nat X Dd)
theorem elTurn_cell {hs h : Heap} {I C X Dd : Addr} {ys : List Value} {lits : List (Addr × Obj)} {scope : Scope} {cl : List (Str × Addr)} {x : Str} {px : Pos} {elt : Expr} {v : Value} {d : D} (Z : CmpX h₀ L m hs I C X Dd h ys) (N : News h₀ L hs lits)
    (hx : Env.kindOf (compEnvC scope ((x, X) :: cl) C env) x = some .cell) (hkind : scope.kind = .function)
    (go : ∀ h₂ tk oI oC oX mC, ElAtX h₀ L m I C X Dd h h₂ ys lits oI oC oX mC v → wpAny (model prog w) A (eval elt (compEnvC scope ((x, X) :: cl) C env)) (ElEnd PX h₀ L m [C, X] (OwnX C X) I Dd h s d) (fun _ _ => False) { s with heap := h₂, toks := tk }) :
    ElTurn PX prog w A h₀ L m [C, X] (OwnX C X) I Dd (.Name x px) elt (compEnvC scope ((x, X) :: cl) C env) v h s d := by
  intro tk
  obtain ⟨mC, hn⟩ := Z.nsC
  obtain ⟨v0, hX⟩ := Z.cell
  refine wpAny_pure ?_
  refine wpAny_assign_Name (wpAny_storeName_cell (c := X) (by simp [compEnvC, relabel, hkind]) hx (by simp [compEnvC]) hX (fun h₂ hc₂ hs₂ => ?_))
  refine @by_no _ fun hNo9 => ?_
  obtain ⟨oI, eI⟩ := Z.getI.get
  obtain ⟨oC, eC, hC⟩ := LCg.ns_obj hn
  obtain ⟨oX, eX, hX2⟩ := hc₂
  have hx : ∀ a o, a ≠ X → h.get? a = some o → h₂.get? a = some o := fun a o ha e => hs₂.extBut a o ha e
  refine hNo9 ?_
  clear hNo9
  refine go h₂ _ oI oC oX mC ⟨⟨Z.F.ns.at' fun o e => hx _ o (Ne.symm Z.XL) e, fun b o e => hx b o (fun q => by rw [q, Z.X0] at e; cases e) (Z.F.keep b o e), Z.F.above⟩, fun p hp => ?_, hC, hX2, hx, Z.getI.keeps fun o e => hx _ o (Ne.symm Z.XI) e, Ne.symm Z.CI, Ne.symm Z.DI, Z.CD, Z.XI, Z.XC, Z.XD⟩
  rcases List.mem_cons.mp hp with rfl | hp
  · exact ⟨hx _ _ (Ne.symm Z.XI) eI, Z.IL, Z.I0⟩
  rcases List.mem_cons.mp hp with rfl | hp
  · exact ⟨hx _ _ (Ne.symm Z.XC) eC, Z.CL, Z.C0⟩
  rcases List.mem_cons.mp hp with rfl | hp
  · exact ⟨eX, Z.XL, Z.X0⟩
  rcases List.mem_cons.mp hp with rfl | hp
  · exact ⟨hx _ _ (Ne.symm Z.XD) Z.getD, Z.DL, Z.D0⟩
  · have z := N p hp
    exact ⟨hx _ _ (fun q => by have := z.1; rw [q, Z.Xs] at this; cases this) (Z.keep _ _ z.2.1 z.1), z.2⟩
theorem el_endX {h h₂ h' : Heap} {I C X Dd : Addr} {ys : List Value} {lits led news' : List (Addr × Obj)} {oI oC oX : Obj} {mC : Str → Option Value} {v : Value} {d : D} {y : Value} {tk : Nat} (Z : ElAtX h₀ L m I C X Dd h h₂ ys lits oI oC oX mC v)
    (B : Base h₀ L (((I, oI) :: (C, oC) :: (X, oX) :: (Dd, LCg.lst ys) :: lits).map (·.1)) h₂ led) (N : News h₀ L h₂ (((I, oI) :: (C, oC) :: (X, oX) :: (Dd, LCg.lst ys) :: lits) ++ led)) (F' : Fr h₀ L h' m) (N' : News h₀ L h' news')
    (hs : ∀ p ∈ ((I, oI) :: (C, oC) :: (X, oX) :: (Dd, LCg.lst ys) :: lits) ++ led, p ∈ news') (hr : Rep (fun a => a ≠ Dd ∧ PX a) h' y d) : ElEnd PX h₀ L m [C, X] (OwnX C X) I Dd h s d y { s with heap := h', toks := tk } := by
  have k := Base.all B N F' N' hs
  have hC' := (N' (C, oC) (hs _ (.tail _ (.head _)))).1
  have hX' := (N' (X, oX) (hs _ (.tail _ (.tail _ (.head _))))).1
  have hn' := Z.nsC.ns hC'
  have it' := Z.it.keeps fun o e => k _ o (Z.N _ (.head _)).2.1 e
  refine ⟨h', tk, rfl, F', ⟨⟨mC, hn'⟩, ⟨_, oX, hX', Z.cell⟩⟩, fun a o h1 h2 e => k a o h1 (Z.keep a o (fun q => h2 (by rw [q]; exact .tail _ (.head _))) e), ?_⟩
  have r1 := hr.off F'.ns
  have r2 := r1.off hn'
  have r3 := r2.offD hX' (cell_no_seq Z.cell)
  exact (Rep.offI it' r3).weaken fun a p => ⟨p.1.1.1.2, p.2, by simpa using ⟨p.1.1.2, p.1.2⟩, p.1.1.1.1⟩
end

theorem begin_L12 : True := by
  w_on
  w_top off
  k_with_none
  k_with "om" => (law_clear; first | with_reducible assumption | (law_purse 20000 => grind))
  k_with "guard" => skip
  trivial
set_option maxHeartbeats 4000000
theorem kw_L12_1 : True := by
  k_with_none
  k_with "om" => (law_clear; first | with_reducible assumption | (law_purse 20000 => grind))
  k_with "eval BinOp" => (k_here; (with_reducible show wpAny _ _ (eval (Expr.BinOp (Expr.Name _ _) _ (Expr.Constant (Const.int _) _ _) _) _) _ _ _); k_dflt (refine binNC (by k_asm) (by rfl) ?_ (by rfl) (by rfl) (by decide)); (try dsimp only))
  k_with "eval BinOp" => (k_here; (with_reducible show wpAny _ _ (eval (Expr.BinOp (Expr.Name _ _) _ (Expr.Name _ _) _) _) _ _ _); k_dflt (refine binNN (by k_asm) (by rfl) (by rfl) ?_ (by rfl) (by rfl) (by rfl) (by decide) (by decide)); (try dsimp only))
  k_with "isTrue Compare" => (k_here; (with_reducible show wpAny _ _ (isTrue (Expr.Compare (Expr.Name _ _) [_] [Expr.Constant (Const.int _) _ _] _) _ _) _ _ _); k_dflt (refine isNC (by k_asm) (by rfl) ?_ (by rfl) (by rfl) (by decide) (by with_unfolding_all rfl)); (try dsimp only))
  k_with "guard" => ((fail_if_success (with_reducible show Exists _)); (fail_if_success (with_reducible show wpAny _ _ (pyIter _) _ _ _)); (fail_if_success (with_reducible show wpAny _ _ (exec (Stmt.For _ _ _ _ _) _) _ _ _)); (fail_if_success (with_reducible show wpAny _ _ (exec (Stmt.While _ _ _ _) _) _ _ _)); (fail_if_success (with_reducible show wpAny _ _ (eval (Expr.ListComp _ _ _ _) _) _ _ _)); (fail_if_success (with_reducible show wpAny _ _ (exec (Stmt.Assign _ (Expr.ListComp _ _ _ _) _) _) _ _ _)); (fail_if_success (with_reducible show wpAny _ _ (call (Value.ref 206) _ _) _ _ _)); (fail_if_success (with_reducible show wpAny _ _ (call (Value.ref 213) _ _) _ _ _)); (fail_if_success (with_reducible show wpAny _ _ (call (Value.ref 47) _ _) _ _ _)); (fail_if_success (with_reducible show wpAny _ _ (call (Value.ref 234) _ _) _ _ _)); (fail_if_success (with_reducible show wpAny _ _ (call (Value.ref 227) _ _) _ _ _)); (fail_if_success (with_reducible show wpAny _ _ (call (Value.ref 241) _ _) _ _ _)); (fail_if_success (with_reducible show wpAny _ _ (call (Value.ref 246) _ _) _ _ _)); (fail_if_success (with_reducible show wpAny _ _ (compareOp CmpOp.NotEq (Value.ref _) (Value.ref _)) _ _ _)); (fail_if_success (with_reducible show ElEnd _ _ _ _ _ _ _ _ _ _ _ _ _)); (fail_if_success (with_reducible show CSrc _ _ _ _ _ _ _ _ _ _ _ _ _ _ _ _)); (fail_if_success (with_reducible show CSrcX _ _ _ _ _ _ _ _ _ _ _ _ _ _ _ _ _)))
  k_with "eval Name" => (k_here; (with_reducible show wpAny _ _ (eval (Expr.Name _ _) (envOfC _ _ _ _ _)) _ _ _); k_dflt (first | (refine name_BC (by k_asm) (by k_asm) (by k_asm) (by k_is) (by boot_by_name) (by decide) (by rfl) (by decide +kernel) (by decide) ?_) | (refine name_GC (by k_asm) (by k_asm) (by k_asm) (by k_is) (by rfl) (by decide +kernel) (by decide) ?_)))
  k_with "callWith ref" => (k_here; (with_reducible show wpAny _ _ (callWith _ (Value.ref _) _ _ _) _ _ _); k_dflt (refine callWith_K (by k_asm) (by k_is) ?_; k_whole))
  k_with "eval Lambda" => ((k_here; k_dflt (refine lam_nest (by k_asm) (by k_asm) (by k_asm) (by assumption) (by k_updF) (by (simp [TriplesOk, rawInt]; done)) (by (simp [codeAmong, rawInt]; done)) (by exact rfl) (by exact rfl) ?_); intro f' lo' c' oc' vs' t' ct' h' tk' elo' F' N' d1' d2' l1 l2; (try dsimp only at N'); (try k_lt l1); (try k_lt2 l2)); (try (revert f' lo' c' oc' vs' t' ct' h' tk' elo' F' N' d1' d2' l1 l2; intros)))
  k_with "call builtin:sum" => ((k_here; (with_reducible show wpAny _ _ (call (Value.builtin "sum") [Value.ref _]) _ _ _); k_dflt (refine sum_any (by k_asm) (by k_asm) (by rfl) (by is_list) (by assumption) ?_); intro h' tk' t' F' N'); (try (revert h' tk' t' F' N'; intros)))
  k_with "call type:list" => ((k_here; (with_reducible show wpAny _ _ (call (Value.type "list") [Value.bytes _ _]) _ _ _); k_dflt (refine list_bytes (by k_asm) (by k_asm) (by rfl) _ _ _ (by exact rfl) (by (rw [sizeLine_eq]; first | decide | exact Nat.le_of_ble_eq_true rfl)) ?_; k_whole); intro D' h' tk' vs' c' hLn' hI' F' N' l1; (try simp only [List.size_toArray, List.length_cons, List.length_nil] at hLn'); (try k_lt l1)); (try (revert D' h' tk' vs' c' hLn' hI' F' N' l1; intros)))
  k_with "binaryOp Add ref ref" => ((k_here; (with_reducible show wpAny _ _ (binaryOp _ (Value.ref _) (Value.ref _)) _ _ _); k_dflt (refine kmk_add_lit (by k_asm) (by k_asm) (by is_list) (by is_list) (by exact rfl) ?_ (by (simp only [sizeLine_eq, List.toList_toArray, List.length_cons, List.length_nil]; omega))); intro D' h' F' N' l1; (try k_lt l1); (try k_sweep); (try simp only [List.toList_toArray] at N')); (try (revert D' h' F' N' l1; intros)))
  k_with "call type:bytes" => ((k_here; (with_reducible show wpAny _ _ (call (Value.type "bytes") [Value.ref _]) _ _ _); k_dflt (refine KBa.make_K (by k_asm) (by k_asm) (by rfl) (by first | assumption | is_list) (by assumption) (by assumption) (by omega) ?_); intro h' t' k' F' N' hr'); (try (revert h' t' k' F' N' hr'; intros)))
  k_with "subscriptTail" => (k_here; (with_reducible show wpAny _ _ (subscriptTail _ _ (Value.ref _) (Value.int (-1) _)) _ _ _); (refine kde_neg (by is_list) (by decide) (by decide) (seqIndex_l1 _ _) (get_l1 _ _) ?_))
  k_with "subscriptTail Name Slice ref ref" => ((k_here; (with_reducible show wpAny _ _ (subscriptTail _ (PySem.Expr.Slice none (some _) none _) (Value.ref _) (Value.ref _)) _ _ _); k_dflt (refine kmk_slice_ints (by k_asm) (by k_asm) (by is_list) (by exact IsPart.none) (by exact IsPart.int _ _) (by assumption) (by exact kmk_upto (by assumption) (by omega)) (by exact rfl) ?_ (by with_unfolding_all rfl) (by kmk_pure) (by (rw [List.size_toArray, sizeLine_eq]; omega))); intro D' ws' h' F' N' l1 hI' hC' hL'; (try k_lt l1); (try k_sweep)); (try (revert D' ws' h' F' N' l1 hI' hC' hL'; intros)))
  k_with "binaryOp Mult ref int" => ((k_here; (with_reducible show wpAny _ _ (binaryOp Operator.Mult (Value.ref _) (Value.int _ _)) _ _ _); k_dflt (refine KMa.mul (vs := [Value.ref _]) (by k_asm) (by k_asm) (by exact News.isList (by k_asm) (.head _)) (by decide) (by decide) (by exact (by decide : 1 * 5 ≤ 256)) (by exact rfl) ?_); intro D' h' F' N' l1; (try k_lt l1); (try k_sweep)); (try (revert D' h' F' N' l1; intros)))
  trivial
theorem pow_nat {prog : Program} {w : World} {A : Around} {E : Value → Shared → Prop} {s : Shared} {a : Int} {t u : Tok} {k : Nat} {Q : Value → Shared → Prop} (hk : k ≤ 1000000) (ha : a.natAbs < 2 ^ 64) (h : Q (.int (a ^ k) s.toks) { s with toks := s.toks + 1 }) :
    wpAny (model prog w) A (binaryOp .Pow (.int a t) (.int (k : Int) u)) Q E s := pow_int_small (by omega) (by omega) ha (by rw [Int.toNat_natCast]; exact h)
theorem ne256 (n : Nat) : (256 : Int) ^ n ≠ 0 := Int.pow_ne_zero (by decide)
theorem np256 {n : Nat} {a : Int} (h : n ≤ 3) : Builtin.divisionGoesByPylong a (256 ^ n) = false := by
  have : n = 0 ∨ n = 1 ∨ n = 2 ∨ n = 3 := by omega
  rcases this with rfl | rfl | rfl | rfl <;> exact PyProof.noPylong_of_log2 (by decide)
theorem kw_L12_2 : True := by
  k_with "binaryOp Pow int int" => (k_here; k_dflt (refine pow_nat (by omega) (by decide) ?_))
  k_with "binaryOp FloorDiv int int" => (k_here; (with_reducible show wpAny _ _ (binaryOp _ _ (Value.int (256 ^ _) _)) _ _ _); k_dflt (refine floordiv_int (ne256 _) ?_ (.inl (np256 (by omega)))))
  trivial
noncomputable def pcOf (x : Int) : Pcs := (x.fmod 4, (List.range ((x.fdiv 4).fmod 4).toNat).map fun k => (((x.fdiv 48).fdiv (256 ^ k)).fmod 256), (x.fdiv 16).fmod 3)
theorem st_pieces {s0 : Heap} {toks : Nat} {Q : Flow → Shared → Prop}
    (X : (hd.heap_1 w.params).In g) (T : Top p loose mean mg mb g) (hdp : dp + 40 < recursionLimit) (hun : un + 8 * 40 < cLine) (h48 : @LT.lt Nat _ 248 L) (sa na : Addr) (nv : List Value) (ms : List Int) (lna : s0.IsList na nv.toArray) (hi : IntsAre nv ms) (hml : ms.length ≤ 63)
    (S : LawAt g L s0 (lawM (some (.ref sa)) (some (.ref na)) none none none none none none none none none none none none none none none none) none none none none none #[])
    (h : ∀ h' tk' pa, LawAt g L h' (lawM (some (.ref sa)) (some (.ref na)) (some (.ref pa)) none none none none none none none none none none none none none none none) none none none none none #[] → Rep (PP L) h' (.ref pa) (.lst ((ms.map pcOf).map pieceD)) → Kept (PP L) s0 h' → Q .next ⟨h', gens, drawn, tk', os⟩) :
    wpAny (model PySem.Challenge.rw_qh0094_01.row.prog w) (Ar dp un fr gd) (exec (lawBody.getD 1 (.Pass default)) (lawEnv L fa)) Q E ⟨s0, gens, drawn, toks, os⟩ := by
  show wpAny _ _ (exec (Stmt.Assign _ _ _) (envOfC _ lawScope _ _ _)) _ _ _
  conv in lawScope => whnf
  refine @by_no _ fun hNo9 => ?_
  obtain ⟨ow, ot, op, on, oa, F, N, d1, d2, d3, d4, d5⟩ := S
  refine hNo9 ?_
  clear hNo9
  revert X; k_fill; intro X
  have hnl := hi.length
  k_dflt (refine assign_compX (PX := fun _ => True) (cl := []) (x := Str.ofString "x") F (by rfl) (by with_unfolding_all rfl) (by rfl) (by intro a; rfl) (by intro h; rfl) (by rfl) (by decide) (by rfl) (by rfl) ?_)
  k_steps
  refine ⟨rfl, F, na, nv, fun k => pieceD (pcOf (ms.getD k 0)), by rw [sizeLine_eq]; omega, rfl, lna, ?el, ?fin⟩
  case el =>
    intro I C Xc Dd h4 ys XX kx v hkx hv
    obtain ⟨n, tn, rfl, hn⟩ := IntsAre.getAt hi kx v hv
    show ElTurn _ _ _ _ _ _ _ _ _ _ _ _ _ _ _ _ _ (pieceD (pcOf (ms.getD kx 0)))
    rw [show ms.getD kx 0 = n by rw [List.getD_eq_getElem?_getD, hn]; rfl]
    refine elTurn_cell XX (lits := litsL L ow ot op on oa #[]) N (by rfl) (by rfl) ?_
    intro h5 tk5 oI oC oX mC Z
    obtain ⟨led5, hBN⟩ := base_of Z.F Z.N
    have N5 := hBN.1
    have own5 := hBN.2.1
    have B5 := hBN.2.2
    have F5 := Z.F
    have nsC := Z.nsC
    have dX := Z.cell
    simp only [List.cons_append, List.nil_append] at N5
    clear N F
    k_steps
    try dsimp only
    obtain ⟨cn, hcn⟩ : ∃ cn : Nat, cn = ((n.fdiv 4).fmod 4).toNat := ⟨_, rfl⟩
    have h7 : (0 : Int) < 4 := by decide
    have a1 := Int.fmod_nonneg_of_pos (n.fdiv 4) h7
    have a2 := Int.fmod_lt_of_pos (n.fdiv 4) h7
    have hcn2 : (n.fdiv 4).fmod 4 = ((cn : Nat) : Int) := by omega
    have hcn3 : cn ≤ 3 := by omega
    k_dflt (refine eval_comp (PX := fun _ => True) F5 (by rfl) (by decide) (by rfl) (by decide) ?_)
    k_steps
    rename_i h6 tk6 t6 u6 v6 hR F6 N6 st6
    rw [hcn2] at hR
    refine ⟨rfl, F6, cn, _, fun k => .int (((n.fdiv 48).fdiv (256 ^ k)).fmod 256), by rw [sizeLine_eq]; omega, .inr ⟨_, 0, (cn : Int), _, _, _, rfl, hR, small_one (by omega) (by omega) (by omega) (by omega), by rw [rangeSize_nat]; omega, rfl⟩, ?el2, ?fin2⟩
    case el2 =>
      intro I2 C2 D2 h7 ys2 XX2 k2 v2 hk2 hv2
      try dsimp only at hv2
      obtain ⟨t2, rfl⟩ := hv2
      show ElTurn _ _ _ _ _ _ _ _ _ _ _ _ _ _ _ _ _ (.int (((n.fdiv 48).fdiv (256 ^ k2)).fmod 256))
      rw [Int.zero_add]
      refine elTurn_name XX2 (lits := (I, oI) :: (C, oC) :: (Xc, oX) :: (Dd, LCg.lst ys) :: litsL L ow ot op on oa #[]) (fun p hp => N6 p (List.mem_append_left led5 hp)) (by rfl) (by rfl) ?_
      intro h8 tk8 oI2 oC2 mC2 Z2 m1
      obtain ⟨led8, hBN8⟩ := base_of Z2.F Z2.N
      have N8 := hBN8.1
      have own8 := hBN8.2.1
      have F8 := Z2.F
      have nsC2 := Z2.nsC
      simp only [List.cons_append, List.nil_append] at N8
      clear N6 F6
      k_steps
      exact el_end Z2 hBN8.2.2 hBN8.1 Z2.F hBN8.1 (fun p hp => hp) (.int _ _)
    case fin2 =>
      intro D2 h9 tk9 ys2 O2
      have N9 : News g L h9 ((D2, LCg.lst ys2) :: (I, oI) :: (C, oC) :: (Xc, oX) :: (Dd, LCg.lst ys) :: (L + 1 + 1 + 1 + 1 + 1, ow) :: (L + 1 + 1 + 1 + 1, ot) :: (L + 1 + 1 + 1, op) :: (L + 1 + 1, on) :: (L + 1, oa) :: (248, tabObj #[]) :: led5) := by
        intro p hp
        rcases List.mem_cons.mp hp with rfl | hp
        · exact ⟨O2.get, O2.ne, O2.new0⟩
        · exact ⟨O2.keep _ _ (N6 p hp).2.1 (N6 p hp).1, (N6 p hp).2⟩
      have F9 := O2.F
      have hD2 : D2 ≠ Dd := fun q => by
        have z := (N6 _ (.tail _ (.tail _ (.tail _ (.head _))))).1
        rw [← q, O2.new] at z
        cases z
      have i2 := repsInts (P := fun a => a ≠ L ∧ a ≠ D2 ∧ True) (ns := (List.range cn).map fun k => ((n.fdiv 48).fdiv (256 ^ k)).fmod 256) (by rw [List.map_map]; exact O2.reps)
      clear N6 F6
      k_steps
      rename Fr _ _ _ _ => F10
      rename News _ _ _ _ => N10
      have hA := (by assumption : _ ∧ _ ∧ _ ∧ _ ∧ _ ∧ _ ∧ _ ∧ _ ∧ _ ∧ _ ∧ _ ∧ AllLt _ led5)
      refine el_endX Z hBN.2.2 hBN.1 F10 N10 (fun p hp => .tail _ (.tail _ hp)) (.lst ⟨by refine neN ?_; omega, trivial⟩ (News.isList N10 (.head _)) (.cons (.int _ _) (.cons (.lst ⟨hD2, trivial⟩ ⟨_, (N10 _ (.tail _ (.head _))).1, rfl, _, rfl⟩ (ints_rep (by rw [show (pcOf n).2.1 = (List.range cn).map fun k => ((n.fdiv 48).fdiv (256 ^ k)).fmod 256 by rw [hcn]; rfl]; exact i2))) (.cons (.int _ _) .nil))))
  case fin =>
    intro Dd h4 tk4 ys O
    have S' : LawAt g L h4 (lawM (some (.ref sa)) (some (.ref na)) (some (.ref Dd)) none none none none none none none none none none none none none none none) none none none none none #[] :=
      ⟨ow, ot, op, on, oa, Fr.congr O.F lm_pieces, fun p hp => ⟨O.keep _ _ (N p hp).2.1 (N p hp).1, (N p hp).2⟩, d1, d2, d3, d4, d5⟩
    have lD : h4.IsList Dd ys.toArray := ⟨_, O.get, rfl, _, rfl⟩
    refine h _ _ _ S' (.lst (S'.pp _ _ lD) lD ?rp) (fun a o q _ e => O.keep a o q.1 e)
    case rp =>
      have e : (List.range nv.length).map (fun k => pieceD (pcOf (ms.getD k 0))) = (ms.map pcOf).map pieceD := by
        rw [hnl, List.map_map]; exact map_range_getD (fun z => pieceD (pcOf z)) _ _
      rw [← e]
      exact (O.reps.onL S'.pp).weaken fun a p => p.2

theorem begin_Lk : True := by
  w_on
  w_top off
  k_with_none
  k_with "om" => (law_clear; first | with_reducible assumption | (law_purse 20000 => grind))
  k_with "guard" => skip
  trivial
set_option maxHeartbeats 4000000
theorem kw_Lk_1 : True := by
  k_with_none
  k_with "om" => (law_clear; first | with_reducible assumption | (law_purse 20000 => grind))
  k_with "eval BinOp" => (k_here; (with_reducible show wpAny _ _ (eval (Expr.BinOp (Expr.Name _ _) _ (Expr.Constant (Const.int _) _ _) _) _) _ _ _); k_dflt (refine binNC (by k_asm) (by rfl) ?_ (by rfl) (by rfl) (by decide)); (try dsimp only))
  k_with "eval BinOp" => (k_here; (with_reducible show wpAny _ _ (eval (Expr.BinOp (Expr.Name _ _) _ (Expr.Name _ _) _) _) _ _ _); k_dflt (refine binNN (by k_asm) (by rfl) (by rfl) ?_ (by rfl) (by rfl) (by rfl) (by decide) (by decide)); (try dsimp only))
  k_with "isTrue Compare" => (k_here; (with_reducible show wpAny _ _ (isTrue (Expr.Compare (Expr.Name _ _) [_] [Expr.Constant (Const.int _) _ _] _) _ _) _ _ _); k_dflt (refine isNC (by k_asm) (by rfl) ?_ (by rfl) (by rfl) (by decide) (by with_unfolding_all rfl)); (try dsimp only))
  k_with "guard" => ((fail_if_success (with_reducible show Exists _)); (fail_if_success (with_reducible show wpAny _ _ (pyIter _) _ _ _)); (fail_if_success (with_reducible show wpAny _ _ (exec (Stmt.For _ _ _ _ _) _) _ _ _)); (fail_if_success (with_reducible show wpAny _ _ (exec (Stmt.While _ _ _ _) _) _ _ _)); (fail_if_success (with_reducible show wpAny _ _ (eval (Expr.ListComp _ _ _ _) _) _ _ _)); (fail_if_success (with_reducible show wpAny _ _ (exec (Stmt.Assign _ (Expr.ListComp _ _ _ _) _) _) _ _ _)); (fail_if_success (with_reducible show wpAny _ _ (call (Value.ref 206) _ _) _ _ _)); (fail_if_success (with_reducible show wpAny _ _ (call (Value.ref 213) _ _) _ _ _)); (fail_if_success (with_reducible show wpAny _ _ (call (Value.ref 47) _ _) _ _ _)); (fail_if_success (with_reducible show wpAny _ _ (call (Value.ref 234) _ _) _ _ _)); (fail_if_success (with_reducible show wpAny _ _ (call (Value.ref 227) _ _) _ _ _)); (fail_if_success (with_reducible show wpAny _ _ (call (Value.ref 241) _ _) _ _ _)); (fail_if_success (with_reducible show wpAny _ _ (call (Value.ref 246) _ _) _ _ _)); (fail_if_success (with_reducible show wpAny _ _ (compareOp CmpOp.NotEq (Value.ref _) (Value.ref _)) _ _ _)); (fail_if_success (with_reducible show ElEnd _ _ _ _ _ _ _ _ _ _ _ _ _)); (fail_if_success (with_reducible show CSrc _ _ _ _ _ _ _ _ _ _ _ _ _ _ _ _)))
  k_with "eval Name" => (k_here; (fail_if_success (with_reducible show wpAny _ _ (eval (Expr.Name _ _) (envOfC _ _ _ _ _)) _ _ _)); (with_reducible show wpAny _ _ (eval (Expr.Name _ _) (envX _ _ _ _ _ _)) _ _ _); k_dflt (refine name_free (by k_asm) (by rfl) (by assumption) (by assumption) ?_ (by rfl) (by rfl)))
  k_with "callWith ref" => (k_here; (with_reducible show wpAny _ _ (callWith _ (Value.ref _) _ _ _) _ _ _); k_dflt (refine callWith_K (by k_asm) (by k_is) ?_; k_whole))
  trivial
theorem lam_take  {fl c' owA otA opA noa : Addr} {lo oc1 ow ot op : Obj} {pa pb p1 p2 p3 p4 p5 p6 p7 : Pos} {pm ctv : Value} {vs1 : Array Value} {tq : Tok} (kind : Int) (tkd : Tok) (hk : K4 kind) (x y : UInt8) (tp : Tok) (sa : Addr) (hne : sa ≠ noa) (nv : List Value) (nn : Nat) (hnv : nv.length ≤ 1000) (b0 b1 bp : Array UInt8) (u0 u1 up : Tok) (w0 w1 wp : List Int)
    (hb0 : KBw.bInts b0 = w0) (hb1 : KBw.bInts b1 = w1) (hbp : KBw.bInts bp = wp) (hz0 : w0.length ≤ 1000) (hz1 : w1.length ≤ 1000) (hzp : wp.length ≤ 1000)
    (hok : okK kind x.toNat y.toNat ((w0 ++ wp).take ((w0 ++ wp).length / 4 * 4))) (hdl : (decK kind x.toNat y.toNat ((w0 ++ wp).take ((w0 ++ wp).length / 4 * 4))).length ≤ 10000)
    (elo : lo = kla_obj "<lambda>" lamQ { posonlyargs := [], args := [{ arg := Str.ofString "held", annotation := none, pos := pa }, { arg := Str.ofString "part", annotation := none, pos := pb }], vararg := none, kwonlyargs := [], kw_defaults := [], kwarg := none, defaults := [] }
      (.Call (.Name (Str.ofString "_law_take") p1) [.Name (Str.ofString "way") p2, .Name (Str.ofString "pair") p3, .Name (Str.ofString "taken") p4, .Name (Str.ofString "held") p5, .Name (Str.ofString "part") p6] [] p7)
      { kind := .function, names := [(Str.ofString "held", .local), (Str.ofString "part", .local), (Str.ofString "pair", .free), (Str.ofString "taken", .free), (Str.ofString "way", .free), (Str.ofString "_law_take", .globalImplicit)], isGenerator := false, isCoroutine := false }
      [(Str.ofString "way", owA), (Str.ofString "taken", otA), (Str.ofString "pair", opA)] pm c' ctv)
    (dA : oc1.data = .fields vs1) (dB : vs1[1]? = some (.str lamQ tq)) (dw : ow.data = .cell (some (.int kind tkd))) (d3 : op.data = .cell (some (.bytes #[x, y] tp))) (dt : ot.data = .cell (some (.ref noa))) (n1 : owA ≠ noa) (n2 : otA ≠ noa) (n3 : opA ≠ noa) :
    SpecN fl [.ref sa, .bytes bp up] 9 noa (fun h => (∀ q ∈ [(fl, lo), (c', oc1), (owA, ow), (otA, ot), (opA, op)], h.get? (Prod.fst q) = some (Prod.snd q)) ∧ h.get? noa = some (PySem.W.listOf nv.toArray nn) ∧ h.IsList sa [Value.bytes b0 u0, .bytes b1 u1].toArray)
      (fun _ v h' => ∃ a r1 t1 r2 t2 n', v = .ref a ∧ a ≠ noa ∧ h'.IsList a [Value.bytes r1 t1, .bytes r2 t2].toArray ∧ KBw.bInts r1 = (w0 ++ wp).drop ((w0 ++ wp).length / 4 * 4) ∧
        KBw.bInts r2 = w1 ++ decK kind x.toNat y.toNat ((w0 ++ wp).take ((w0 ++ wp).length / 4 * 4)) ∧ h'.get? noa = some (PySem.W.listOf (nv ++ [Value.ref a]).toArray n')) := by
  intro dp un fr gd hs gens drawn toks osS Q E hb X0 T0 st0 hn0 hp hd hu hret
  revert X0; k_fill; intro X0
  try dsimp only at hp hret
  obtain ⟨jf, jn, l1⟩ := hp
  have jl := jf _ (.head _)
  have jc := jf _ (.tail _ (.head _))
  dsimp only at jl jc
  rw [elo] at jl
  k_dflt (refine' enter_lamN X0 T0 st0 hn0 jn jl ?hcd ?k8 ?k9 ?kB ?_ ?c2 ?c3 ?c4 ?c5; (case hcd => exact ⟨_, oc1, vs1, tq, rfl, jc, dA, dB⟩); (case k8 => (show dp < _; omega)); (case k9 => exact rfl); (case kB => exact locs rfl); (case c2 => exact rfl); (case c3 => exact rfl); (case c4 => exact rfl); (case c5 => decide))
  intro g L h₁ tk X T hg F N hg2
  dsimp only at hg F N hg2 ⊢
  have gw : g.get? owA = some ow := hg _ _ n1 (jf _ (.tail _ (.tail _ (.head _))))
  have gt : g.get? otA = some ot := hg _ _ n2 (jf _ (.tail _ (.tail _ (.tail _ (.head _)))))
  have go : g.get? opA = some op := hg _ _ n3 (jf _ (.tail _ (.tail _ (.tail _ (.tail _ (.head _))))))
  have gl1 : g.IsList sa _ := isList_keep l1 fun o e => hg _ o hne e
  k_steps
  rename Fr _ _ _ _ => F4
  rename News _ _ _ _ => N4
  have hn4 := N4 _ (.head _)
  k_dflt (refine' use_specN (sp_take kind tkd hk x y tp noa sa hne nv nn hnv b0 b1 bp u0 u1 up w0 w1 wp hb0 hb1 hbp hz0 hz1 hzp hok hdl) X T F4.keep hn4.2.2 ⟨hn4.1, isList_keep gl1 fun o e => F4.keep _ o e⟩ ?hd4 ?hu4 ?_; (case hd4 => (dsimp only [Around.deeper]; omega)); (case hu4 => (dsimp only [Around.deeper]; omega)))
  intro v' h' tk' kk hv'
  refine @by_no _ fun hNo9 => ?_
  obtain ⟨a, r1, t1, r2, t2, n', rfl, hnone, la, hr1, hr2, hno⟩ := hv'
  refine hNo9 ?_
  clear hNo9
  refine hret _ _ _ (fun b o hne e => kk b o hne (F4.keep b o (hg b o hne e))) ⟨a, r1, t1, r2, t2, n', rfl, fun q => ?_, la, hr1, hr2, hno⟩
  rw [q, hn4.1] at hnone
  cases hnone
theorem nm5 (c c' : Nat) (h : c ≤ c') : c / 4 * 4 + 4 * (c' / 4 - c / 4) = c' / 4 * 4 := by rw [Nat.mul_comm 4, ← Nat.add_mul, Nat.add_sub_cancel' (Nat.div_le_div_right h)]
theorem nm2 (c c' : Nat) (_h : c ≤ c') : (c' - c / 4 * 4) / 4 * 4 = 4 * (c' / 4 - c / 4) := by rw [Nat.mul_comm (c / 4), Nat.sub_mul_div, Nat.mul_comm]
theorem nm3 (c c' : Nat) (_h : c ≤ c') : 4 * (c' / 4 - c / 4) ≤ c' - c / 4 * 4 := by rw [Nat.mul_sub, Nat.mul_comm (c / 4)]; exact Nat.sub_le_sub_right (Nat.mul_div_le c' 4) _
theorem nm4 (c c' : Nat) (h : c ≤ c') : c' - c / 4 * 4 - 4 * (c' / 4 - c / 4) = c' - c' / 4 * 4 := by rw [Nat.sub_sub, nm5 c c' h]
theorem nm6 (c : Nat) : c / 4 * 4 + (c - c / 4 * 4) = c := Nat.add_sub_cancel' (Nat.div_mul_le_self c 4)
theorem nm7 (e c z : Nat) (h : e ≤ c) : c - e + z = c + z - e := (Nat.sub_add_comm h).symm
theorem cut_step {W : List Int} {c z c' : Nat} (hc : c ≤ W.length) (hc' : c' = min (c + z) W.length) :
    (W.drop (c / 4 * 4)).take (c - c / 4 * 4) ++ (W.drop c).take z = (W.drop (c / 4 * 4)).take (c' - c / 4 * 4) := by
  have e : W.drop c = (W.drop (c / 4 * 4)).drop (c - c / 4 * 4) := by rw [List.drop_drop, nm6]
  rw [e, ← List.take_add, hc', nm7 _ _ _ (Nat.div_mul_le_self c 4)]
  by_cases q : c + z ≤ W.length
  · rw [Nat.min_eq_left q]
  · have q' := Nat.le_of_lt (Nat.lt_of_not_le q)
    rw [Nat.min_eq_right q', List.take_of_length_le (by rw [List.length_drop]; exact Nat.sub_le_sub_right q' _), List.take_of_length_le (by rw [List.length_drop]; exact Nat.le_refl _)]
theorem take_law {x y kind : Int} (hk : K4 kind) (p : PairOk x y) {os W : List Int} (ho : Oct os) (hW : W = wrK x y kind os) {c z c' : Nat} (hc : c ≤ W.length) (hc' : c' = min (c + z) W.length) :
    let S := (W.drop (c / 4 * 4)).take (c - c / 4 * 4) ++ (W.drop c).take z
    okK kind x y (S.take (S.length / 4 * 4)) ∧ S.drop (S.length / 4 * 4) = (W.drop (c' / 4 * 4)).take (c' - c' / 4 * 4) ∧
      os.take (c / 4 * gK kind) ++ decK kind x y (S.take (S.length / 4 * 4)) = os.take (c' / 4 * gK kind) ∧ (decK kind x y (S.take (S.length / 4 * 4))).length ≤ os.length := by
  intro S
  have hcc : c ≤ c' := by rw [hc']; exact Nat.le_min.mpr ⟨Nat.le_add_right _ _, hc⟩
  have hcn : c' ≤ W.length := by rw [hc']; exact Nat.min_le_right _ _
  have hS : S = (W.drop (c / 4 * 4)).take (c' - c / 4 * 4) := cut_step hc hc'
  have hl : S.length = c' - c / 4 * 4 := by rw [hS, List.length_take, List.length_drop]; exact Nat.min_eq_left (Nat.sub_le_sub_right hcn _)
  have hm : S.length / 4 * 4 = 4 * (c' / 4 - c / 4) := by rw [hl]; exact nm2 c c' hcc
  have hT : S.take (S.length / 4 * 4) = wrK x y kind ((os.drop (gK kind * (c / 4))).take (gK kind * (c' / 4 - c / 4))) := by
    rw [hm, hS, List.take_take, Nat.min_eq_left (nm3 c c' hcc), hW, Nat.mul_comm (c / 4) 4, wrK_drop x y hk ho, wrK_take x y hk (ho.drop _)]
  have hD := dec_enc hk p ((ho.drop (gK kind * (c / 4))).take (gK kind * (c' / 4 - c / 4)))
  rw [hT]
  refine ⟨hD.1, ?_, ?_, ?_⟩
  · rw [hm, hS, List.drop_take, List.drop_drop, nm4 c c' hcc, nm5 c c' hcc]
  · rw [hD.2, Nat.mul_comm (c / 4) (gK kind), ← List.take_add, ← Nat.mul_add, Nat.mul_comm (c' / 4), Nat.add_sub_cancel' (Nat.div_le_div_right hcc)]
  · rw [hD.2, List.length_take, List.length_drop]; exact Nat.le_trans (Nat.min_le_right _ _) (Nat.sub_le _ _)
noncomputable def heldD (k : Int) (W os9 : List Int) (c : Nat) : D := .lst [.byt ((W.drop (c / 4 * 4)).take (c - c / 4 * 4)), .byt (os9.take (c / 4 * (if k = 3 then 2 else 3)))]
/-- the state of the reading fold -/
structure TakeJ (k : Int) (W os zs : List Int) (es : List Value) (noa : Addr) (fixed : List (Addr × Obj)) (i : Nat) (h : Heap) (v : Value) : Prop where
  fix : ∀ p ∈ fixed, h.get? p.1 = some p.2
  giv : Reps (fun a => a ≠ noa) h es ((List.range zs.length).map (partD W zs))
  val : Rep (fun a => a ≠ noa) h v (heldD k W os (cutAt W.length zs i))
  tak : ∃ nv nn, h.get? noa = some (PySem.W.listOf (List.toArray nv) nn) ∧ Reps (fun a => a ≠ noa) h nv ((List.range i).map (dueD k W os zs))
theorem TakeJ.mono {k : Int} {W os zs : List Int} {es : List Value} {noa : Addr} {fixed : List (Addr × Obj)} {i : Nat} {h h' : Heap} {v : Value} (hf : ∀ p ∈ fixed, KeepO p.2) (J : TakeJ k W os zs es noa fixed i h v) (kk : ∀ a o, KeepO o → h.get? a = some o → h'.get? a = some o) : TakeJ k W os zs es noa fixed i h' v := by
  obtain ⟨nv, nn, e, r⟩ := J.tak
  exact ⟨fun p hp => kk _ _ (hf p hp) (J.fix p hp), J.giv.keepO kk, J.val.keepO kk, nv, nn, kk _ _ ⟨nofun, nofun⟩ e, r.keepO kk⟩
theorem take_step  {fl c' owA otA opA noa : Addr} {lo oc1 ow ot op : Obj} {pa pb p1 p2 p3 p4 p5 p6 p7 : Pos} {pm ctv : Value} {vs1 : Array Value} {tq : Tok} (kind : Int) (tkd : Tok) (hk : K4 kind) (x y : UInt8) (tp : Tok) (pok : PairOk x.toNat y.toNat) (es : List Value) (W os zs : List Int) (hW : W = wrK x.toNat y.toNat kind os) (ho : Oct os) (hol : os.length ≤ 100) (hWl : W.length ≤ 1000) (hzl : zs.length ≤ 64)
    (elo : lo = kla_obj "<lambda>" lamQ { posonlyargs := [], args := [{ arg := Str.ofString "held", annotation := none, pos := pa }, { arg := Str.ofString "part", annotation := none, pos := pb }], vararg := none, kwonlyargs := [], kw_defaults := [], kwarg := none, defaults := [] }
      (.Call (.Name (Str.ofString "_law_take") p1) [.Name (Str.ofString "way") p2, .Name (Str.ofString "pair") p3, .Name (Str.ofString "taken") p4, .Name (Str.ofString "held") p5, .Name (Str.ofString "part") p6] [] p7)
      { kind := .function, names := [(Str.ofString "held", .local), (Str.ofString "part", .local), (Str.ofString "pair", .free), (Str.ofString "taken", .free), (Str.ofString "way", .free), (Str.ofString "_law_take", .globalImplicit)], isGenerator := false, isCoroutine := false }
      [(Str.ofString "way", owA), (Str.ofString "taken", otA), (Str.ofString "pair", opA)] pm c' ctv)
    (dA : oc1.data = .fields vs1) (dB : vs1[1]? = some (.str lamQ tq)) (dw : ow.data = .cell (some (.int kind tkd))) (d3 : op.data = .cell (some (.bytes #[x, y] tp))) (dt : ot.data = .cell (some (.ref noa))) (n1 : owA ≠ noa) (n2 : otA ≠ noa) (n3 : opA ≠ noa) (i : Nat) (e v : Value) (hie : es[i]? = some e) :
    SpecN fl [v, e] 9 noa (fun h => TakeJ kind W os zs es noa [(fl, lo), (c', oc1), (owA, ow), (otA, ot), (opA, op)] i h v) (fun _ v' h' => TakeJ kind W os zs es noa [(fl, lo), (c', oc1), (owA, ow), (otA, ot), (opA, op)] (i + 1) h' v') := by
  intro dp un fr gd hs gens drawn toks osS Q E hb X T st hn hJ hd hu hret
  refine @by_no _ fun hNo9 => ?_
  try dsimp only at hJ hret
  obtain ⟨jf, jg, jv, nv, nn, jn, jr⟩ := hJ
  have hi : i < zs.length := by
    have h1 := (List.getElem?_eq_some_iff.mp hie).1
    have h2 := jg.length
    rw [List.length_map, List.length_range] at h2
    omega
  obtain ⟨v', e', R9⟩ := jg.get i (.int 0) (by rw [List.length_map, List.length_range]; exact hi)
  cases hie.symm.trans e'
  rw [map_getD _ _ _ 0 _ (by rw [List.length_range]; exact hi), List.getD_eq_getElem?_getD, List.getElem?_range hi] at R9
  replace R9 : Rep _ hs e (.byt ((W.drop (cutAt W.length zs i)).take (zs.getD i 0).toNat)) := R9
  obtain ⟨bp, up, rfl, hbp⟩ := R9.byt_inv
  have jv2 : Rep _ hs v (.lst [.byt _, .byt _]) := jv
  obtain ⟨sa, us, rfl, pt, lt, R8⟩ := jv2.list_inv
  obtain ⟨_, _, rfl, r0, R8⟩ := R8.cons_inv
  obtain ⟨_, _, rfl, r1, R8⟩ := R8.cons_inv
  obtain rfl := R8.nil_inv
  obtain ⟨b0, u0, rfl, hb0⟩ := r0.byt_inv
  obtain ⟨b1, u1, rfl, hb1⟩ := r1.byt_inv
  have hc := cutAt_le W.length zs i
  obtain ⟨c, hcE⟩ : ∃ c, c = cutAt W.length zs i := ⟨_, rfl⟩
  rw [← hcE] at hc hb0 hb1 hbp
  have hc' : cutAt W.length zs (i + 1) = min (c + (zs.getD i 0).toNat) W.length := by rw [hcE]; rfl
  obtain ⟨t1, t2, t3, t4⟩ := take_law hk pok ho hW hc hc'
  have hnvl : nv.length ≤ 1000 := by have := jr.length; rw [List.length_map, List.length_range] at this; omega
  refine hNo9 ?_
  clear hNo9
  refine lam_take kind tkd hk x y tp sa pt nv nn hnvl b0 b1 bp u0 u1 up _ _ _ hb0 hb1 hbp (by rw [List.length_take]; omega) (by rw [List.length_take]; omega) (by rw [List.length_take, List.length_drop]; omega) t1 (by omega) elo dA dB dw d3 dt n1 n2 n3 dp un fr gd hs gens drawn toks osS Q E hb X T st hn ⟨jf, jn, lt⟩ hd hu ?_
  intro v h' tk' k hv
  refine @by_no _ fun hNo9 => ?_
  obtain ⟨a, r1, q1, r2, q2, n', rfl, han, la, hr1, hr2, hno⟩ := hv
  rw [t2] at hr1
  rw [show c / 4 * (if kind = 3 then 2 else 3) = c / 4 * gK kind from rfl, t3] at hr2
  have kp : Kept (fun a => a ≠ noa) hs h' := fun a o q _ e => k a o q e
  have new : Rep (fun a => a ≠ noa) h' (.ref a) (heldD kind W os (cutAt W.length zs (i + 1))) := .lst han la (.cons (.byt _ hr1) (.cons (.byt _ hr2) .nil))
  refine hNo9 ?_
  clear hNo9
  refine hret _ _ _ k ⟨fun p hp => k _ _ ?_ (jf p hp), jg.kept kp, new, nv ++ [.ref a], n', hno, ?_⟩
  · intro q
    have z := jf p hp
    rw [q, jn] at z
    have z2 : ∀ its n, p.2.data ≠ .seq its n := by
      simp only [List.mem_cons, List.not_mem_nil, or_false] at hp
      rcases hp with rfl | rfl | rfl | rfl | rfl
      · rw [elo]; exact fun its n e => by cases e
      · exact fun its n e => by (rw [dA] at e; cases e)
      · exact fun its n e => by (rw [dw] at e; cases e)
      · exact fun its n e => by (rw [dt] at e; cases e)
      · exact fun its n e => by (rw [d3] at e; cases e)
    injection z with z
    exact z2 _ _ (by rw [← z])
  · rw [List.range_succ, List.map_append]
    exact (jr.kept kp).append (.one new)
theorem red_take  {fl c' owA otA opA noa : Addr} {lo oc1 ow ot op : Obj} {pa pb p1 p2 p3 p4 p5 p6 p7 : Pos} {pm ctv : Value} {vs1 : Array Value} {tq : Tok} (kind : Int) (tkd : Tok) (hk : K4 kind) (x y : UInt8) (tp : Tok) (pok : PairOk x.toNat y.toNat) (es : List Value) (W os zs : List Int) (hW : W = wrK x.toNat y.toNat kind os) (ho : Oct os) (hol : os.length ≤ 100) (hWl : W.length ≤ 1000) (hzl : zs.length ≤ 64)
    (elo : lo = kla_obj "<lambda>" lamQ { posonlyargs := [], args := [{ arg := Str.ofString "held", annotation := none, pos := pa }, { arg := Str.ofString "part", annotation := none, pos := pb }], vararg := none, kwonlyargs := [], kw_defaults := [], kwarg := none, defaults := [] }
      (.Call (.Name (Str.ofString "_law_take") p1) [.Name (Str.ofString "way") p2, .Name (Str.ofString "pair") p3, .Name (Str.ofString "taken") p4, .Name (Str.ofString "held") p5, .Name (Str.ofString "part") p6] [] p7)
      { kind := .function, names := [(Str.ofString "held", .local), (Str.ofString "part", .local), (Str.ofString "pair", .free), (Str.ofString "taken", .free), (Str.ofString "way", .free), (Str.ofString "_law_take", .globalImplicit)], isGenerator := false, isCoroutine := false }
      [(Str.ofString "way", owA), (Str.ofString "taken", otA), (Str.ofString "pair", opA)] pm c' ctv)
    (dA : oc1.data = .fields vs1) (dB : vs1[1]? = some (.str lamQ tq)) (dw : ow.data = .cell (some (.int kind tkd))) (d3 : op.data = .cell (some (.bytes #[x, y] tp))) (dt : ot.data = .cell (some (.ref noa))) (n1 : owA ≠ noa) (n2 : otA ≠ noa) (n3 : opA ≠ noa) (sa : Addr) (hsa : sa ≠ noa) (va : Addr) (hva : @Ne Nat va 39) (hvn : va ≠ noa) (vav : List Value) :
    SpecN 47 [.ref fl, .ref sa, .ref va] 11 noa (fun h => h.get? noa = some (PySem.W.listOf #[] 0) ∧ h.IsList sa es.toArray ∧ h.IsList va vav.toArray ∧ TakeJ kind W os zs es noa [(fl, lo), (c', oc1), (owA, ow), (otA, ot), (opA, op)] 0 h (.ref va)) (fun _ v' h' => TakeJ kind W os zs es noa [(fl, lo), (c', oc1), (owA, ow), (otA, ot), (opA, op)] es.length h' v') := by
  refine sp_reduce3 fl sa va noa (PySem.W.listOf #[] 0) es hsa vav hva hvn 9 (fun i h v => TakeJ kind W os zs es noa [(fl, lo), (c', oc1), (owA, ow), (otA, ot), (opA, op)] i h v) ?mono ?fn ?step
  case mono =>
    intro i h h' v J k
    refine J.mono (fun p hp => ?_) k
    simp only [List.mem_cons, List.not_mem_nil, or_false] at hp
    rcases hp with rfl | rfl | rfl | rfl | rfl
    · rw [elo]
      exact ⟨fun es ep e => by (cases e), fun l i e => by (cases e)⟩
    · exact ⟨fun es ep e => by (rw [dA] at e; cases e), fun l i e => by
        rw [dA] at e
        injection e with e
        rw [e] at dB
        cases dB⟩
    · exact ⟨fun es ep e => by (rw [dw] at e; cases e), fun l i e => by (rw [dw] at e; cases e)⟩
    · exact ⟨fun es ep e => by (rw [dt] at e; cases e), fun l i e => by (rw [dt] at e; cases e)⟩
    · exact ⟨fun es ep e => by (rw [d3] at e; cases e), fun l i e => by (rw [d3] at e; cases e)⟩
  case fn =>
    intro i h v J
    have z := J.fix _ (.head _)
    rw [elo] at z
    exact ⟨_, _, _, _, z⟩
  case step => exact fun i e v hie => take_step kind tkd hk x y tp pok es W os zs hW ho hol hWl hzl elo dA dB dw d3 dt n1 n2 n3 i e v hie

theorem begin_L13 : True := by
  w_on
  w_top off
  k_with_none
  k_with "om" => (law_clear; first | with_reducible assumption | (law_purse 20000 => grind))
  k_with "guard" => skip
  trivial
set_option maxHeartbeats 4000000
theorem kw_L13_1 : True := by
  k_with_none
  k_with "om" => (law_clear; first | with_reducible assumption | (law_purse 20000 => grind))
  k_with "eval BinOp" => (k_here; (with_reducible show wpAny _ _ (eval (Expr.BinOp (Expr.Name _ _) _ (Expr.Constant (Const.int _) _ _) _) _) _ _ _); k_dflt (refine binNC (by k_asm) (by rfl) ?_ (by rfl) (by rfl) (by decide)); (try dsimp only))
  k_with "eval BinOp" => (k_here; (with_reducible show wpAny _ _ (eval (Expr.BinOp (Expr.Name _ _) _ (Expr.Name _ _) _) _) _ _ _); k_dflt (refine binNN (by k_asm) (by rfl) (by rfl) ?_ (by rfl) (by rfl) (by rfl) (by decide) (by decide)); (try dsimp only))
  k_with "isTrue Compare" => (k_here; (with_reducible show wpAny _ _ (isTrue (Expr.Compare (Expr.Name _ _) [_] [Expr.Constant (Const.int _) _ _] _) _ _) _ _ _); k_dflt (refine isNC (by k_asm) (by rfl) ?_ (by rfl) (by rfl) (by decide) (by with_unfolding_all rfl)); (try dsimp only))
  k_with "guard" => ((fail_if_success (with_reducible show Exists _)); (fail_if_success (with_reducible show wpAny _ _ (pyIter _) _ _ _)); (fail_if_success (with_reducible show wpAny _ _ (exec (Stmt.For _ _ _ _ _) _) _ _ _)); (fail_if_success (with_reducible show wpAny _ _ (exec (Stmt.While _ _ _ _) _) _ _ _)); (fail_if_success (with_reducible show wpAny _ _ (eval (Expr.ListComp _ _ _ _) _) _ _ _)); (fail_if_success (with_reducible show wpAny _ _ (exec (Stmt.Assign _ (Expr.ListComp _ _ _ _) _) _) _ _ _)); (fail_if_success (with_reducible show wpAny _ _ (call (Value.ref 206) _ _) _ _ _)); (fail_if_success (with_reducible show wpAny _ _ (call (Value.ref 213) _ _) _ _ _)); (fail_if_success (with_reducible show wpAny _ _ (call (Value.ref 47) _ _) _ _ _)); (fail_if_success (with_reducible show wpAny _ _ (call (Value.ref 234) _ _) _ _ _)); (fail_if_success (with_reducible show wpAny _ _ (call (Value.ref 227) _ _) _ _ _)); (fail_if_success (with_reducible show wpAny _ _ (call (Value.ref 241) _ _) _ _ _)); (fail_if_success (with_reducible show wpAny _ _ (call (Value.ref 246) _ _) _ _ _)); (fail_if_success (with_reducible show wpAny _ _ (compareOp CmpOp.NotEq (Value.ref _) (Value.ref _)) _ _ _)); (fail_if_success (with_reducible show ElEnd _ _ _ _ _ _ _ _ _ _ _ _ _)); (fail_if_success (with_reducible show CSrc _ _ _ _ _ _ _ _ _ _ _ _ _ _ _ _)))
  k_with "eval Name" => (k_here; (with_reducible show wpAny _ _ (eval (Expr.Name _ _) (envOfC _ _ _ _ _)) _ _ _); k_dflt (first | (refine name_BC (by k_asm) (by k_asm) (by k_asm) (by k_is) (by boot_by_name) (by decide) (by rfl) (by decide +kernel) (by decide) ?_) | (refine name_GC (by k_asm) (by k_asm) (by k_asm) (by k_is) (by rfl) (by decide +kernel) (by decide) ?_)))
  k_with "callWith ref" => (k_here; (with_reducible show wpAny _ _ (callWith _ (Value.ref _) _ _ _) _ _ _); k_dflt (refine callWith_K (by k_asm) (by k_is) ?_; k_whole))
  k_with "eval Lambda" => ((k_here; k_dflt (refine lam_nest (by k_asm) (by k_asm) (by k_asm) (by assumption) (by k_updF) (by (simp [TriplesOk, rawInt]; done)) (by (simp [codeAmong, rawInt]; done)) (by exact rfl) (by exact rfl) ?_); intro f' lo' c' oc' vs' t' ct' h' tk' elo' F' N' d1' d2' l1 l2; (try dsimp only at N'); (try k_lt l1); (try k_lt2 l2)); (try (revert f' lo' c' oc' vs' t' ct' h' tk' elo' F' N' d1' d2' l1 l2; intros)))
  k_with "call builtin:sum" => ((k_here; (with_reducible show wpAny _ _ (call (Value.builtin "sum") [Value.ref _]) _ _ _); k_dflt (refine sum_any (by k_asm) (by k_asm) (by rfl) (by is_list) (by assumption) ?_); intro h' tk' t' F' N'); (try (revert h' tk' t' F' N'; intros)))
  k_with "call type:list" => ((k_here; (with_reducible show wpAny _ _ (call (Value.type "list") [Value.bytes _ _]) _ _ _); k_dflt (refine list_bytes (by k_asm) (by k_asm) (by rfl) _ _ _ (by exact rfl) (by (rw [sizeLine_eq]; first | decide | exact Nat.le_of_ble_eq_true rfl)) ?_; k_whole); intro D' h' tk' vs' c' hLn' hI' F' N' l1; (try simp only [List.size_toArray, List.length_cons, List.length_nil] at hLn'); (try k_lt l1)); (try (revert D' h' tk' vs' c' hLn' hI' F' N' l1; intros)))
  k_with "binaryOp Add ref ref" => ((k_here; (with_reducible show wpAny _ _ (binaryOp _ (Value.ref _) (Value.ref _)) _ _ _); k_dflt (refine kmk_add_lit (by k_asm) (by k_asm) (by is_list) (by is_list) (by exact rfl) ?_ (by (simp only [sizeLine_eq, List.toList_toArray, List.length_cons, List.length_nil]; omega))); intro D' h' F' N' l1; (try k_lt l1); (try k_sweep); (try simp only [List.toList_toArray] at N')); (try (revert D' h' F' N' l1; intros)))
  k_with "call type:bytes" => ((k_here; (with_reducible show wpAny _ _ (call (Value.type "bytes") [Value.ref _]) _ _ _); k_dflt (refine KBa.make_K (by k_asm) (by k_asm) (by rfl) (by first | assumption | is_list) (by assumption) (by apply_assumption) (by (refine Nat.le_trans ?_ (by decide : 100 ≤ 16777216); apply_assumption)) ?_); intro h' t' k' F' N' hr'); (try (revert h' t' k' F' N' hr'; intros)))
  k_with "subscriptTail" => (k_here; (with_reducible show wpAny _ _ (subscriptTail _ _ (Value.ref _) (Value.int (-1) _)) _ _ _); (refine kde_neg (by is_list) (by decide) (by decide) (seqIndex_l1 _ _) (get_l1 _ _) ?_))
  k_with "binaryOp Mult ref int" => ((k_here; (with_reducible show wpAny _ _ (binaryOp Operator.Mult (Value.ref _) (Value.int _ _)) _ _ _); k_dflt (refine KMa.mul (vs := [Value.ref _]) (by k_asm) (by k_asm) (by exact News.isList (by k_asm) (.head _)) (by decide) (by decide) (by exact (by decide : 1 * 5 ≤ 256)) (by exact rfl) ?_); intro D' h' F' N' l1; (try k_lt l1); (try k_sweep)); (try (revert D' h' F' N' l1; intros)))
  trivial
theorem st_taken {s0 : Heap} {toks : Nat} {Q : Flow → Shared → Prop}
    (X : (hd.heap_1 w.params).In g) (T : Top p loose mean mg mb g) (hdp : dp + 40 < recursionLimit) (hun : un + 8 * 40 < cLine) (h48 : @LT.lt Nat _ 248 L) (sa na pa fra lea ga aa noa pia oca ona ena paa dua : Addr) (to fi : Value) (av zv : Option Value) (ps : Array Value) (ux uy : UInt8) (tp : Tok) (bw : Array UInt8) (tb : Tok) (wy : Int) (tw : Tok)
    (S : LawAt g L s0 (lawM (some (.ref sa)) (some (.ref na)) (some (.ref pa)) (some to) (some (.ref fra)) (some fi) (some (.ref lea)) (some (.ref ga)) (some (.ref pia)) (some (.ref oca)) (some (.bytes bw tb)) (some (.ref ona)) (some (.ref ena)) (some (.ref paa)) (some (.ref dua)) av zv none) (some (.ref aa)) (some (.ref noa)) (some (.bytes #[ux, uy] tp)) none (some (.int wy tw)) ps)
    (h : ∀ h' tk' tka, LawAt g L h' (lawM (some (.ref sa)) (some (.ref na)) (some (.ref pa)) (some to) (some (.ref fra)) (some fi) (some (.ref lea)) (some (.ref ga)) (some (.ref pia)) (some (.ref oca)) (some (.bytes bw tb)) (some (.ref ona)) (some (.ref ena)) (some (.ref paa)) (some (.ref dua)) av zv none) (some (.ref aa)) (some (.ref noa)) (some (.bytes #[ux, uy] tp)) (some (.ref tka)) (some (.int wy tw)) ps → g.get? tka = none → s0.get? tka = none → h'.get? tka = some (W.listOf #[] 0) → Kept (PP L) s0 h' → Q .next ⟨h', gens, drawn, tk', os⟩) :
    wpAny (model PySem.Challenge.rw_qh0094_01.row.prog w) (Ar dp un fr gd) (exec (lawBody.getD 23 (.Pass default)) (lawEnv L fa)) Q E ⟨s0, gens, drawn, toks, os⟩ := by
  show wpAny _ _ (exec (Stmt.Assign _ _ _) (envOfC _ lawScope _ _ _)) _ _ _
  conv in lawScope => whnf
  refine @by_no _ fun hNo9 => ?_
  obtain ⟨ow, ot, op, on, oa, F, N, d1, d2, d3, d4, d5⟩ := S
  refine hNo9 ?_
  clear hNo9
  revert X; k_fill; intro X
  obtain ⟨led, hBN⟩ := base_of F N
  have own := hBN.2.1
  have N := hBN.1
  simp only [List.cons_append, List.nil_append] at N
  k_steps
  rename Fr _ _ _ _ => F1
  rename News _ _ _ _ => N1
  have hA := (by assumption : _ ∧ _ ∧ _ ∧ _ ∧ _ ∧ _ ∧ AllLt _ led)
  rename _ = Data.cell (some (Value.ref _)) => d9
  have z := N1 _ (.head _)
  refine h _ _ _ ⟨ow, _, op, on, oa, F1, fun p hp => N1 p ?nw, d1, d9, d3, d4, d5⟩ z.2.2 (fresh_led hBN.2.2 z.2.2 z.2.1 ?nl hA.2.2.2.2.2.2) z.1 (fun a o q _ e => hBN.2.2.get e q.1 q.2 F1 N1 ?kb)
  case nw =>
    simp only [List.mem_cons, List.not_mem_nil, or_false] at hp ⊢
    rcases hp with rfl | rfl | rfl | rfl | rfl | rfl <;> simp only [true_or, or_true]
  case nl =>
    simp only [List.map_cons, List.map_nil, List.mem_cons, List.not_mem_nil, or_false, not_or]
    exact ⟨Nat.ne_of_gt hA.1, Nat.ne_of_gt hA.2.1, Nat.ne_of_gt hA.2.2.1, Nat.ne_of_gt hA.2.2.2.1, Nat.ne_of_gt hA.2.2.2.2.1, Nat.ne_of_gt hA.2.2.2.2.2.1⟩
  case kb => intro p hp; simp only [List.mem_cons, hp, or_true]

theorem rep_byts {P P' : Addr → Prop} {h h' : Heap} {α : Type} (f : α → List Int) : ∀ {vs : List Value} {ks : List α}, Reps P h vs (ks.map fun k => D.byt (f k)) → Reps P' h' vs (ks.map fun k => D.byt (f k))
  | [], [], _ => .nil
  | [], _ :: _, r => nomatch r
  | _ :: _, [], r => nomatch r
  | _ :: _, _ :: _, .cons (.byt t e) r => .cons (.byt t e) (rep_byts f r)
theorem st_state {s0 : Heap} {toks : Nat} {Q : Flow → Shared → Prop}
    (X : (hd.heap_1 w.params).In g) (T : Top p loose mean mg mb g) (hdp : dp + 40 < recursionLimit) (hun : un + 8 * 40 < cLine) (h48 : @LT.lt Nat _ 248 L) (C : CodeHd g 250 248) (sa na pa fra lea ga aa noa pia oca ona ena paa dua : Addr) (to fi : Value) (av zv : Option Value) (ux uy : UInt8) (tp : Tok) (bw : Array UInt8) (tb : Tok) (wy : Int) (tw : Tok) (c0 c1 c2 c3 c4 c5 : Addr) (tka : Addr) (pok : PairOk ux.toNat uy.toNat) (hk : K4 wy) (os9 : List Int) (ho : Oct os9) (hol : os9.length ≤ 100) (hWl : (wrK ux.toNat uy.toNat wy os9).length ≤ 1000) (zs : List Int) (hzl : zs.length ≤ 64)
    (pv : List Value) (lpa : s0.IsList paa pv.toArray) (hpr : Reps (PP L) s0 pv ((List.range zs.length).map (partD (wrK ux.toNat uy.toNat wy os9) zs))) (hng : g.get? tka = none) (hn : s0.get? tka = some (W.listOf #[] 0)) (hpt : paa ≠ tka)
    (S : LawAt g L s0 (lawM (some (.ref sa)) (some (.ref na)) (some (.ref pa)) (some to) (some (.ref fra)) (some fi) (some (.ref lea)) (some (.ref ga)) (some (.ref pia)) (some (.ref oca)) (some (.bytes bw tb)) (some (.ref ona)) (some (.ref ena)) (some (.ref paa)) (some (.ref dua)) av zv none) (some (.ref aa)) (some (.ref noa)) (some (.bytes #[ux, uy] tp)) (some (.ref tka)) (some (.int wy tw)) (PS5 c0 c1 c2 c3 c4 c5))
    (h : ∀ h' tk' sta tv tn c6, LawAt g L h' (lawM (some (.ref sa)) (some (.ref na)) (some (.ref pa)) (some to) (some (.ref fra)) (some fi) (some (.ref lea)) (some (.ref ga)) (some (.ref pia)) (some (.ref oca)) (some (.bytes bw tb)) (some (.ref ona)) (some (.ref ena)) (some (.ref paa)) (some (.ref dua)) av zv (some (.ref sta))) (some (.ref aa)) (some (.ref noa)) (some (.bytes #[ux, uy] tp)) (some (.ref tka)) (some (.int wy tw)) (PS5 c0 c1 c2 c3 c4 c5 ++ #[rawInt 317, rawInt 0, .ref c6]) →
      Rep (fun a => a ≠ tka ∧ PP L a) h' (.ref sta) (heldD wy (wrK ux.toNat uy.toNat wy os9) os9 (cutAt (wrK ux.toNat uy.toNat wy os9).length zs zs.length)) → h'.get? tka = some (W.listOf (List.toArray tv) tn) → Reps (fun a => a ≠ tka ∧ PP L a) h' tv ((List.range zs.length).map (dueD wy (wrK ux.toNat uy.toNat wy os9) os9 zs)) →
      Kept (fun a => PP L a ∧ a ≠ tka) s0 h' → Q .next ⟨h', gens, drawn, tk', os⟩) :
    wpAny (model PySem.Challenge.rw_qh0094_01.row.prog w) (Ar dp un fr gd) (exec (lawBody.getD 24 (.Pass default)) (lawEnv L fa)) Q E ⟨s0, gens, drawn, toks, os⟩ := by
  show wpAny _ _ (exec (Stmt.Assign _ _ _) (envOfC _ lawScope _ _ _)) _ _ _
  have hppa := S.pp _ _ lpa
  have hnoP := S.pp tka _ ⟨_, hn, rfl, _, rfl⟩
  conv in lawScope => whnf
  refine @by_no _ fun hNo9 => ?_
  obtain ⟨ow, ot, op, on, oa, F, N, d1, d2, d3, d4, d5⟩ := S
  refine hNo9 ?_
  clear hNo9
  revert X; k_fill; intro X
  obtain ⟨led, hBN⟩ := base_of F N
  have own := hBN.2.1
  have N := hBN.1
  have B := hBN.2.2
  simp only [List.cons_append, List.nil_append] at N
  have n0 : paa ≠ L := hppa.1
  have n1 : paa ∉ [(L + 1 + 1 + 1 + 1 + 1, ow), (L + 1 + 1 + 1 + 1, ot), (L + 1 + 1 + 1, op), (L + 1 + 1, on), (L + 1, oa), (248, tabObj (PS5 c0 c1 c2 c3 c4 c5))].map (·.1) := hppa.2
  have hpvl : pv.length = zs.length := by rw [hpr.length]; simp
  k_steps
  rename_i fl lo1 c6 oc1 vs1 t1 ct1 hh1 tk1 elo1 dA1 dB1 lA1 lB1 D1 h1 F1 N1 lD1
  have ka : ∀ a o, PP L a → s0.get? a = some o → h1.get? a = some o := fun a o q e => B.get e q.1 q.2 F1 N1 (fun p hp => by simp only [List.mem_cons, hp, or_true])
  have hnH := ka _ _ hnoP hn
  have hD1 : D1 ≠ tka := led_lt B hn hnoP.1 hnoP.2 hng lD1.2.2.2.2.2.2.2.2
  have hv39 : @Ne Nat D1 39 := by omega
  have hcl : ∀ p : Addr × Obj, p ∈ [(L + 1 + 1 + 1 + 1 + 1, ow), (L + 1 + 1 + 1 + 1, ot), (L + 1 + 1 + 1, op), (L + 1 + 1, on), (L + 1, oa), (248, tabObj (PS5 c0 c1 c2 c3 c4 c5 ++ #[rawInt 317, rawInt 0, Value.ref c6]))] → h1.get? p.1 = some p.2 ∧ p.1 ≠ L ∧ g.get? p.1 = none := fun p hp => N1 p (.tail _ (.tail _ (.tail _ (List.mem_append_left led hp))))
  have hz6 : (@Ne Nat (L + 1 + 1 + 1 + 1 + 1) tka) ∧ (@Ne Nat (L + 1 + 1 + 1 + 1) tka) ∧ (@Ne Nat (L + 1 + 1 + 1) tka) ∧ (@Ne Nat (L + 1 + 1) tka) ∧ (@Ne Nat (L + 1) tka) ∧ (@Ne Nat 248 tka) := by
    have hz := hnoP.2
    simp only [lawL, List.mem_cons, List.not_mem_nil, or_false, not_or] at hz
    exact ⟨Ne.symm hz.1, Ne.symm hz.2.1, Ne.symm hz.2.2.1, Ne.symm hz.2.2.2.1, Ne.symm hz.2.2.2.2.1, Ne.symm hz.2.2.2.2.2⟩
  k_dflt (refine' use_specN (red_take wy tw hk ux uy tp pok pv _ os9 zs rfl ho hol hWl hzl elo1 dA1 dB1 d1 d3 d2 hz6.1 hz6.2.1 hz6.2.2.1 paa hpt D1 hv39 hD1 [Value.bytes #[] tk1, Value.bytes #[] (tk1 + 1)]) X T F1.keep hng ?pre ?hd ?hu ?_; (case hd => omega); (case hu => omega); (case pre => exact ⟨hnH, isList_keep lpa (fun o e => ka _ _ hppa e), News.isList N1 (.head _), List.forall_mem_cons.mpr ⟨(N1 _ (.tail _ (.head _))).1, List.forall_mem_cons.mpr ⟨(N1 _ (.tail _ (.tail _ (.head _)))).1, List.forall_mem_cons.mpr ⟨(N1 _ (.tail _ (.tail _ (.tail _ (.head _))))).1, List.forall_mem_cons.mpr ⟨(N1 _ (.tail _ (.tail _ (.tail _ (.tail _ (.head _)))))).1, List.forall_mem_cons.mpr ⟨(N1 _ (.tail _ (.tail _ (.tail _ (.tail _ (.tail _ (.head _))))))).1, List.forall_mem_nil _⟩⟩⟩⟩⟩, rep_byts _ hpr, .lst hD1 (News.isList N1 (.head _)) (.cons (.byt _ (by simp [cutAt, KBw.bInts])) (.cons (.byt _ (by simp [cutAt, KBw.bInts])) .nil)), [], 0, hnH, .nil⟩))
  intro v' h' tk' kk JJ
  refine @by_no _ fun hNo9 => ?_
  obtain ⟨jf, jg, jv, nv, nn, jn, jr⟩ := JJ
  dsimp only at kk
  have F5 : Fr g L h' _ := ⟨F1.ns.at' fun o e => kk _ o (Ne.symm hnoP.1) e, fun b o e => kk b o (fun q => by rw [q, hng] at e; cases e) (F1.keep b o e), F1.above⟩
  have N5 : News g L h' [(L + 1 + 1 + 1 + 1 + 1, ow), (L + 1 + 1 + 1 + 1, ot), (L + 1 + 1 + 1, op), (L + 1 + 1, on), (L + 1, oa), (248, tabObj (PS5 c0 c1 c2 c3 c4 c5 ++ #[rawInt 317, rawInt 0, Value.ref c6]))] := fun p hp => by
    have z := hcl p hp
    have hne : p.1 ≠ tka := by
      simp only [List.mem_cons, List.not_mem_nil, or_false] at hp
      rcases hp with rfl | rfl | rfl | rfl | rfl | rfl
      · exact hz6.1
      · exact hz6.2.1
      · exact hz6.2.2.1
      · exact hz6.2.2.2.1
      · exact hz6.2.2.2.2.1
      · exact hz6.2.2.2.2.2
    exact ⟨kk _ _ hne z.1, z.2⟩
  rw [hpvl] at jv jr
  have jv2 := jv
  refine hNo9 ?_
  clear hNo9
  unfold heldD at jv2
  refine @by_no _ fun hNo9 => ?_
  obtain ⟨sta, pvs, rfl, ppi, lpi, rpi⟩ := jv2.list_inv
  obtain ⟨led5, hBN5⟩ := base_of F5 N5
  have N6 := hBN5.1
  simp only [List.cons_append, List.nil_append] at N6
  have onP : ∀ a items, h'.IsList a items → PP L a := fun a items l => list_PP F5 N5 d1 d2 d3 d4 d5 l
  have kz6 := fun a o (q : PP L a ∧ a ≠ tka) (e : s0.get? a = some o) => kk a o q.2 (ka a o q.1 e)
  clear N5 N1 F1
  refine hNo9 ?_
  clear hNo9
  k_steps
  rename Fr _ _ _ _ => F7
  rename News _ _ _ _ => N7
  have kz : ∀ a o, PP L a → h'.get? a = some o → (heapOfFr F7).get? a = some o := fun a o q e => hBN5.2.2.get e q.1 q.2 F7 N7 (fun p hp => by simp only [List.mem_cons, hp, or_true])
  refine h _ _ sta nv nn c6 ⟨ow, ot, op, on, oa, Fr.congr F7 lm_state, fun p hp => N7 p (List.mem_append_left led5 hp), d1, d2, d3, d4, d5⟩ ((jv.onL onP).kept fun a o q c e => kz a o q.2 e) (kz _ _ hnoP jn) ((jr.onL onP).kept fun a o q c e => kz a o q.2 e) (fun a o q c e => kz a o q.1 (kz6 a o q e))

theorem begin_L14 : True := by
  w_on
  w_top off
  k_with_none
  k_with "om" => (law_clear; first | with_reducible assumption | (law_purse 20000 => grind))
  k_with "guard" => skip
  trivial
set_option maxHeartbeats 4000000
theorem kw_L14_1 : True := by
  k_with_none
  k_with "om" => (law_clear; first | with_reducible assumption | (law_purse 20000 => grind))
  k_with "eval BinOp" => (k_here; (with_reducible show wpAny _ _ (eval (Expr.BinOp (Expr.Name _ _) _ (Expr.Constant (Const.int _) _ _) _) _) _ _ _); k_dflt (refine binNC (by k_asm) (by rfl) ?_ (by rfl) (by rfl) (by decide)); (try dsimp only))
  k_with "eval BinOp" => (k_here; (with_reducible show wpAny _ _ (eval (Expr.BinOp (Expr.Name _ _) _ (Expr.Name _ _) _) _) _ _ _); k_dflt (refine binNN (by k_asm) (by rfl) (by rfl) ?_ (by rfl) (by rfl) (by rfl) (by decide) (by decide)); (try dsimp only))
  k_with "isTrue Compare" => (k_here; (with_reducible show wpAny _ _ (isTrue (Expr.Compare (Expr.Name _ _) [_] [Expr.Constant (Const.int _) _ _] _) _ _) _ _ _); k_dflt (refine isNC (by k_asm) (by rfl) ?_ (by rfl) (by rfl) (by decide) (by with_unfolding_all rfl)); (try dsimp only))
  k_with "guard" => ((fail_if_success (with_reducible show Exists _)); (fail_if_success (with_reducible show wpAny _ _ (pyIter _) _ _ _)); (fail_if_success (with_reducible show wpAny _ _ (exec (Stmt.For _ _ _ _ _) _) _ _ _)); (fail_if_success (with_reducible show wpAny _ _ (exec (Stmt.While _ _ _ _) _) _ _ _)); (fail_if_success (with_reducible show wpAny _ _ (eval (Expr.ListComp _ _ _ _) _) _ _ _)); (fail_if_success (with_reducible show wpAny _ _ (exec (Stmt.Assign _ (Expr.ListComp _ _ _ _) _) _) _ _ _)); (fail_if_success (with_reducible show wpAny _ _ (call (Value.ref 206) _ _) _ _ _)); (fail_if_success (with_reducible show wpAny _ _ (call (Value.ref 213) _ _) _ _ _)); (fail_if_success (with_reducible show wpAny _ _ (call (Value.ref 47) _ _) _ _ _)); (fail_if_success (with_reducible show wpAny _ _ (call (Value.ref 234) _ _) _ _ _)); (fail_if_success (with_reducible show wpAny _ _ (call (Value.ref 227) _ _) _ _ _)); (fail_if_success (with_reducible show wpAny _ _ (call (Value.ref 241) _ _) _ _ _)); (fail_if_success (with_reducible show wpAny _ _ (call (Value.ref 246) _ _) _ _ _)); (fail_if_success (with_reducible show wpAny _ _ (compareOp CmpOp.NotEq (Value.ref _) (Value.ref _)) _ _ _)); (fail_if_success (with_reducible show ElEnd _ _ _ _ _ _ _ _ _ _ _ _ _)); (fail_if_success (with_reducible show CSrc _ _ _ _ _ _ _ _ _ _ _ _ _ _ _ _)))
  k_with "eval Name" => (k_here; (with_reducible show wpAny _ _ (eval (Expr.Name _ _) (envOfC _ _ _ _ _)) _ _ _); k_dflt (first | (refine name_BC (by k_asm) (by k_asm) (by k_asm) (by k_is) (by boot_by_name) (by decide) (by rfl) (by decide +kernel) (by decide) ?_) | (refine name_GC (by k_asm) (by k_asm) (by k_asm) (by k_is) (by rfl) (by decide +kernel) (by decide) ?_)))
  k_with "callWith ref" => (k_here; (with_reducible show wpAny _ _ (callWith _ (Value.ref _) _ _ _) _ _ _); k_dflt (refine callWith_K (by k_asm) (by k_is) ?_; k_whole))
  k_with "eval Lambda" => ((k_here; k_dflt (refine lam_nest (by k_asm) (by k_asm) (by k_asm) (by assumption) (by k_updF) (by (simp [TriplesOk, rawInt]; done)) (by (simp [codeAmong, rawInt]; done)) (by exact rfl) (by exact rfl) ?_); intro f' lo' c' oc' vs' t' ct' h' tk' elo' F' N' d1' d2' l1 l2; (try dsimp only at N'); (try k_lt l1); (try k_lt2 l2)); (try (revert f' lo' c' oc' vs' t' ct' h' tk' elo' F' N' d1' d2' l1 l2; intros)))
  k_with "call builtin:sum" => ((k_here; (with_reducible show wpAny _ _ (call (Value.builtin "sum") [Value.ref _]) _ _ _); k_dflt (refine sum_any (by k_asm) (by k_asm) (by rfl) (by is_list) (by assumption) ?_); intro h' tk' t' F' N'); (try (revert h' tk' t' F' N'; intros)))
  k_with "call type:list" => ((k_here; (with_reducible show wpAny _ _ (call (Value.type "list") [Value.bytes _ _]) _ _ _); k_dflt (refine list_bytes (by k_asm) (by k_asm) (by rfl) _ _ _ (by exact rfl) (by (rw [sizeLine_eq]; first | decide | exact Nat.le_of_ble_eq_true rfl)) ?_; k_whole); intro D' h' tk' vs' c' hLn' hI' F' N' l1; (try simp only [List.size_toArray, List.length_cons, List.length_nil] at hLn'); (try k_lt l1)); (try (revert D' h' tk' vs' c' hLn' hI' F' N' l1; intros)))
  k_with "binaryOp Add ref ref" => ((k_here; (with_reducible show wpAny _ _ (binaryOp _ (Value.ref _) (Value.ref _)) _ _ _); k_dflt (refine kmk_add_lit (by k_asm) (by k_asm) (by is_list) (by is_list) (by exact rfl) ?_ (by (simp only [sizeLine_eq, List.toList_toArray, List.length_cons, List.length_nil]; omega))); intro D' h' F' N' l1; (try k_lt l1); (try k_sweep); (try simp only [List.toList_toArray] at N')); (try (revert D' h' F' N' l1; intros)))
  k_with "call type:bytes" => ((k_here; (with_reducible show wpAny _ _ (call (Value.type "bytes") [Value.ref _]) _ _ _); k_dflt (refine KBa.make_K (by k_asm) (by k_asm) (by rfl) (by first | assumption | is_list) (by assumption) (by apply_assumption) (by (refine Nat.le_trans ?_ (by decide : 100 ≤ 16777216); apply_assumption)) ?_); intro h' t' k' F' N' hr'); (try (revert h' t' k' F' N' hr'; intros)))
  k_with "subscriptTail" => (k_here; (with_reducible show wpAny _ _ (subscriptTail _ _ (Value.ref _) (Value.int (-1) _)) _ _ _); (refine kde_neg (by is_list) (by decide) (by decide) (seqIndex_l1 _ _) (get_l1 _ _) ?_))
  k_with "binaryOp Mult ref int" => ((k_here; (with_reducible show wpAny _ _ (binaryOp Operator.Mult (Value.ref _) (Value.int _ _)) _ _ _); k_dflt (refine KMa.mul (vs := [Value.ref _]) (by k_asm) (by k_asm) (by exact News.isList (by k_asm) (.head _)) (by decide) (by decide) (by exact (by decide : 1 * 5 ≤ 256)) (by exact rfl) ?_); intro D' h' F' N' l1; (try k_lt l1); (try k_sweep)); (try (revert D' h' F' N' l1; intros)))
  trivial
theorem held_depth (k : Int) (W os : List Int) (c : Nat) : (heldD k W os c).depth ≤ 1 := by
  unfold heldD D.depth
  exact Nat.succ_le_succ (depths_le fun d hd => by
    simp only [List.mem_cons, List.not_mem_nil, or_false] at hd
    rcases hd with rfl | rfl <;> exact Nat.zero_le _)
theorem st_check3 {s0 : Heap} {toks : Nat} {Q : Flow → Shared → Prop}
    (X : (hd.heap_1 w.params).In g) (T : Top p loose mean mg mb g) (hdp : dp + 40 < recursionLimit) (hun : un + 8 * 40 < cLine) (h48 : @LT.lt Nat _ 248 L) (sa na pa fra lea ga aa noa pia oca ona ena paa dua : Addr) (to fi : Value) (av zv : Option Value) (ps : Array Value) (ux uy : UInt8) (tp : Tok) (bw : Array UInt8) (tb : Tok) (wy : Int) (tw : Tok) (tka sta : Addr) (k : Int) (W o9 zs : List Int) (hpos : 0 < zs.length) (dv tv : List Value) (lda : s0.IsList dua dv.toArray) (lta : s0.IsList tka tv.toArray)
    (hdr : Reps (PP L) s0 dv ((List.range zs.length).map (dueD k W o9 zs))) (htr : Reps (PP L) s0 tv ((List.range zs.length).map (dueD k W o9 zs))) (hst : Rep (PP L) s0 (.ref sta) (heldD k W o9 (cutAt W.length zs zs.length)))
    (S : LawAt g L s0 (lawM (some (.ref sa)) (some (.ref na)) (some (.ref pa)) (some to) (some (.ref fra)) (some fi) (some (.ref lea)) (some (.ref ga)) (some (.ref pia)) (some (.ref oca)) (some (.bytes bw tb)) (some (.ref ona)) (some (.ref ena)) (some (.ref paa)) (some (.ref dua)) av zv (some (.ref sta))) (some (.ref aa)) (some (.ref noa)) (some (.bytes #[ux, uy] tp)) (some (.ref tka)) (some (.int wy tw)) ps)
    (h : ∀ h' tk', LawAt g L h' (lawM (some (.ref sa)) (some (.ref na)) (some (.ref pa)) (some to) (some (.ref fra)) (some fi) (some (.ref lea)) (some (.ref ga)) (some (.ref pia)) (some (.ref oca)) (some (.bytes bw tb)) (some (.ref ona)) (some (.ref ena)) (some (.ref paa)) (some (.ref dua)) av zv (some (.ref sta))) (some (.ref aa)) (some (.ref noa)) (some (.bytes #[ux, uy] tp)) (some (.ref tka)) (some (.int wy tw)) ps → Q .next ⟨h', gens, drawn, tk', os⟩) :
    wpAny (model PySem.Challenge.rw_qh0094_01.row.prog w) (Ar dp un fr gd) (exec (lawBody.getD 25 (.Pass default)) (lawEnv L fa)) Q E ⟨s0, gens, drawn, toks, os⟩ := by
  show wpAny _ _ (exec (Stmt.If _ _ _ _) (envOfC _ lawScope _ _ _)) _ _ _
  have hpd := S.pp _ _ lda
  have hpt := S.pp _ _ lta
  conv in lawScope => whnf
  refine @by_no _ fun hNo9 => ?_
  obtain ⟨ow, ot, op, on, oa, F, N, d1, d2, d3, d4, d5⟩ := S
  refine hNo9 ?_
  clear hNo9
  revert X; k_fill; intro X
  refine @by_no _ fun hNo9 => ?_
  obtain ⟨m, hm⟩ : ∃ m, zs.length = m + 1 := ⟨zs.length - 1, by omega⟩
  have hdr2 := hdr
  rw [hm, List.range_succ, List.map_append] at hdr2
  obtain ⟨us, ws, rfl, rus, rws⟩ := hdr2.append_inv
  obtain ⟨vl, _, rfl, rvl, rws⟩ := rws.cons_inv
  obtain rfl := rws.nil_inv
  have rvl0 : Rep (PP L) s0 vl (heldD k W o9 (cutAt W.length zs (m + 1))) := rvl
  have rvl1 := rvl0
  refine hNo9 ?_
  clear hNo9
  unfold heldD at rvl1
  refine @by_no _ fun hNo9 => ?_
  obtain ⟨la, lvs, rfl, _, _⟩ := rvl1.list_inv
  have husl : us.length = m := by rw [rus.length]; simp
  obtain ⟨led, hBN⟩ := base_of F N
  have own := hBN.2.1
  have N := hBN.1
  have B := hBN.2.2
  have n0 : dua ≠ L := hpd.1
  have n1 : dua ∉ [(L + 1 + 1 + 1 + 1 + 1, ow), (L + 1 + 1 + 1 + 1, ot), (L + 1 + 1 + 1, op), (L + 1 + 1, on), (L + 1, oa), (248, tabObj ps)].map (·.1) := hpd.2
  simp only [List.cons_append, List.nil_append] at N
  refine hNo9 ?_
  clear hNo9
  k_steps
  refine ne_rep (P := PP L) (P' := PP L) (.lst hpt lta htr) (.lst hpd lda hdr) (depths_le fun d hd => ?_) (by show un + 20 < _; omega) ?_
  · obtain ⟨j, _, rfl⟩ := List.mem_map.mp hd
    exact Nat.le_trans (held_depth _ _ _ _) (by decide)
  k_steps
  rw [hm] at hst
  have dl := held_depth k W o9 (cutAt W.length zs (m + 1))
  unfold heldD at hst rvl0 dl
  unfold D.depth at dl
  refine ne_rep hst rvl0 (by omega) (by show un + 20 < _; omega) ?_
  k_steps
  rename Fr _ _ _ _ => F7
  rename News _ _ _ _ => N7
  exact h _ _ ⟨ow, ot, op, on, oa, F7, fun p hp => N7 p (List.mem_append_left led hp), d1, d2, d3, d4, d5⟩

theorem begin_L15 : True := by
  w_on
  w_top off
  k_with_none
  k_with "om" => (law_clear; first | with_reducible assumption | (law_purse 20000 => grind))
  k_with "guard" => skip
  trivial
set_option maxHeartbeats 4000000
theorem kw_L15_1 : True := by
  k_with_none
  k_with "om" => (law_clear; first | with_reducible assumption | (law_purse 20000 => grind))
  k_with "eval BinOp" => (k_here; (with_reducible show wpAny _ _ (eval (Expr.BinOp (Expr.Name _ _) _ (Expr.Constant (Const.int _) _ _) _) _) _ _ _); k_dflt (refine binNC (by k_asm) (by rfl) ?_ (by rfl) (by rfl) (by decide)); (try dsimp only))
  k_with "eval BinOp" => (k_here; (with_reducible show wpAny _ _ (eval (Expr.BinOp (Expr.Name _ _) _ (Expr.Name _ _) _) _) _ _ _); k_dflt (refine binNN (by k_asm) (by rfl) (by rfl) ?_ (by rfl) (by rfl) (by rfl) (by decide) (by decide)); (try dsimp only))
  k_with "isTrue Compare" => (k_here; (with_reducible show wpAny _ _ (isTrue (Expr.Compare (Expr.Name _ _) [_] [Expr.Constant (Const.int _) _ _] _) _ _) _ _ _); k_dflt (refine isNC (by k_asm) (by rfl) ?_ (by rfl) (by rfl) (by decide) (by with_unfolding_all rfl)); (try dsimp only))
  k_with "guard" => ((fail_if_success (with_reducible show Exists _)); (fail_if_success (with_reducible show wpAny _ _ (pyIter _) _ _ _)); (fail_if_success (with_reducible show wpAny _ _ (exec (Stmt.For _ _ _ _ _) _) _ _ _)); (fail_if_success (with_reducible show wpAny _ _ (exec (Stmt.While _ _ _ _) _) _ _ _)); (fail_if_success (with_reducible show wpAny _ _ (eval (Expr.ListComp _ _ _ _) _) _ _ _)); (fail_if_success (with_reducible show wpAny _ _ (exec (Stmt.Assign _ (Expr.ListComp _ _ _ _) _) _) _ _ _)); (fail_if_success (with_reducible show wpAny _ _ (call (Value.ref 206) _ _) _ _ _)); (fail_if_success (with_reducible show wpAny _ _ (call (Value.ref 213) _ _) _ _ _)); (fail_if_success (with_reducible show wpAny _ _ (call (Value.ref 47) _ _) _ _ _)); (fail_if_success (with_reducible show wpAny _ _ (call (Value.ref 234) _ _) _ _ _)); (fail_if_success (with_reducible show wpAny _ _ (call (Value.ref 227) _ _) _ _ _)); (fail_if_success (with_reducible show wpAny _ _ (call (Value.ref 241) _ _) _ _ _)); (fail_if_success (with_reducible show wpAny _ _ (call (Value.ref 246) _ _) _ _ _)); (fail_if_success (with_reducible show wpAny _ _ (compareOp CmpOp.NotEq (Value.ref _) (Value.ref _)) _ _ _)); (fail_if_success (with_reducible show ElEnd _ _ _ _ _ _ _ _ _ _ _ _ _)); (fail_if_success (with_reducible show CSrc _ _ _ _ _ _ _ _ _ _ _ _ _ _ _ _)))
  k_with "eval Name" => (k_here; (with_reducible show wpAny _ _ (eval (Expr.Name _ _) (envOfC _ _ _ _ _)) _ _ _); k_dflt (first | (refine name_BC (by k_asm) (by k_asm) (by k_asm) (by k_is) (by boot_by_name) (by decide) (by rfl) (by decide +kernel) (by decide) ?_) | (refine name_GC (by k_asm) (by k_asm) (by k_asm) (by k_is) (by rfl) (by decide +kernel) (by decide) ?_)))
  k_with "callWith ref" => (k_here; (with_reducible show wpAny _ _ (callWith _ (Value.ref _) _ _ _) _ _ _); k_dflt (refine callWith_K (by k_asm) (by k_is) ?_; k_whole))
  k_with "eval Lambda" => ((k_here; k_dflt (refine lam_nest (by k_asm) (by k_asm) (by k_asm) (by assumption) (by k_updF) (by (simp [TriplesOk, rawInt]; done)) (by (simp [codeAmong, rawInt]; done)) (by exact rfl) (by exact rfl) ?_); intro f' lo' c' oc' vs' t' ct' h' tk' elo' F' N' d1' d2' l1 l2; (try dsimp only at N'); (try k_lt l1); (try k_lt2 l2)); (try (revert f' lo' c' oc' vs' t' ct' h' tk' elo' F' N' d1' d2' l1 l2; intros)))
  k_with "call builtin:sum" => ((k_here; (with_reducible show wpAny _ _ (call (Value.builtin "sum") [Value.ref _]) _ _ _); k_dflt (refine sum_any (by k_asm) (by k_asm) (by rfl) (by is_list) (by assumption) ?_); intro h' tk' t' F' N'); (try (revert h' tk' t' F' N'; intros)))
  k_with "call type:list" => ((k_here; (with_reducible show wpAny _ _ (call (Value.type "list") [Value.bytes _ _]) _ _ _); k_dflt (refine list_bytes (by k_asm) (by k_asm) (by rfl) _ _ _ (by exact rfl) (by (rw [sizeLine_eq]; first | decide | exact Nat.le_of_ble_eq_true rfl)) ?_; k_whole); intro D' h' tk' vs' c' hLn' hI' F' N' l1; (try simp only [List.size_toArray, List.length_cons, List.length_nil] at hLn'); (try k_lt l1)); (try (revert D' h' tk' vs' c' hLn' hI' F' N' l1; intros)))
  k_with "binaryOp Add ref ref" => ((k_here; (with_reducible show wpAny _ _ (binaryOp _ (Value.ref _) (Value.ref _)) _ _ _); k_dflt (refine kmk_add_lit (by k_asm) (by k_asm) (by is_list) (by is_list) (by exact rfl) ?_ (by (simp only [sizeLine_eq, List.toList_toArray, List.length_cons, List.length_nil]; omega))); intro D' h' F' N' l1; (try k_lt l1); (try k_sweep); (try simp only [List.toList_toArray] at N')); (try (revert D' h' F' N' l1; intros)))
  k_with "call type:bytes" => ((k_here; (with_reducible show wpAny _ _ (call (Value.type "bytes") [Value.ref _]) _ _ _); k_dflt (refine KBa.make_K (by k_asm) (by k_asm) (by rfl) (by first | assumption | is_list) (by assumption) (by apply_assumption) (by (refine Nat.le_trans ?_ (by decide : 100 ≤ 16777216); apply_assumption)) ?_); intro h' t' k' F' N' hr'); (try (revert h' t' k' F' N' hr'; intros)))
  k_with "subscriptTail" => (k_here; (with_reducible show wpAny _ _ (subscriptTail _ _ (Value.ref _) (Value.int (-1) _)) _ _ _); (refine kde_neg (by is_list) (by decide) (by decide) (seqIndex_l1 _ _) (get_l1 _ _) ?_))
  k_with "binaryOp Mult ref int" => ((k_here; (with_reducible show wpAny _ _ (binaryOp Operator.Mult (Value.ref _) (Value.int _ _)) _ _ _); k_dflt (refine KMa.mul (vs := [Value.ref _]) (by k_asm) (by k_asm) (by exact News.isList (by k_asm) (.head _)) (by decide) (by decide) (by exact (by decide : 1 * 5 ≤ 256)) (by exact rfl) ?_); intro D' h' F' N' l1; (try k_lt l1); (try k_sweep)); (try (revert D' h' F' N' l1; intros)))
  trivial
theorem st_try {s0 : Heap} {toks : Nat} {Q : Flow → Shared → Prop}
    (X : (hd.heap_1 w.params).In g) (T : Top p loose mean mg mb g) (hdp : dp + 40 < recursionLimit) (hun : un + 8 * 40 < cLine) (h48 : @LT.lt Nat _ 248 L) (C : CodeHd g 250 248) (sa na pa fra lea ga aa noa pia oca ona ena paa dua : Addr) (to fi : Value) (av zv : Option Value) (ux uy : UInt8) (tp : Tok) (bw : Array UInt8) (tb : Tok) (wy : Int) (tw : Tok) (c0 c1 c2 c3 c4 c5 c6 tka : Addr) (sta : Value)
    (S : LawAt g L s0 (lawM (some (.ref sa)) (some (.ref na)) (some (.ref pa)) (some to) (some (.ref fra)) (some fi) (some (.ref lea)) (some (.ref ga)) (some (.ref pia)) (some (.ref oca)) (some (.bytes bw tb)) (some (.ref ona)) (some (.ref ena)) (some (.ref paa)) (some (.ref dua)) av zv (some sta)) (some (.ref aa)) (some (.ref noa)) (some (.bytes #[ux, uy] tp)) (some (.ref tka)) (some (.int wy tw)) (PS5 c0 c1 c2 c3 c4 c5 ++ #[rawInt 317, rawInt 0, .ref c6]))
    (h : ∀ h' tk' m' news', Fr g L h' m' → News g L h' news' → (∃ ps, h'.get? 248 = some (tabObj ps)) → Q (.ret (.bool true)) ⟨h', gens, drawn, tk', os⟩) :
    wpAny (model PySem.Challenge.rw_qh0094_01.row.prog w) (Ar dp un (some [lawEnv L fa]) gd) (exec (lawBody.getD 26 (.Pass default)) (lawEnv L fa)) Q E ⟨s0, gens, drawn, toks, os⟩ := by
  show wpAny _ _ (exec (Stmt.Try _ _ _ _ _) (envOfC _ lawScope _ _ _)) _ _ _
  obtain ⟨lv, hlv⟩ : ∃ lv : Env, lv = lawEnv L fa := ⟨_, rfl⟩
  have hlf : lv.frame = some L := by rw [hlv]; rfl
  have hlk : lv.scope.kind ≠ .module := by rw [hlv]; intro q; cases q
  rw [← hlv]
  conv in lawScope => whnf
  refine @by_no _ fun hNo9 => ?_
  obtain ⟨ow, ot, op, on, oa, F, N, d1, d2, d3, d4, d5⟩ := S
  refine hNo9 ?_
  clear hNo9
  revert X; k_fill; intro X
  obtain ⟨led, hBN⟩ := base_of F N
  have own := hBN.2.1
  have N := hBN.1
  have B := hBN.2.2
  simp only [List.cons_append, List.nil_append] at N
  refine wpAny_Try_except ?_
  k_steps
  refine @by_no _ fun hNo9 => ?_
  rename_i fl lo1 c7 oc1 vs1 t1 ct1 hh1 tk1 elo1 dA1 dB1 lA1 lB1 D1 h1 F1 N1 lD1
  obtain ⟨oL, es, ep, gL, dL, rL⟩ := id F1.ns
  have hgL : g.get? L = none := Heap.get?_none_of_le F1.above
  obtain ⟨g', hg'⟩ : ∃ g', g' = hideAll h1 [L] := ⟨_, rfl⟩
  have gg : g.StaysIn g' := fun b o q => by rw [hg']; exact hideAll_get [L] (F1.keep b o q) (fun hm => by rw [List.mem_singleton.mp hm, hgL] at q; cases q)
  have gh : g'.StaysIn h1 := fun b o q => by rw [hg'] at q; exact of_hideAll [L] q
  have hgL' : g'.get? L = none := by rw [hg']; exact hideAll_none [L] (.head _)
  have h248 : ∃ ps, g'.get? 248 = some (tabObj ps) := by
    have z := N1 (248, _) (.tail _ (.tail _ (.tail _ (.tail _ (.tail _ (.tail _ (.tail _ (.tail _ (.head _)))))))))
    exact ⟨_, by rw [hg']; exact hideAll_get [L] z.1 (fun hm => z.2.1 (List.mem_singleton.mp hm))⟩
  refine hNo9 ?_
  clear hNo9
  refine' red_raise (X.keeps gg) (T.keeps gg) ?rst ?rsz ?rfu fl D1 ?rls (by omega) (by omega) ?_
  case rst => exact gh
  case rsz => rw [hg', hideAll_size]; exact Nat.le_refl _
  case rfu => exact ⟨hlk, ⟨L, oL, hlf, hgL', gL, fun vs q => by rw [dL] at q; cases q⟩, trivial⟩
  case rls => exact News.isList N1 (.head _)
  intro e2 t2 h2 tk2 Z U
  subst hlv
  refine wpAny_looks_onW (base := g') rfl rfl Z fun h5 H5 U5 => ?_
  refine wpAny_landsW H5 fun h6 Z6 U6 => ?_
  have F6 : Fr g L h6 _ := ⟨((U.trans U5).trans U6).ns F1.ns, fun b o q => Z6.1 b o (gg b o q), F1.above⟩
  refine wpAny_handleBy_builtin (X := "TypeError") (T := "TypeError") (b := true) F.isExc_TypeError F.notTuple_TypeError (by rw [isSubtype_type]; kernel_rfl) ?_
  refine name_BC F6 X T (by k_is) PyProof.Rows.Boot.«TypeError» (by decide +kernel) rfl (by decide +kernel) (by decide) ?_
  obtain ⟨ob, hob, hobc⟩ := Z6.there
  refine ⟨rfl, ⟨ob, hob, hobc⟩, ?_⟩
  rw [if_pos rfl]
  refine lands_againW Z6 fun h7 Z7 U7 => ?_
  have F7 : Fr g L h7 _ := ⟨U7.ns F6.ns, fun b o q => Z7.1 b o (gg b o q), F1.above⟩
  k_steps
  obtain ⟨ps9, e9⟩ := h248
  exact h _ _ _ [] F7 News.nil ⟨ps9, Z7.1 _ _ e9⟩

theorem begin_L16 : True := by
  w_on
  w_top off
  k_with_none
  k_with "om" => (law_clear; first | with_reducible assumption | (law_purse 20000 => grind))
  k_with "guard" => skip
  trivial
set_option maxHeartbeats 4000000
theorem kw_L16_1 : True := by
  k_with_none
  k_with "om" => (law_clear; first | with_reducible assumption | (law_purse 20000 => grind))
  k_with "eval BinOp" => (k_here; (with_reducible show wpAny _ _ (eval (Expr.BinOp (Expr.Name _ _) _ (Expr.Constant (Const.int _) _ _) _) _) _ _ _); k_dflt (refine binNC (by k_asm) (by rfl) ?_ (by rfl) (by rfl) (by decide)); (try dsimp only))
  k_with "eval BinOp" => (k_here; (with_reducible show wpAny _ _ (eval (Expr.BinOp (Expr.Name _ _) _ (Expr.Name _ _) _) _) _ _ _); k_dflt (refine binNN (by k_asm) (by rfl) (by rfl) ?_ (by rfl) (by rfl) (by rfl) (by decide) (by decide)); (try dsimp only))
  k_with "isTrue Compare" => (k_here; (with_reducible show wpAny _ _ (isTrue (Expr.Compare (Expr.Name _ _) [_] [Expr.Constant (Const.int _) _ _] _) _ _) _ _ _); k_dflt (refine isNC (by k_asm) (by rfl) ?_ (by rfl) (by rfl) (by decide) (by with_unfolding_all rfl)); (try dsimp only))
  k_with "guard" => ((fail_if_success (with_reducible show Exists _)); (fail_if_success (with_reducible show wpAny _ _ (pyIter _) _ _ _)); (fail_if_success (with_reducible show wpAny _ _ (exec (Stmt.For _ _ _ _ _) _) _ _ _)); (fail_if_success (with_reducible show wpAny _ _ (exec (Stmt.While _ _ _ _) _) _ _ _)); (fail_if_success (with_reducible show wpAny _ _ (eval (Expr.ListComp _ _ _ _) _) _ _ _)); (fail_if_success (with_reducible show wpAny _ _ (exec (Stmt.Assign _ (Expr.ListComp _ _ _ _) _) _) _ _ _)); (fail_if_success (with_reducible show wpAny _ _ (call (Value.ref 206) _ _) _ _ _)); (fail_if_success (with_reducible show wpAny _ _ (call (Value.ref 213) _ _) _ _ _)); (fail_if_success (with_reducible show wpAny _ _ (call (Value.ref 47) _ _) _ _ _)); (fail_if_success (with_reducible show wpAny _ _ (call (Value.ref 234) _ _) _ _ _)); (fail_if_success (with_reducible show wpAny _ _ (call (Value.ref 227) _ _) _ _ _)); (fail_if_success (with_reducible show wpAny _ _ (call (Value.ref 241) _ _) _ _ _)); (fail_if_success (with_reducible show wpAny _ _ (call (Value.ref 246) _ _) _ _ _)); (fail_if_success (with_reducible show wpAny _ _ (compareOp CmpOp.NotEq (Value.ref _) (Value.ref _)) _ _ _)); (fail_if_success (with_reducible show ElEnd _ _ _ _ _ _ _ _ _ _ _ _ _)); (fail_if_success (with_reducible show CSrc _ _ _ _ _ _ _ _ _ _ _ _ _ _ _ _)))
  k_with "eval Name" => (k_here; (with_reducible show wpAny _ _ (eval (Expr.Name _ _) (envOfC _ _ _ _ _)) _ _ _); k_dflt (first | (refine name_BC (by k_asm) (by k_asm) (by k_asm) (by k_is) (by boot_by_name) (by decide) (by rfl) (by decide +kernel) (by decide) ?_) | (refine name_GC (by k_asm) (by k_asm) (by k_asm) (by k_is) (by rfl) (by decide +kernel) (by decide) ?_)))
  k_with "callWith ref" => (k_here; (with_reducible show wpAny _ _ (callWith _ (Value.ref _) _ _ _) _ _ _); k_dflt (refine callWith_K (by k_asm) (by k_is) ?_; k_whole))
  k_with "eval Lambda" => ((k_here; k_dflt (refine lam_nest (by k_asm) (by k_asm) (by k_asm) (by assumption) (by k_updF) (by (simp [TriplesOk, rawInt]; done)) (by (simp [codeAmong, rawInt]; done)) (by exact rfl) (by exact rfl) ?_); intro f' lo' c' oc' vs' t' ct' h' tk' elo' F' N' d1' d2' l1 l2; (try dsimp only at N'); (try k_lt l1); (try k_lt2 l2)); (try (revert f' lo' c' oc' vs' t' ct' h' tk' elo' F' N' d1' d2' l1 l2; intros)))
  k_with "call builtin:sum" => ((k_here; (with_reducible show wpAny _ _ (call (Value.builtin "sum") [Value.ref _]) _ _ _); k_dflt (refine sum_any (by k_asm) (by k_asm) (by rfl) (by is_list) (by assumption) ?_); intro h' tk' t' F' N'); (try (revert h' tk' t' F' N'; intros)))
  k_with "call type:list" => ((k_here; (with_reducible show wpAny _ _ (call (Value.type "list") [Value.bytes _ _]) _ _ _); k_dflt (refine list_bytes (by k_asm) (by k_asm) (by rfl) _ _ _ (by exact rfl) (by (rw [sizeLine_eq]; first | decide | exact Nat.le_of_ble_eq_true rfl)) ?_; k_whole); intro D' h' tk' vs' c' hLn' hI' F' N' l1; (try simp only [List.size_toArray, List.length_cons, List.length_nil] at hLn'); (try k_lt l1)); (try (revert D' h' tk' vs' c' hLn' hI' F' N' l1; intros)))
  k_with "binaryOp Add ref ref" => ((k_here; (with_reducible show wpAny _ _ (binaryOp _ (Value.ref _) (Value.ref _)) _ _ _); k_dflt (refine kmk_add_lit (by k_asm) (by k_asm) (by is_list) (by is_list) (by exact rfl) ?_ (by (simp only [sizeLine_eq, List.toList_toArray, List.length_cons, List.length_nil]; omega))); intro D' h' F' N' l1; (try k_lt l1); (try k_sweep); (try simp only [List.toList_toArray] at N')); (try (revert D' h' F' N' l1; intros)))
  k_with "call type:bytes" => ((k_here; (with_reducible show wpAny _ _ (call (Value.type "bytes") [Value.ref _]) _ _ _); k_dflt (refine KBa.make_K (by k_asm) (by k_asm) (by rfl) (by first | assumption | is_list) (by assumption) (by apply_assumption) (by (refine Nat.le_trans ?_ (by decide : 100 ≤ 16777216); apply_assumption)) ?_); intro h' t' k' F' N' hr'); (try (revert h' t' k' F' N' hr'; intros)))
  k_with "subscriptTail" => (k_here; (with_reducible show wpAny _ _ (subscriptTail _ _ (Value.ref _) (Value.int (-1) _)) _ _ _); (refine kde_neg (by is_list) (by decide) (by decide) (seqIndex_l1 _ _) (get_l1 _ _) ?_))
  k_with "binaryOp Mult ref int" => ((k_here; (with_reducible show wpAny _ _ (binaryOp Operator.Mult (Value.ref _) (Value.int _ _)) _ _ _); k_dflt (refine KMa.mul (vs := [Value.ref _]) (by k_asm) (by k_asm) (by exact News.isList (by k_asm) (.head _)) (by decide) (by decide) (by exact (by decide : 1 * 5 ≤ 256)) (by exact rfl) ?_); intro D' h' F' N' l1; (try k_lt l1); (try k_sweep)); (try (revert D' h' F' N' l1; intros)))
  trivial
theorem st_free2 {s0 : Heap} {toks : Nat} {Q : Flow → Shared → Prop}
    (X : (hd.heap_1 w.params).In g) (T : Top p loose mean mg mb g) (hdp : dp + 40 < recursionLimit) (hun : un + 8 * 40 < cLine) (h48 : @LT.lt Nat _ 248 L) (sa na pa : Addr) (to : Value)
    (S : LawAt g L s0 (lawM (some (.ref sa)) (some (.ref na)) (some (.ref pa)) (some (to)) none none none none none none none none none none none none none none) none none none none none #[])
    (h : ∀ h' tk' fra fv, LawAt g L h' (lawM (some (.ref sa)) (some (.ref na)) (some (.ref pa)) (some (to)) (some (.ref fra)) none none none none none none none none none none none none none) none none none none none #[] → h'.get? fra = some (W.listOf (List.toArray fv) 0) → IntsAre fv FREE → g.get? fra = none → s0.get? fra = none → Kept (PP L) s0 h' → Q .next ⟨h', gens, drawn, tk', os⟩) :
    wpAny (model PySem.Challenge.rw_qh0094_01.row.prog w) (Ar dp un fr gd) (exec (lawBody.getD 3 (.Pass default)) (lawEnv L fa)) Q E ⟨s0, gens, drawn, toks, os⟩ := by
  show wpAny _ _ (exec (Stmt.Assign _ _ _) (envOfC _ lawScope _ _ _)) _ _ _
  conv in lawScope => whnf
  refine @by_no _ fun hNo9 => ?_
  obtain ⟨ow, ot, op, on, oa, F, N, d1, d2, d3, d4, d5⟩ := S
  refine hNo9 ?_
  clear hNo9
  revert X; k_fill; intro X
  obtain ⟨led, hBN⟩ := base_of F N
  have own := hBN.2.1
  have N := hBN.1
  simp only [List.cons_append, List.nil_append] at N
  k_steps
  rename Fr _ _ _ _ => F1
  rename News _ _ _ _ => N1
  have hA := (by assumption : _ ∧ _ ∧ _ ∧ _ ∧ _ ∧ _ ∧ AllLt _ led)
  have z := N1 _ (.head _)
  refine h _ _ _ _ ⟨_, _, _, _, _, Fr.congr F1 lm_free, fun p hp => N1 p ?n, d1, d2, d3, d4, d5⟩ (N1 _ (.head _)).1 (by unfold FREE; exact .cons _ _ (.cons _ _ (.cons _ _ (.cons _ _ (.cons _ _ (.cons _ _ (.cons _ _ (.cons _ _ (.cons _ _ (.cons _ _ .nil)))))))))) z.2.2 (fresh_led hBN.2.2 z.2.2 z.2.1 ?nl hA.2.2.2.2.2.2) (fun a o q _ e => hBN.2.2.get e q.1 q.2 F1 N1 ?kb)
  case n => exact .tail _ (List.mem_append_left led hp)
  case nl =>
    simp only [List.map_cons, List.map_nil, List.mem_cons, List.not_mem_nil, or_false, not_or]
    exact ⟨Nat.ne_of_gt hA.1, Nat.ne_of_gt hA.2.1, Nat.ne_of_gt hA.2.2.1, Nat.ne_of_gt hA.2.2.2.1, Nat.ne_of_gt hA.2.2.2.2.1, Nat.ne_of_gt hA.2.2.2.2.2.1⟩
  case kb => intro p hp; simp only [List.mem_cons, hp, or_true]

theorem begin_F0 : True := by
  w_on
  w_top off
  k_with_none
  k_with "om" => (law_clear; first | with_reducible assumption | (law_purse 20000 => grind))
  k_with "guard" => skip
  trivial
set_option maxHeartbeats 2000000
/-- the octets of rows -/
noncomputable def conc (l : List Rw) : List Int := l.flatMap (·.2)
theorem conc_cons (a : Rw) (l : List Rw) : conc (a :: l) = a.2 ++ conc l := by unfold conc; rw [List.flatMap_cons]
theorem conc_app (a b : List Rw) : conc (a ++ b) = conc a ++ conc b := by unfold conc; rw [List.flatMap_append]
theorem conc_one (a : Rw) : conc [a] = a.2 := by simp [conc]
theorem fold_fL : ∀ (l : List Rw) (a : Rw), l.foldl fL a = (a.1, a.2 ++ conc l)
  | [], a => by simp [conc]
  | q :: l, a => by rw [List.foldl_cons, fold_fL l, conc_cons, List.append_assoc]
theorem conc_oct {l : List Rw} (h : ∀ q ∈ l, K4 q.1 ∧ Oct q.2) : Oct (conc l) := fun k hk => by
  obtain ⟨q, hq, hm⟩ := List.mem_flatMap.mp hk
  exact (h q hq).2 k hm
theorem conc_mem {l : List Rw} {q : Rw} (h : q ∈ l) : q.2.length ≤ (conc l).length := by
  obtain ⟨a, b, rfl⟩ := List.append_of_mem h
  rw [conc_app, conc_cons, List.length_append, List.length_append]; omega
theorem rw_all {l : List Rw} (h : ∀ q ∈ l, K4 q.1 ∧ Oct q.2) (hl : (conc l).length ≤ 100) : ∀ q ∈ l, RwOk q := fun q hq => ⟨(h q hq).1, (h q hq).2, Nat.le_trans (conc_mem hq) hl⟩
theorem rw_pre {l t : List Rw} {a : Rw} (h : ∀ q ∈ l, K4 q.1 ∧ Oct q.2) (hl : (conc l).length ≤ 100) (e : l = a :: t) (i : Nat) : RwOk ((t.take i).foldl fL a) := by
  subst e
  rw [fold_fL]
  have e2 : conc (a :: t) = a.2 ++ (conc (t.take i) ++ conc (t.drop i)) := by rw [conc_cons, ← conc_app, List.take_append_drop]
  refine ⟨(h a (.head _)).1, (h a (.head _)).2.append (conc_oct fun q hq => h q (.tail _ (List.mem_of_mem_take hq))), ?_⟩
  rw [e2] at hl
  simp only [List.length_append] at hl ⊢
  omega
theorem fold_fR : ∀ (l : List Rw) (a : Rw), ∃ q ∈ a :: l, l.foldl fR a = (q.1, conc (a :: l).reverse) ∧ (a :: l).reverse.head? = some q
  | [], a => ⟨a, .head _, by simp [conc], rfl⟩
  | q :: l, a => by
    obtain ⟨z, hz, e, e2⟩ := fold_fR l (fR a q)
    rw [List.foldl_cons, e]
    have ec : conc (fR a q :: l).reverse = conc (a :: q :: l).reverse := by
      simp only [List.reverse_cons, conc_app, conc_one, List.append_assoc]
    rw [ec]
    rcases List.eq_nil_or_concat l with rfl | ⟨m, y, rfl⟩
    · simp only [List.reverse_cons, List.reverse_nil, List.nil_append, List.head?_cons, Option.some.injEq] at e2
      subst e2
      exact ⟨q, .tail _ (.head _), rfl, by simp⟩
    · have hy : z = y := by simpa using e2.symm
      subst hy
      exact ⟨z, by simp, rfl, by simp⟩
theorem rw_suf {l zt : List Rw} {z : Rw} (h : ∀ q ∈ l, K4 q.1 ∧ Oct q.2) (hl : (conc l).length ≤ 100) (e : l.reverse = z :: zt) (i : Nat) : RwOk ((zt.take i).foldl fR z) := by
  obtain ⟨q, hq, e1, _⟩ := fold_fR (zt.take i) z
  have sub : ∀ p ∈ z :: zt.take i, p ∈ l := fun p hp => by
    have : p ∈ z :: zt := by
      rcases List.mem_cons.mp hp with rfl | hp
      · exact .head _
      · exact .tail _ (List.mem_of_mem_take hp)
    rw [← e] at this
    exact List.mem_reverse.mp this
  have el : l = (zt.drop i).reverse ++ (z :: zt.take i).reverse := by
    rw [← List.reverse_append, List.cons_append, List.take_append_drop, ← e, List.reverse_reverse]
  rw [e1]
  refine ⟨(h q (sub q hq)).1, conc_oct fun p hp => h p (sub p (List.mem_reverse.mp hp)), ?_⟩
  rw [el, conc_app, List.length_append] at hl
  show (conc (z :: zt.take i).reverse).length ≤ 100
  omega
theorem fold_suf {l zt : List Rw} {z : Rw} {q : Rw} (e : l.reverse = z :: zt) (hq : l.head? = some q) : zt.foldl fR z = (q.1, conc l) := by
  refine @by_no _ fun hNo9 => ?_
  obtain ⟨y, _, e1, e2⟩ := fold_fR zt z
  rw [← e, List.reverse_reverse] at e1 e2
  rw [hq] at e2
  cases e2
  refine hNo9 ?_
  clear hNo9
  exact e1
theorem joinTopR_inv : ∀ st : List Rw, conc (joinTopR st).reverse = conc st.reverse ∧ (joinTopR st).reverse.head?.map (·.1) = st.reverse.head?.map (·.1)
  | [] => ⟨rfl, rfl⟩
  | [a] => ⟨rfl, rfl⟩
  | b :: a :: r => by
    refine ⟨?_, ?_⟩
    · simp only [joinTopR, List.reverse_cons, conc_app, conc_one, List.append_assoc]
    · cases hr : r.reverse with
      | nil => simp [joinTopR, hr]
      | cons y ys => simp [joinTopR, hr]
theorem joinTopsR_inv (n : Nat) (st : List Rw) : conc (joinTopsR n st).reverse = conc st.reverse ∧ (joinTopsR n st).reverse.head?.map (·.1) = st.reverse.head?.map (·.1) := by
  induction n with
  | zero => exact ⟨rfl, rfl⟩
  | succ n ih =>
    have := joinTopR_inv (joinTopsR n st)
    exact ⟨this.1.trans ih.1, this.2.trans ih.2⟩
theorem layR_inv (st : List Rw) (q : Pcs) : conc (layR st q).reverse = conc st.reverse ++ q.2.1 ∧ (layR st q).reverse.head?.map (·.1) = (st.reverse.head?.map (·.1)).or (some q.1) := by
  have := joinTopsR_inv (min q.2.2.toNat st.length) ((q.1, q.2.1) :: st)
  unfold layR
  refine ⟨this.1.trans (by simp only [List.reverse_cons, conc_app, conc_one]), this.2.trans ?_⟩
  rw [List.reverse_cons]
  cases st.reverse <;> simp
theorem stR_inv (pcs : List Pcs) (q0 : Pcs) (h0 : pcs[0]? = some q0) : ∀ i, i < pcs.length → conc (stR pcs (i + 1)).reverse = (pcs.take (i + 1)).flatMap (·.2.1) ∧ (stR pcs (i + 1)).reverse.head?.map (·.1) = some q0.1
  | 0, hi => by
    rw [stR_succ pcs 0 q0 h0]
    have := layR_inv (stR pcs 0) q0
    rw [this.1, this.2, List.take_add_one, h0]
    exact ⟨by simp [stR, conc], by simp [stR]⟩
  | i + 1, hi => by
    have hg : pcs[i + 1]? = some pcs[i + 1] := List.getElem?_eq_getElem hi
    have ih := stR_inv pcs q0 h0 i (by omega)
    rw [stR_succ pcs (i + 1) _ hg]
    have := layR_inv (stR pcs (i + 1)) pcs[i + 1]
    rw [this.1, this.2, ih.1, ih.2, List.take_add_one (i := i + 1), hg, List.flatMap_append]
    exact ⟨by simp, by simp⟩
/-- the numbers' pieces -/
theorem pcOf_ok (x : Int) : PcOk (pcOf x) := by
  have a1 := Int.fmod_nonneg_of_pos x (b := 4) (by decide)
  have a2 := Int.fmod_lt_of_pos x (b := 4) (by decide)
  have b1 := Int.fmod_nonneg_of_pos (x.fdiv 16) (b := 3) (by decide)
  have b2 := Int.fmod_lt_of_pos (x.fdiv 16) (b := 3) (by decide)
  refine ⟨?_, fun k hk => ?_, ?_⟩
  · show K4 (x.fmod 4); unfold K4; omega
  · obtain ⟨j, _, rfl⟩ := List.mem_map.mp hk
    exact ⟨Int.fmod_nonneg_of_pos _ (by decide), Int.fmod_lt_of_pos _ (by decide)⟩
  · show 0 ≤ (x.fdiv 16).fmod 3 ∧ (x.fdiv 16).fmod 3 ≤ 1000; omega
theorem pcOf_len (x : Int) : (pcOf x).2.1.length ≤ 3 := by
  have a2 := Int.fmod_lt_of_pos (x.fdiv 4) (b := 4) (by decide)
  show (List.map _ (List.range _)).length ≤ 3
  rw [List.length_map, List.length_range]; omega
theorem totP_le : ∀ ms : List Int, totP (ms.map pcOf) ≤ 3 * ms.length
  | [] => Nat.le_refl _
  | x :: ms => by
    have h1 := pcOf_len x
    have h2 := totP_le ms
    unfold totP at *
    simp only [List.map_cons, List.sum_cons, List.length_cons]
    omega
theorem flat_len (pcs : List Pcs) : (pcs.flatMap (·.2.1)).length = totP pcs := by unfold totP; rw [List.length_flatMap]
theorem lawNs_len (ns : List Int) : (lawNs ns).length ≤ 11 ∧ 5 ≤ (lawNs ns).length := by
  unfold lawNs
  simp only [List.length_append, List.length_take, List.length_cons, List.length_nil]
  omega

theorem begin_F1 : True := by
  w_on
  w_top off
  k_with_none
  k_with "om" => (law_clear; first | with_reducible assumption | (law_purse 20000 => grind))
  k_with "guard" => skip
  trivial
set_option maxHeartbeats 4000000
theorem lawLen : lawBody.length = 27 := by decide
theorem execs_law {M : Model} {A : Around} {E : Value → Shared → Prop} {Q : Flow → Shared → Prop} {h0 : Heap} {gens : Array GenState} {drawn : Drawn} {tk0 : Nat} {os : OsState} {env : Env} (i j : Nat) (hj : i + 1 = j) (hi : i < 27)
    (h : ∀ Q' : Flow → Shared → Prop, (∀ h tk, wpAny M A (execs (lawBody.drop j) env) Q E ⟨h, gens, drawn, tk, os⟩ → Q' .next ⟨h, gens, drawn, tk, os⟩) → (∀ v h tk, Q (.ret v) ⟨h, gens, drawn, tk, os⟩ → Q' (.ret v) ⟨h, gens, drawn, tk, os⟩) → wpAny M A (exec (lawBody.getD i (.Pass default)) env) Q' E ⟨h0, gens, drawn, tk0, os⟩) : wpAny M A (execs (lawBody.drop i) env) Q E ⟨h0, gens, drawn, tk0, os⟩ := by
  subst hj
  have hi' : i < lawBody.length := by rw [lawLen]; exact hi
  rw [List.drop_eq_getElem_cons hi']
  have h' := h (fun f s' => match f with | .next => wpAny M A (execs (lawBody.drop (i + 1)) env) Q E s' | f => Q f s') (fun _ _ x => x) (fun _ _ _ x => x)
  rw [List.getD_eq_getElem?_getD, List.getElem?_eq_getElem hi'] at h'
  exact wpAny_execs_cons h'
theorem reps_fresh {P : Addr → Prop} {h : Heap} {vs : List Value} {ds : List D} {b : Addr} (r : Reps P h vs ds) (e : h.get? b = none) : Reps (fun a => P a ∧ a ≠ b) h vs ds := r.there.weaken fun a p => ⟨p.1, fun q => by
  have := p.2
  rw [q, e] at this; cases this⟩
theorem list_fresh {h : Heap} {a b : Addr} {items : Array Value} (l : h.IsList a items) (e : h.get? b = none) : a ≠ b := fun q => by
  obtain ⟨o, ho, _⟩ := l
  rw [q, e] at ho; cases ho
theorem ifv_erase {vs : List Value} {ns : List Int} (r : IntsAre vs ns) : ∀ i, IntsAre (vs.eraseIdx i) (ns.eraseIdx i) := by
  induction r with
  | nil => intro i; simp; exact .nil
  | cons n t r ih =>
    intro i
    cases i with
    | zero => exact r
    | succ i => exact .cons n t (ih i)
theorem law_all {s0 : Heap} {toks : Nat} {Q : Flow → Shared → Prop}
    (X : (hd.heap_1 w.params).In g) (T : Top p loose mean mg mb g) (hdp : dp + 40 < recursionLimit) (hun : un + 8 * 40 < cLine) (h48 : @LT.lt Nat _ 248 L) (C : CodeHd g 250 248) (sa : Addr) (vs : List Value) (ns : List Int) (hl : g.IsList sa vs.toArray) (hi : IntsAre vs ns) (hz : ns.length ≤ 63)
    (S : LawAt g L s0 (lawM (some (.ref sa)) none none none none none none none none none none none none none none none none none) none none none none none #[])
    (h : ∀ h' tk' m' news', Fr g L h' m' → News g L h' news' → (∃ ps, h'.get? 248 = some (tabObj ps)) → Q (.ret (.bool true)) ⟨h', gens, drawn, tk', os⟩) :
    wpAny (model PySem.Challenge.rw_qh0094_01.row.prog w) (Ar dp un (some [lawEnv L fa]) gd) (execs lawBody (lawEnv L fa)) Q E ⟨s0, gens, drawn, toks, os⟩ := by
  rw [← fr_eq]
  refine @by_no _ fun hNo9 => ?_
  have hn := lawNs_len ns
  obtain ⟨ms, hms⟩ : ∃ ms, ms = lawNs ns := ⟨_, rfl⟩
  rw [← hms] at hn
  obtain ⟨pcs, hpcs⟩ : ∃ pcs, pcs = ms.map pcOf := ⟨_, rfl⟩
  have hpc : ∀ q ∈ pcs, PcOk q := by
    rw [hpcs]; intro q hq
    obtain ⟨x, _, rfl⟩ := List.mem_map.mp hq
    exact pcOf_ok x
  have hrl3 : ∀ q ∈ pcs, q.2.1.length ≤ 1000 := by
    rw [hpcs]; intro q hq
    obtain ⟨x, _, rfl⟩ := List.mem_map.mp hq
    exact Nat.le_trans (pcOf_len x) (by decide)
  have hpl : pcs.length = ms.length := by rw [hpcs, List.length_map]
  have htot : totP pcs ≤ 33 := by have := totP_le ms; rw [hpcs]; omega
  obtain ⟨os9, hos⟩ : ∃ os9, os9 = pcs.flatMap (·.2.1) := ⟨_, rfl⟩
  have hosl : os9.length ≤ 33 := by rw [hos, flat_len]; exact htot
  have hoc : Oct os9 := by
    rw [hos]; intro k hk
    obtain ⟨q, hq, hm⟩ := List.mem_flatMap.mp hk
    exact (hpc q hq).oct k hm
  obtain ⟨q0, hq0⟩ : ∃ q0, pcs[0]? = some q0 := ⟨_, List.getElem?_eq_getElem (by omega)⟩
  have hk : K4 q0.1 := (hpc q0 (List.mem_of_getElem? hq0)).k4
  obtain ⟨rs, hrs⟩ : ∃ rs : List Rw, rs = pcs.map fun q => (q.1, q.2.1) := ⟨_, rfl⟩
  have hrc : conc rs = os9 := by rw [hrs, hos]; unfold conc; rw [List.flatMap_map]
  have hrK : ∀ q ∈ rs, K4 q.1 ∧ Oct q.2 := by
    rw [hrs]; intro q hq
    obtain ⟨y, hy, rfl⟩ := List.mem_map.mp hq
    exact ⟨(hpc y hy).k4, (hpc y hy).oct⟩
  have hrl : (conc rs).length ≤ 100 := by rw [hrc]; omega
  have hrlen : rs.length = pcs.length := by rw [hrs, List.length_map]
  have hrh : rs.head? = some (q0.1, q0.2.1) := by rw [hrs, List.head?_eq_getElem?, List.getElem?_map, hq0]; rfl
  obtain ⟨r0, rt, hrt⟩ : ∃ r0 rt, rs = r0 :: rt := by
    cases e : rs with
    | nil => rw [e] at hrh; cases hrh
    | cons a b => exact ⟨a, b, rfl⟩
  obtain ⟨z0, zt, hzt⟩ : ∃ z0 zt, rs.reverse = z0 :: zt := by
    cases e : rs.reverse with
    | nil => have := congrArg List.length e; rw [List.length_reverse, hrt] at this; simp at this
    | cons a b => exact ⟨a, b, rfl⟩
  have hr0 : r0.1 = q0.1 := by rw [hrt] at hrh; simp only [List.head?_cons, Option.some.injEq] at hrh; rw [hrh]
  obtain ⟨m9, hm9⟩ : ∃ m9, pcs.length = m9 + 1 := ⟨pcs.length - 1, by omega⟩
  have hst := stR_inv pcs q0 hq0 m9 (by omega)
  rw [← hm9, List.take_length, ← hos] at hst
  have sok := stR_ok hpc pcs.length (Nat.le_refl _)
  obtain ⟨st9, hst9⟩ : ∃ st9 : List Rw, st9 = (stR pcs pcs.length).reverse := ⟨_, rfl⟩
  rw [← hst9] at hst
  have hsK : ∀ q ∈ st9, K4 q.1 ∧ Oct q.2 := fun q hq => sok.all q (by rw [hst9] at hq; exact List.mem_reverse.mp hq)
  have hsl : (conc st9).length ≤ 100 := by rw [hst.1]; omega
  obtain ⟨p0, pt, hpt⟩ : ∃ p0 pt, st9 = p0 :: pt := by
    cases e : st9 with
    | nil => rw [e] at hst; simp at hst
    | cons a b => exact ⟨a, b, rfl⟩
  have hp0 : p0.1 = q0.1 := by have := hst.2; rw [hpt] at this; simpa using this
  refine hNo9 ?_
  clear hNo9
  show wpAny _ _ (execs (lawBody.drop 0) _) _ _ _
  refine @execs_law _ _ _ _ _ _ _ _ _ _ 0 1 rfl (by decide) fun Q0 n0 r09 => ?_
  refine @st_numbers _ _ _ X T hdp hun h48 sa vs ns hl hi hz S ?_
  intro h0 tk0 na nv S0 lna0 ina
  rw [← hms] at ina
  have pna := S0.pp _ _ lna0
  refine n0 _ _ ?_
  refine @execs_law _ _ _ _ _ _ _ _ _ _ 1 2 rfl (by decide) fun Q1 n1 r19 => ?_
  clear n0 r09
  refine @st_pieces _ _ _ X T hdp hun h48 sa na nv ms lna0 ina (by omega) S0 ?_
  intro h1 tk1 pa S1 rpa1 k1
  rw [← hpcs] at rpa1
  have lna1 := k1.list pna lna0
  refine n1 _ _ ?_
  refine @execs_law _ _ _ _ _ _ _ _ _ _ 2 3 rfl (by decide) fun Q2 n2 r29 => ?_
  clear n1 r19
  refine @st_total _ _ _ X T hdp hun h48 sa na pa nv ms lna1 ina (by omega) S1 ?_
  intro h2 tk2 tt S2 k2
  have lna2 := k2.list pna lna1
  have rpa2 := rpa1.kept k2
  refine n2 _ _ ?_
  refine @execs_law _ _ _ _ _ _ _ _ _ _ 3 4 rfl (by decide) fun Q3 n3 r39 => ?_
  clear n2 r29
  refine @st_free2 _ _ _ X T hdp hun h48 sa na pa _ S2 ?_
  intro h3 tk3 fra fv S3 gfr ifv hgf hff k3
  have nfr := list_fresh lna2 hff
  have lna3 := k3.list pna lna2
  have rpa3 := (rep_fresh rpa2 hff).kept fun a o q c e => k3 a o q.1 c e
  refine n3 _ _ ?_
  refine @execs_law _ _ _ _ _ _ _ _ _ _ 4 5 rfl (by decide) fun Q4 n4 r49 => ?_
  clear n3 r39
  refine @st_first _ _ _ X T hdp hun h48 sa na pa fra fv _ tt hgf gfr ifv S3 ?_
  intro h4 tk4 ix tx hix S4 lfr4 k4
  have lna4 := k4.list ⟨pna, nfr⟩ lna3
  have rpa4 := (rpa3.kept k4).weaken fun a q => q.1
  have ifv4 : IntsAre (fv.eraseIdx ix) (FREE.eraseIdx ix) := ifv_erase ifv ix
  refine n4 _ _ ?_
  refine @execs_law _ _ _ _ _ _ _ _ _ _ 5 6 rfl (by decide) fun Q5 n5 r59 => ?_
  clear n4 r49
  refine @st_pair _ _ _ X T hdp hun h48 sa na pa fra _ _ tt tx ix hix lfr4 ifv4 S4 ?_
  intro h5 tk5 ux uy tp pok S5 k5
  have lna5 := k5.list pna lna4
  have rpa5 := rpa4.kept k5
  refine n5 _ _ ?_
  refine @execs_law _ _ _ _ _ _ _ _ _ _ 6 7 rfl (by decide) fun Q6 n6 r69 => ?_
  clear n5 r59
  refine @st_letters _ _ _ X T hdp hun h48 sa na pa fra _ _ _ S5 ?_
  intro h6 tk6 lea lev S6 lle6 ile k6
  have lna6 := k6.list pna lna5
  have rpa6 := rpa5.kept k6
  refine n6 _ _ ?_
  refine @execs_law _ _ _ _ _ _ _ _ _ _ 7 8 rfl (by decide) fun Q7 n7 r79 => ?_
  clear n6 r69
  refine @st_alphabets _ _ _ X T hdp hun h48 sa na pa fra lea _ _ lev lle6 ile ux uy tp S6 ?_
  intro h7 tk7 aa S7 raa7 k7
  have lna7 := k7.list pna lna6
  have rpa7 := rpa6.kept k7
  refine n7 _ _ ?_
  refine @execs_law _ _ _ _ _ _ _ _ _ _ 8 9 rfl (by decide) fun Q8 n8 r89 => ?_
  clear n7 r79
  refine @st_given _ _ _ X T hdp hun h48 sa na pa fra lea aa _ _ ux uy tp pcs hpc (by omega) hrl3 rpa7 S7 ?_
  intro h8 tk8 ga S8 rga8 k8
  have lna8 := k8.list pna lna7
  have rpa8 := rpa7.kept k8
  have raa8 := raa7.kept k8
  refine n8 _ _ ?_
  refine @execs_law _ _ _ _ _ _ _ _ _ _ 9 10 rfl (by decide) fun Q9 n9 r99 => ?_
  clear n8 r89
  refine @st_same _ _ _ X T hdp hun h48 sa na pa fra lea aa ga _ _ ux uy tp pok pcs hpc (by omega) hrl3 rpa8 raa8 rga8 S8 ?_
  intro h9 tk9 S9 k9
  have lna9 := k9.list pna lna8
  have rpa9 := rpa8.kept k9
  have raa9 := raa8.kept k9
  have rga9 := rga8.kept k9
  refine n9 _ _ ?_
  refine @execs_law _ _ _ _ _ _ _ _ _ _ 10 11 rfl (by decide) fun Q10 n10 r109 => ?_
  clear n9 r99
  refine @st_noted _ _ _ X T hdp hun h48 sa na pa fra lea ga _ _ _ _ S9 ?_
  intro h10 tk10 noa S10 hgn hfn hn10 k10
  have nno := list_fresh lna9 hfn
  have lna10 := k10.list pna lna9
  have kk10 : Kept (fun a => PP L a ∧ a ≠ noa) h9 h10 := fun a o q c e => k10 a o q.1 c e
  have rpa10 := (rep_fresh rpa9 hfn).kept kk10
  have raa10 := (rep_fresh raa9 hfn).kept kk10
  have rga10 := (rep_fresh rga9 hfn).kept kk10
  refine n10 _ _ ?_
  refine @execs_law _ _ _ _ _ _ _ _ _ _ 11 12 rfl (by decide) fun Q11 n11 r119 => ?_
  clear n10 r109
  refine @st_pile _ _ _ X T hdp hun h48 C sa na pa fra lea ga aa noa _ _ ux uy tp pok pcs hpc (by omega) (by omega) rga10 hgn hn10 S10 ?_
  intro h11 tk11 pia nv9 nn9 c0 S11 rpi11 hn11 rno11 k11
  have pno := S11.pp noa _ ⟨_, hn11, rfl, _, rfl⟩
  have lna11 := k11.list ⟨pna, nno⟩ lna10
  have rpa11 := (rpa10.kept k11).weaken fun a q => q.1
  have raa11 := (raa10.kept k11).weaken fun a q => q.1
  have rga11 := (rga10.kept k11).weaken fun a q => q.1
  have rpi11 := rpi11.onL S11.pp
  refine n11 _ _ ?_
  refine @execs_law _ _ _ _ _ _ _ _ _ _ 12 13 rfl (by decide) fun Q12 n12 r129 => ?_
  clear n11 r119
  refine @st_check1 _ _ _ X T hdp hun h48 sa na pa fra lea ga aa noa pia _ _ _ ux uy tp pok pcs hpc (by omega) (by omega) (by omega) rpa11 raa11 nv9 nn9 hn11 ((rno11.onL S11.pp).weaken fun a q => q.2) (rpi11.weaken fun a q => q.2) S11 ?_
  intro h12 tk12 S12 k12
  have lna12 := k12.list pna lna11
  have rpa12 := rpa11.kept k12
  have raa12 := raa11.kept k12
  have rga12 := rga11.kept k12
  have rpi12 := rpi11.kept fun a o q c e => k12 a o q.2 c e
  have hn12 := k12 noa _ pno rfl hn11
  refine n12 _ _ ?_
  refine @execs_law _ _ _ _ _ _ _ _ _ _ 13 14 rfl (by decide) fun Q13 n13 r139 => ?_
  clear n12 r129
  refine @st_way _ _ _ X T hdp hun h48 sa na pa fra lea ga aa noa pia _ _ _ ux uy tp pcs q0 hq0 rpa12 S12 ?_
  intro h13 tk13 tw S13 k13
  have lna13 := k13.list pna lna12
  have rpa13 := rpa12.kept k13
  have raa13 := raa12.kept k13
  have rga13 := rga12.kept k13
  have rpi13 := rpi12.kept fun a o q c e => k13 a o q.2 c e
  have hn13 := k13 noa _ pno rfl hn12
  refine n13 _ _ ?_
  refine @execs_law _ _ _ _ _ _ _ _ _ _ 14 15 rfl (by decide) fun Q14 n14 r149 => ?_
  clear n13 r139
  refine @st_octets _ _ _ X T hdp hun h48 sa na pa fra lea ga aa noa pia _ _ _ ux uy tp pcs q0.1 tw (by rw [← hos]; omega) rpa13 S13 ?_
  intro h14 tk14 oca ov S14 loc14 ioc k14
  rw [← hos] at ioc
  have poc := S14.pp _ _ loc14
  have lna14 := k14.list pna lna13
  have raa14 := raa13.kept k14
  have rga14 := rga13.kept k14
  have rpi14 := rpi13.kept fun a o q c e => k14 a o q.2 c e
  have hn14 := k14 noa _ pno rfl hn13
  refine n14 _ _ ?_
  refine @execs_law _ _ _ _ _ _ _ _ _ _ 15 16 rfl (by decide) fun Q15 n15 r159 => ?_
  clear n14 r149
  refine @st_written _ _ _ X T hdp hun h48 sa na pa fra lea ga aa noa pia oca _ _ _ ux uy tp pok ov os9 q0.1 tw hk hoc (by omega) raa14 loc14 ioc S14 ?_
  intro h15 tk15 bw tb hbw S15 k15
  have lna15 := k15.list pna lna14
  have loc15 := k15.list poc loc14
  have rga15 := rga14.kept k15
  have rpi15 := rpi14.kept fun a o q c e => k15 a o q.2 c e
  have hn15 := k15 noa _ pno rfl hn14
  refine n15 _ _ ?_
  refine @execs_law _ _ _ _ _ _ _ _ _ _ 16 17 rfl (by decide) fun Q16 n16 r169 => ?_
  clear n15 r159
  refine @st_ones _ _ _ X T hdp hun h48 sa na pa fra lea ga aa noa pia oca _ _ _ _ ux uy tp pcs q0.1 tw (by omega) _ hn15 pno rga15 S15 ?_
  intro h16 tk16 ona S16 ron16 k16
  have lna16 := k16.list pna lna15
  have loc16 := k16.list poc loc15
  have rpi16 := rpi15.kept fun a o q c e => k16 a o q.2 c e
  have hn16 := k16 noa _ pno rfl hn15
  have hron : Rep (fun a => a ≠ noa ∧ PP L a) h16 (.ref ona) (.lst (rs.map (toldRow ux.toNat uy.toNat))) := by rw [hrs, List.map_map]; exact ron16
  refine n16 _ _ ?_
  refine @execs_law _ _ _ _ _ _ _ _ _ _ 17 18 rfl (by decide) fun Q17 n17 r179 => ?_
  clear n16 r169
  refine @st_ends _ _ _ X T hdp hun h48 C sa na pa fra lea ga aa noa pia oca ona c0 _ _ ux uy tp pok bw tb os9 q0.1 tw hbw rs (stR pcs pcs.length) (by omega) r0 rt hrt z0 zt hzt p0 pt (by rw [← hst9]; exact hpt) (rw_all hrK hrl) (fun q hq => rw_all hsK hsl q (by rw [hpt]; exact .tail _ hq)) (fun i _ => rw_pre hrK hrl hrt i) (fun i _ => rw_suf hrK hrl hzt i) (fun i _ => rw_pre hsK hsl hpt i)
    ?e1 ?e2 ?e4 ⟨hk, hoc, by show os9.length ≤ 100; omega⟩ rpi16 hron hgn nv9 nn9 hn16 S16 ?_
  case e1 => rw [fold_fL, ← conc_cons, ← hrt, hrc, hr0]
  case e2 => rw [fold_suf hzt hrh, hrc]
  case e4 => rw [fold_fL, ← conc_cons, ← hpt, hst.1, hp0]
  intro h17 tk17 ena c1 c2 c3 c4 c5 S17 ren17 k17
  have lna17 := k17.list pna lna16
  have loc17 := k17.list poc loc16
  refine n17 _ _ ?_
  refine @execs_law _ _ _ _ _ _ _ _ _ _ 18 19 rfl (by decide) fun Q18 n18 r189 => ?_
  clear n17 r179
  refine @st_check2 _ _ _ X T hdp hun h48 sa na pa fra lea ga aa noa pia oca ona ena _ _ _ ux uy tp bw tb os9 q0.1 tw hbw ren17 S17 ?_
  intro h18 tk18 S18 k18
  have lna18 := k18.list pna lna17
  have loc18 := k18.list poc loc17
  refine n18 _ _ ?_
  refine @execs_law _ _ _ _ _ _ _ _ _ _ 19 20 rfl (by decide) fun Q19 n19 r199 => ?_
  clear n18 r189
  refine @st_parts _ _ _ X T hdp hun h48 sa na pa fra lea ga aa noa pia oca ona ena 0 0 _ _ _ ux uy tp bw tb q0.1 tw S18 ?_
  intro h19 tk19 paa S19 hpa19 hpg hpf k19
  have hop := list_fresh loc18 hpf
  have ppa := S19.pp paa _ ⟨_, hpa19, rfl, _, rfl⟩
  have lna19 := k19.list pna lna18
  have loc19 := k19.list poc loc18
  refine n19 _ _ ?_
  refine @execs_law _ _ _ _ _ _ _ _ _ _ 20 21 rfl (by decide) fun Q20 n20 r209 => ?_
  clear n19 r199
  refine @st_due _ _ _ X T hdp hun h48 sa na pa fra lea ga aa noa pia oca ona ena paa 0 _ _ _ ux uy tp bw tb q0.1 tw S19 ?_
  intro h20 tk20 dua S20 hda20 hdg hdf k20
  have hod := list_fresh loc19 hdf
  have hpd : paa ≠ dua := fun q => by rw [q, hdf] at hpa19; cases hpa19
  have pda := S20.pp dua _ ⟨_, hda20, rfl, _, rfl⟩
  have lna20 := k20.list pna lna19
  have loc20 := k20.list poc loc19
  have hpa20 := k20 paa _ ppa rfl hpa19
  refine n20 _ _ ?_
  refine @execs_law _ _ _ _ _ _ _ _ _ _ 21 22 rfl (by decide) fun Q21 n21 r219 => ?_
  clear n20 r209
  refine @st_at _ _ _ X T hdp hun h48 sa na pa fra lea ga aa noa pia oca ona ena paa dua _ _ _ ux uy tp bw tb q0.1 tw S20 ?_
  intro h21 tk21 ta S21 k21
  have lna21 := k21.list pna lna20
  have loc21 := k21.list poc loc20
  have hpa21 := k21 paa _ ppa rfl hpa20
  have hda21 := k21 dua _ pda rfl hda20
  have hWl : (wrK ux.toNat uy.toNat q0.1 os9).length ≤ 1000 := by have := wrK_len (ux.toNat : Int) (uy.toNat : Int) hk hoc; omega
  have hzl : (ms.map (Int.fmod · 7) ++ [((wrK ux.toNat uy.toNat q0.1 os9).length : Int)]).length = ms.length + 1 := by rw [List.length_append, List.length_map, List.length_singleton]
  have hzl64 : (ms.map (Int.fmod · 7) ++ [((wrK ux.toNat uy.toNat q0.1 os9).length : Int)]).length ≤ 64 := by omega
  have hzl0 : 0 < (ms.map (Int.fmod · 7) ++ [((wrK ux.toNat uy.toNat q0.1 os9).length : Int)]).length := by omega
  refine n21 _ _ ?_
  refine @execs_law _ _ _ _ _ _ _ _ _ _ 22 23 rfl (by decide) fun Q22 n22 r229 => ?_
  clear n21 r219
  refine @st_for _ _ _ X T hdp hun h48 sa na pa fra lea ga aa noa pia oca ona ena paa dua _ _ _ ux uy tp bw tb ta os9 q0.1 tw hk hbw hWl nv ms lna21 ina (by omega) (ms.map (Int.fmod · 7) ++ [((wrK ux.toNat uy.toNat q0.1 os9).length : Int)]) rfl ov loc21 ioc hoc (by omega) hpa21 hpg hda21 hdg hpd hop hod S21 ?_
  intro h22 tk22 av zv pv pn dv dn S22 gp22 rp22 gd22 rd22 k22
  have lpa22 : h22.IsList paa pv.toArray := ⟨_, gp22, rfl, _, rfl⟩
  have lda22 : h22.IsList dua dv.toArray := ⟨_, gd22, rfl, _, rfl⟩
  refine n22 _ _ ?_
  refine @execs_law _ _ _ _ _ _ _ _ _ _ 23 24 rfl (by decide) fun Q23 n23 r239 => ?_
  clear n22 r229
  refine @st_taken _ _ _ X T hdp hun h48 sa na pa fra lea ga aa noa pia oca ona ena paa dua _ _ av zv _ ux uy tp bw tb q0.1 tw S22 ?_
  intro h23 tk23 tka S23 hgt hft hn23 k23
  have hpt' := list_fresh lpa22 hft
  have hdt := list_fresh lda22 hft
  have lpa23 := k23.list ppa lpa22
  have lda23 := k23.list pda lda22
  have rd23 := (reps_fresh rd22 hft).kept (h' := h23) fun a o q c e => k23 a o q.1.2.2 c e
  have rp23 := rp22.kept (h' := h23) fun a o q c e => k23 a o q.2.2 c e
  refine n23 _ _ ?_
  refine @execs_law _ _ _ _ _ _ _ _ _ _ 24 25 rfl (by decide) fun Q24 n24 r249 => ?_
  clear n23 r239
  refine @st_state _ _ _ X T hdp hun h48 C sa na pa fra lea ga aa noa pia oca ona ena paa dua _ _ av zv ux uy tp bw tb q0.1 tw c0 c1 c2 c3 c4 c5 tka pok hk os9 hoc (by omega) hWl (ms.map (Int.fmod · 7) ++ [((wrK ux.toNat uy.toNat q0.1 os9).length : Int)]) hzl64 pv lpa23 (rp23.weaken fun a q => q.2.2) hgt hn23 hpt' S23 ?_
  intro h24 tk24 sta tv tn c6 S24 rst24 gt24 rt24 k24
  have lda24 := k24.list ⟨pda, hdt⟩ lda23
  have rd24 := rd23.kept (h' := h24) fun a o q c e => k24 a o ⟨q.1.2.2, q.2⟩ c e
  refine n24 _ _ ?_
  refine @execs_law _ _ _ _ _ _ _ _ _ _ 25 26 rfl (by decide) fun Q25 n25 r259 => ?_
  clear n24 r249
  refine @st_check3 _ _ _ X T hdp hun h48 sa na pa fra lea ga aa noa pia oca ona ena paa dua _ _ av zv _ ux uy tp bw tb q0.1 tw tka sta q0.1 _ os9 (ms.map (Int.fmod · 7) ++ [((wrK ux.toNat uy.toNat q0.1 os9).length : Int)]) hzl0 dv tv lda24 ⟨_, gt24, rfl, _, rfl⟩ (rd24.weaken fun a q => q.1.2.2) (rt24.weaken fun a q => q.2) (rst24.weaken fun a q => q.2) S24 ?_
  intro h25 tk25 S25
  refine n25 _ _ ?_
  refine @execs_law _ _ _ _ _ _ _ _ _ _ 26 27 rfl (by decide) fun Q26 n26 r269 => ?_
  clear n25 r259
  rw [fr_eq]
  refine @st_try _ _ _ X T hdp hun h48 C sa na pa fra lea ga aa noa pia oca ona ena paa dua _ _ av zv ux uy tp bw tb q0.1 tw c0 c1 c2 c3 c4 c5 c6 tka _ S25 ?_
  intro h26 tk26 m' news' F' N' G'
  exact r269 _ _ _ (h h26 tk26 m' news' F' N' G')
theorem law_c0 : LawSays C00 := by
  with_unfolding_all exact fun s0 toks Q sa vs ns X T C hl hi hz hdp hun h48 S h => @law_all s0 toks Q X T hdp hun h48 C sa vs ns hl hi hz S h
theorem law_fin {w : World} {p : Program} {loose : List Str} {mean : ExcName → Option Value} {mg mb : Str → Option Value} {dp un : Nat} {gd : Option (List Code)} {s : Shared} {g : Heap} {L fa : Addr} {Q : Flow → Shared → Prop} {E : Value → Shared → Prop}
    (X : (hd.heap_1 w.params).In g) (T : Top p loose mean mg mb g) (C : CodeHd g 250 248) (sa : Addr) (vs : List Value) (ns : List Int) (hl : g.IsList sa vs.toArray) (hi : IntsAre vs ns) (hz : ns.length ≤ 63) (hdp : dp + 40 < recursionLimit) (hun : un + 8 * 40 < cLine) (h48 : @LT.lt Nat _ 248 L)
    (S : LawAt g L s.heap (lawM (some (.ref sa)) none none none none none none none none none none none none none none none none none) none none none none none #[])
    (h : ∀ h' tk' m' news', Fr g L h' m' → News g L h' news' → (∃ ps, h'.get? 248 = some (tabObj ps)) → Q (.ret (.bool true)) { s with heap := h', toks := tk' }) :
    wpAny (model PySem.Challenge.rw_qh0094_01.row.prog w) (Ar dp un (some [lawEnv L fa]) gd) (execs lawBody (lawEnv L fa)) Q E s :=
  law_of law_c0 ⟨w, p, loose, mean, mg, mb, dp, un, gd, g, L, fa, s.gens, s.drawn, s.os, E⟩ s.heap s.toks Q sa vs ns X T C hl hi hz hdp hun h48 S h

end Mine
namespace Mine
set_option maxRecDepth 100000
set_option maxHeartbeats 4000000
theorem begin_t : True := by
  w_on
  w_top off
  trivial
theorem t : PySem.Challenge.rw_qh0094_01.Holds := by
  refine hd ?_
  k_go0
  all_goals try k_fold
  rename News _ _ _ _ => N1
  rename Fr _ _ _ _ => F1
  rename IntsAre _ _ => I1
  rename Heap.IsList _ _ _ => L1
  rename CodeHd _ _ _ => C1
  k_dflt (refine' law_fin ?X ?T ?C _ _ _ ?hl ?hi ?hz ?hd ?hu ?h48 ?S ?h; (case X => assumption); (case T => assumption); (case C => assumption); (case hl => assumption); (case hi => assumption))
  case hz => omega
  case hd => decide +kernel
  case hu => decide +kernel
  case h48 => assumption
  case S =>
    refine ⟨_, _, _, _, _, Fr.congr F1 ?f, N1, ?_, ?_, ?_, ?_, ?_⟩
    case f =>
      intro q
      show (if q = Str.ofString "script" then some (Value.ref _) else none) = _
      unfold lawM
      by_cases c1 : q = Str.ofString "script"
      · subst c1; rfl
      · simp only [if_neg c1, ite_self]
    all_goals assumption
  case h =>
    intro h' tk' m' news' F' N' G'
    refine ⟨goodW_bool F' (by assumption) ?r1 ?r2, G', trivial⟩
    case r1 => intro cls; rfl
    case r2 => exact postW_of rfl (by wtm_val) rfl
end Mine

theorem PySem.Challenge.cw_qh0094_01_holds : PySem.Challenge.rw_qh0094_01.Holds := by
  exact Mine.t
