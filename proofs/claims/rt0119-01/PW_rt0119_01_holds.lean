import PyProof.Rows.All
import Wide.All
import OpenK.AllK
import Wide.FinOn
import Lean
import PySem.Challenge.RW_rt0119_01
open PySem PySem.W PyProof.Rows PySem.Calls PySem.Spec
set_option Elab.async false
set_option maxRecDepth 100000
namespace Mine
section
set_option maxHeartbeats 8000000
/-! the head's two constants, view and heap: made here once, used by every contract; the head itself is run in law_holds -/
set_option linter.unusedVariables false in
theorem four {A B C H : Prop} (hl : A) (hw : B) (hc : C) (main : H) : True := trivial
theorem hd (h : False) : True := by
  have said : PySem.Challenge.rw_rt0119_01.row.wellSaid = true := h.elim
  apply four (H := PySem.Challenge.rw_rt0119_01.row.Holds)
  case main => w_on; k_head
  all_goals exact h.elim
end
local macro_rules | `(tactic| walk_at $s:str) => `(tactic| k_extra $s)
theorem words : True := by
  w_top off
  k_with "mine fill" => (w_top off; (have zkZ : Challenge.rw_rt0119_01.prog = Challenge.rw_rt0119_01.prog ∧ Mine.hd.heap_1 = Mine.hd.heap_1 := by (k_fill; exact ⟨rfl, rfl⟩)); clear zkZ)
  k_with "mine enter" => ((case k6 => k_is); (case k7 => k_is); (case k8 => first | omega | (show _ < _; dsimp only; omega)); (case k9 => exact BindsTo.of_eq rfl); (case c5 => decide); (case kB => exact locs rfl); (case c2 => exact rfl); (case c3 => exact rfl); (case c4 => exact rfl); intro zLZ zh₁Z zFZ zNZ; (try dsimp only); (try k_fold))
  k_with "mine ok" => first | assumption | exact ⟨by decide, by decide⟩
  k_with "mine eq" => first | assumption | rfl
  k_with "call builtin:isinstance" => (k_here; (with_reducible show wpAny _ _ (call (Value.builtin "isinstance") [tx _ _ _, Value.type _]) _ _ _); k_dflt (first | refine q_isi_b ?_ | refine q_isi_s ?_); intro _; (try dsimp only))
  k_with "truthy" => (k_here; (with_reducible show wpAny _ _ (truthy (tx _ _ _)) _ _ _); k_dflt (refine q_truthy (by walk_at "mine ok") (by walk_at "mine eq") ?_); intro _; (try dsimp only))
  k_with "call type:type" => (k_here; (with_reducible show wpAny _ _ (call (Value.type "type") [tx _ _ _]) _ _ _); k_dflt (refine r_type ?_))
  k_with "call builtin:issubclass" => (k_here; (with_reducible show wpAny _ _ (call (Value.builtin "issubclass") [Value.type _, Value.ref _]) _ _ _); (rename News _ _ _ _ => zkNZ); k_dflt (refine r_issub ((zkNZ _ (List.Mem.head _)).1) ?_))
  k_with "call ref" => (k_here; (with_reducible show wpAny _ _ (call (Value.ref _) [tx _ _ _]) _ _ _); (rename Fr _ _ _ _ => zkFZ); (rename News _ _ _ _ => zkNZ); k_dflt (first | (refine c_fspath (Frag.In.keeps (by assumption) zkFZ.keep) (Top.keeps (by assumption) zkFZ.keep) ?hd ?_; (case hd => ktr_room); (intro zt9Z zh9Z ztk9Z zK9Z); (have zF9Z := Fr.keeps zkFZ zK9Z); (have zN9Z := News.grown zkNZ zK9Z); clear zK9Z) | (refine c_get_sep (Frag.In.keeps (by assumption) zkFZ.keep) (Top.keeps (by assumption) zkFZ.keep) ?hd ?_; (case hd => ktr_room); (intro zt9Z zh9Z ztk9Z zK9Z); (have zF9Z := Fr.keeps zkFZ zK9Z); (have zN9Z := News.grown zkNZ zK9Z); clear zK9Z) | (refine c_splitroot (Frag.In.keeps (by assumption) zkFZ.keep) (Top.keeps (by assumption) zkFZ.keep) ?hd (by walk_at "mine ok") (by assumption) ?_; (case hd => ktr_room); (rintro zD9Z zo9Z zh9Z ztk9Z ⟨zt1Z, zt2Z, zt3Z, zq9Z⟩ zK9Z zn9Z ze9Z); subst zq9Z; (have zF9Z := Fr.keeps zkFZ zK9Z); (have zN9Z := news_add zkFZ zkNZ zK9Z zn9Z ze9Z); clear zK9Z zn9Z ze9Z)); (try dsimp only at zF9Z zN9Z ⊢); (try k_sweep); (try dsimp only))
  k_with "getMethod" => (k_here; (with_reducible show wpAny _ _ (getMethod (tx _ _ _) _ _) _ _ _); k_dflt (first | with_reducible refine g_rfind ?_ | with_reducible refine g_rstrip ?_ | with_reducible refine g_startswith ?_ | with_reducible refine g_endswith ?_ | with_reducible refine g_split ?_ | with_reducible refine g_join ?_))
  k_with "subscriptTail" => (k_here; (with_reducible show wpAny _ _ (subscriptTail _ (Expr.Slice _ _ none _) (tx _ _ _) (Value.ref _)) _ _ _); (with_reducible rename Fr _ _ _ _ => zFY); (with_reducible rename News _ _ _ _ => zNY); k_dflt (refine r_slice (s := ⟨_, _, _, _, _⟩) zFY zNY (by walk_at "mine ok") (by constructor) (by constructor) (by walk_at "mine eq") ?_); intro _ _ _ _ _; (try k_sweep); (try dsimp only))
  k_with "call" => (k_here; (with_reducible show wpAny _ _ (call (Value.builtin (mid _ Mt.rfind)) [tx _ _ _, tx _ _ _]) _ _ _); k_dflt (refine r_rfind (by walk_at "mine ok") (by assumption) ?_); intro _ _; (try dsimp only))
  k_with "call" => (k_here; (with_reducible show wpAny _ _ (call (Value.builtin (mid _ Mt.rstrip)) [tx _ _ _, tx _ _ _]) _ _ _); k_dflt (refine r_rstrip (by walk_at "mine ok") (by assumption) ?_); intro _ _; (try dsimp only))
  k_with "call" => (k_here; (with_reducible show wpAny _ _ (call (Value.builtin "len") [tx _ _ _]) _ _ _); k_dflt (refine r_len (by walk_at "mine ok") ?_); intro _ _; (try dsimp only))
  k_with "compareOp" => (k_here; (with_reducible show wpAny _ _ (compareOp CmpOp.NotEq (tx _ _ _) (tx _ _ _)) _ _ _); k_dflt (refine q_ne (by walk_at "mine ok") (by walk_at "mine ok") (by walk_at "mine eq") ?_))
  k_with "compareOp" => (k_here; (with_reducible show wpAny _ _ (compareOp CmpOp.Eq (tx _ _ _) (tx _ _ _)) _ _ _); k_dflt (refine q_eq (by walk_at "mine ok") (by walk_at "mine ok") (by walk_at "mine eq") ?_))
  k_with "binaryOp Mult" => (k_here; (with_reducible show wpAny _ _ (binaryOp Operator.Mult (tx _ _ _) (Value.int _ _)) _ _ _); k_dflt (refine r_mul (by assumption) ?_); intro _ _; (try dsimp only))
  k_with "binaryOp Add int int" => (k_here; k_dflt (refine q_add ?_); intro _ _; (try dsimp only))
  k_with "mine to if" => repeat' (first | ((fail_if_success (with_reducible show wpAny _ _ (exec (Stmt.If _ _ _ _) _) _ _ _)); first | (k_unfold; (try dsimp only)) | walk1 | (dsimp only; walk1)) | fail "no step")
  k_with "call" => (k_here; (with_reducible show wpAny _ _ (call (Value.builtin (mid _ Mt.split)) [tx _ _ _, tx _ _ _]) _ _ _); (rename Fr _ _ _ _ => zkFZ); (rename News _ _ _ _ => zkNZ); k_dflt (refine r_split (by walk_at "mine ok") ?_; (rintro zD9Z zo9Z zh9Z ztk9Z ⟨zvs9Z, zq9Z, zA9Z⟩ zK9Z zn9Z ze9Z); subst zq9Z; (have zF9Z := Fr.keeps zkFZ zK9Z); (have zN9Z := news_add zkFZ zkNZ zK9Z zn9Z ze9Z); (have zP9Z := news_ne zkNZ zn9Z); clear zK9Z zn9Z ze9Z); (try dsimp only at zF9Z zN9Z ⊢); (try k_sweep); (try dsimp only))
  k_with "mine to for" => repeat' (first | ((fail_if_success (with_reducible show wpAny _ _ (exec (Stmt.For _ _ _ _ _) _) _ _ _)); first | (k_unfold; (try dsimp only)) | walk1 | (dsimp only; walk1)) | fail "no step")
  k_with "call" => (k_here; (with_reducible show wpAny _ _ (call (Value.builtin (mid _ Mt.join)) [tx _ _ _, Value.ref _]) _ _ _); (rename News _ _ _ _ => zkNZ); k_dflt (refine r_join (by assumption) (by assumption) (by assumption) (zkNZ.get (by k_mem)) ?_); intro _ _; (try dsimp only))
  k_with "binaryOp Add" => (k_here; (with_reducible show wpAny _ _ (binaryOp Operator.Add (tx _ _ _) (tx _ _ _)) _ _ _); k_dflt (refine r_add (by walk_at "mine ok") (by walk_at "mine ok") ?_); intro _ _; (try dsimp only))
  k_with "inplaceOp Add" => (k_here; (with_reducible show wpAny _ _ (inplaceOp Operator.Add (tx _ _ _) (tx _ _ _)) _ _ _); k_dflt (refine r_iadd (by walk_at "mine ok") (by walk_at "mine ok") ?_); intro _ _; (try dsimp only))
  k_with "call" => (k_here; (with_reducible show wpAny _ _ (call (Value.builtin (mid _ _)) [tx _ _ _, tx _ [47] _]) _ _ _); k_dflt (first | with_reducible refine q_starts (by walk_at "mine ok") (by walk_at "mine eq") ?_ | with_reducible refine q_ends (by walk_at "mine ok") (by walk_at "mine eq") ?_))
  k_with "call type:map" => (k_here; (with_reducible show wpAny _ _ (call (Value.type "map") [Value.ref 94, Value.ref _]) _ _ _); (rename News _ _ _ _ => zkNZ); k_dflt (refine r_map (isL zkNZ (by k_mem)) ?_); intro zh9Z zMk9Z; (try dsimp only))
  k_with "call type:tuple" => (k_here; (with_reducible show wpAny _ _ (call (Value.type "tuple") [Value.ref _]) _ _ _); (rename MapMade _ _ _ => zkMZ); (rename Fr _ _ _ _ => zkFZ); (rename News _ _ _ _ => zkNZ); k_dflt (refine r_tupmap zkMZ (Frag.In.keeps (by assumption) zkFZ.keep) (Top.keeps (by assumption) zkFZ.keep) (by rfl) (by ktr_room) (isL zkNZ (by k_mem)) (by assumption) (by assumption) ?_); (intro zD9Z zh9Z ztk9Z zvs9Z zA9Z zK9Z zn9Z ze9Z); (have zF9Z := Fr.keeps zkFZ zK9Z); (have zN9Z := news_add zkFZ zkNZ zK9Z zn9Z ze9Z); (have zP9Z := news_ne zkNZ zn9Z); clear zK9Z zn9Z ze9Z zkMZ; (try dsimp only at zF9Z zN9Z ⊢); (try k_sweep); (try dsimp only))
  k_with "mine to map" => repeat' (first | ((fail_if_success (rename MapMade _ _ _ => zkMZ)); first | (k_unfold; (try dsimp only)) | walk1 | (dsimp only; walk1)) | fail "no step")
  k_with "truthy ref" => (k_here; (with_reducible show wpAny _ _ (truthy (Value.ref _)) _ _ _); (rename News _ _ _ _ => zkNZ); k_dflt (first | refine r_tup_truth (c := true) zkNZ (by k_mem) (by assumption) rfl ?_ | refine r_tup_truth (c := false) zkNZ (by k_mem) (by assumption) rfl ?_); intro _; (try dsimp only))
  k_with "subscriptTail" => (k_here; (with_reducible show wpAny _ _ (subscriptTail _ (Expr.Constant _ _ _) (Value.ref _) (Value.int 0 _)) _ _ _); (rename News _ _ _ _ => zkNZ); k_dflt (refine r_tup_item0 zkNZ (by k_mem) ?_); (try dsimp only))
  k_with "mine to comp" => repeat' (first | ((fail_if_success (with_reducible show wpAny _ _ (exec (Stmt.Assign _ (Expr.ListComp _ _ _ _) _) _) _ _ _)); (fail_if_success (with_reducible show wpAny _ _ (exec (Stmt.If (Expr.Call _ _ _ _) _ _ _) _) _ _ _)); first | (k_unfold; (try dsimp only)) | walk1 | (dsimp only; walk1)) | fail "no step")
  k_with "mine past map" => repeat' (first | ((rename MapMade _ _ _ => zkMZ); first | walk1 | (dsimp only; walk1)) | fail "no step")
  k_with "mine def" => ((case kA => exact rfl); (case kF => exact rfl); (case kK => exact rfl); (case k1 => k_asm); (case k2 => k_asm); (case k3 => k_asm); (case k4 => k_asm); (case k5 => k_asm); (case k6 => k_is); (case k7 => k_is); (case k8 => k_room); (case k9 => exact BindsTo.of_eq rfl); (case kB => first | exact locs rfl | exact rfl); (case c2 => exact rfl); (case c3 => exact rfl); (case c4 => exact rfl))
  k_with "call ref" => (k_here; (with_reducible show wpAny _ _ (call (Value.ref 141) [Value.ref _]) _ _ _); k_dflt (refine wpAny_call ?_; (refine' code_paths ?k1 ?k2 ?k3 ?k4 ?k5 ?kA ?kF ?kK ?k6 ?k7 ?k8 ?k9 ?kB ?kD ?_ ?c2 ?c3 ?c4); walk_at "mine def"; (case kD => decide +kernel); intro zgY zLY zhY ztkY zcellsY zFGY zFY zNY zYY zBY zXY zTY zl1Y; k_cells zYY; (try simp only [List.cons_append, List.nil_append] at zNY); (try dsimp only); (try k_lift zBY); (try k_fold)))
  k_with "storeName" => (k_here; (rename Apart2 _ _ _ => zkAZ); (rename Fr _ _ _ _ => zkFZ); (rename News _ _ _ _ => zkNZ); k_dflt (first | (refine' storeC_b zkFZ zkNZ zkAZ ?c ?d ?_ ?a ?b; (case c => rfl); (case d => assumption)) | (refine' storeC_a zkFZ zkNZ zkAZ ?c ?d ?_ ?a ?b; (case c => rfl); (case d => assumption))); (case a => rfl); (case b => rfl); intro zhY zoY zFY zNY zdY; (try k_sweep))
  k_with "exec Try" => (k_here; (with_reducible show wpAny _ _ (exec (Stmt.Try _ (_ :: _) _ [] _) _) _ _ _); refine wpAny_Try_except ?_)
  k_with "mine mem" => first | exact List.Mem.head _ | assumption | (refine List.Mem.tail _ ?_; walk_at "mine mem") | (refine List.mem_append_right _ ?_; walk_at "mine mem") | (refine List.mem_append_left _ ?_; walk_at "mine mem")
  k_with "subscriptTail Name Name ref int" => (k_here; (with_reducible show wpAny _ _ (subscriptTail _ _ (Value.ref _) (Value.int _ _)) _ _ _); (rename News _ _ _ _ => zkN); k_dflt (refine q_item zkN (by walk_at "mine mem") (by assumption) (by assumption) ?_))
  k_with "mine def0" => ((case kA => exact rfl); (case kK => assumption); (case k1 => k_asm); (case k2 => k_asm); (case k3 => k_asm); (case k4 => k_asm); (case k5 => k_asm); (case k6 => k_is); (case k7 => k_is); (case k8 => k_room); (case k9 => exact BindsTo.of_eq rfl); (case kB => first | exact locs rfl | exact rfl); (case c2 => exact rfl); (case c3 => exact rfl); (case c4 => exact rfl); (case c5 => decide))
  k_with "mine to asg" => repeat' (first | ((fail_if_success (with_reducible show wpAny _ _ (exec (Stmt.Assign _ _ _) _) _ _ _)); first | (k_unfold; (try dsimp only)) | walk1 | (dsimp only; walk1)) | fail "no step")
  k_with "call ref" => (k_here; (with_reducible show wpAny _ _ (call (Value.ref 146) [Value.int _ _, Value.int _ _]) _ _ _); (rename Fr _ _ _ _ => zkF); (rename News _ _ _ _ => zkN); k_dflt (refine c_names (Frag.In.keeps (by assumption) zkF.keep) (Top.keeps (by assumption) zkF.keep) ?hd ?_; (case hd => first | decide | ktr_room); (rintro zD zo zh ztk ⟨zk, zc, zB, zus, zn, zP, zq, zA⟩ zK zn0 ze0); subst zq; (have zF := Fr.keeps zkF zK); (have zN := news_add zkF zkN zK zn0 ze0); (have zPn := news_ne zkN zn0); clear zK zn0 ze0); (try dsimp only at zF zN ⊢); (try k_sweep); (try dsimp only))
  k_with "mine keep" => repeat (first | exact KeepL.nil | refine KeepL.cons (by walk_at "mine mem") (by first | exact .inr (by intro _ e; cases e) | exact .inr (by assumption) | exact .inl (by assumption) | exact .inl (by show (_ : Nat) ≠ _; omega)) ?_)
  k_with "binaryOp Mult int int" => (k_here; (with_reducible show wpAny _ _ (binaryOp Operator.Mult (Value.int _ _) (Value.int _ _)) _ _ _); k_dflt (refine q_mul (by omega) (by omega) ?_); intro _ _; (try dsimp only))
  k_with "binaryOp FloorDiv int int" => (k_here; (with_reducible show wpAny _ _ (binaryOp Operator.FloorDiv (Value.int _ _) (Value.int _ _)) _ _ _); k_dflt (refine q_fdiv (by omega) (by omega) ?_); intro _ _; (try dsimp only))
  k_with "subscriptTail Name BinOp ref int" => (k_here; (with_reducible show wpAny _ _ (subscriptTail _ _ (Value.ref _) (Value.int _ _)) _ _ _); (rename News _ _ _ _ => zkN); k_dflt (refine q_pick zkN (by walk_at "mine mem") (by assumption) ?_); intro _)
  trivial
section

/-! values: a text or bytes, by its codes -/
inductive Kd | s | b
def Kd.nm : Kd → String | .s => "str" | .b => "bytes"
def bys (l : List Nat) : List UInt8 := l.map Nat.toUInt8
def tx : Kd → List Nat → Tok → Value
  | .s, l, t => .str ⟨l.toArray⟩ t
  | .b, l, t => .bytes (bys l).toArray t
/-- codes below 256, and not long -/
structure Ok (l : List Nat) : Prop where
  lt : ∀ c ∈ l, c < 256
  len : l.length ≤ 1000

theorem Ok.nil : Ok [] := ⟨fun _ h => (nomatch h), by decide⟩
theorem bys_len (l : List Nat) : (bys l).length = l.length := by simp [bys]
theorem toUInt8_inj {a b : Nat} (ha : a < 256) (hb : b < 256) (h : Nat.toUInt8 a = Nat.toUInt8 b) : a = b := by
  have := congrArg UInt8.toNat h
  have ea : (Nat.toUInt8 a).toNat = a % 256 := rfl
  have eb : (Nat.toUInt8 b).toNat = b % 256 := rfl
  rw [ea, eb, Nat.mod_eq_of_lt ha, Nat.mod_eq_of_lt hb] at this
  exact this
theorem bys_inj : ∀ {a b : List Nat}, (∀ c ∈ a, c < 256) → (∀ c ∈ b, c < 256) → bys a = bys b → a = b
  | [], [], _, _, _ => rfl
  | [], _ :: _, _, _, h => by simp [bys] at h
  | _ :: _, [], _, _, h => by simp [bys] at h
  | x :: a, y :: b, ha, hb, h => by
    simp only [bys, List.map_cons, List.cons.injEq] at h
    have e1 := toUInt8_inj (ha x (.head _)) (hb y (.head _)) h.1
    have e2 := bys_inj (fun c hc => ha c (.tail _ hc)) (fun c hc => hb c (.tail _ hc)) (a := a) (b := b) h.2
    rw [e1, e2]
theorem bys_beq {a b : List Nat} (ha : Ok a) (hb : Ok b) : (bys a == bys b) = (a == b) := by
  rw [Bool.eq_iff_iff, beq_iff_eq, beq_iff_eq]
  exact ⟨bys_inj ha.lt hb.lt, fun h => by rw [h]⟩
theorem bys_app (a b : List Nat) : bys (a ++ b) = bys a ++ bys b := by simp [bys]

section
variable {prog : Program} {w : World} {A : Around} {E : Value → Shared → Prop} {s : Shared} {k : Kd} {l l' : List Nat} {t u : Tok}

theorem tx_typeIs (s : Shared) : s.TypeIs (tx k l t) k.nm := by cases k <;> rfl

theorem r_truthy {Q : Bool → Shared → Prop} (ok : Ok l) (h : ∀ tk, Q (l != []) { s with toks := tk }) : wpAny (model prog w) A (truthy (tx k l t)) Q E s := by
  have hl := ok.len
  have e : ((l.length : Int) != 0) = (l != []) := by
    rw [Bool.eq_iff_iff, bne_iff_ne, bne_iff_ne]
    cases l with
    | nil => simp
    | cons a r => simp only [List.length_cons, ne_eq, reduceCtorEq, not_false_eq_true, iff_true]; omega
  cases k with
  | s =>
    refine PySem.P.truthy_str (x := ⟨l.toArray⟩) (by show ¬ ((l.toArray.size : Int) ≥ 2 ^ 63); simp; omega) ?_
    have e' : (((⟨l.toArray⟩ : Str).length : Int) != 0) = (l != []) := by rw [← e]; simp [Str.length]
    rw [e']; exact h _
  | b =>
    refine truthy_bytes (b := (bys l).toArray) (by simp [bys_len]; omega) ?_
    have e' : (((bys l).toArray.size : Int) != 0) = (l != []) := by rw [← e]; simp [bys_len]
    rw [e']; exact h _

theorem r_eq {Q : Value → Shared → Prop} (ok : Ok l) (ok' : Ok l') (h : Q (.bool (l == l')) s) : wpAny (model prog w) A (compareOp .Eq (tx k l t) (tx k l' u)) Q E s := by
  cases k with
  | s => exact PySem.P.eq_str (x := ⟨l.toArray⟩) (y := ⟨l'.toArray⟩) h
  | b => refine eq_bytes (b := (bys l).toArray) (c := (bys l').toArray) ?_; rw [show ((bys l).toArray.toList == (bys l').toArray.toList) = (l == l') from bys_beq ok ok']; exact h
theorem r_ne {Q : Value → Shared → Prop} (ok : Ok l) (ok' : Ok l') (h : Q (.bool (l != l')) s) : wpAny (model prog w) A (compareOp .NotEq (tx k l t) (tx k l' u)) Q E s := by
  cases k with
  | s => exact PySem.P.ne_str (x := ⟨l.toArray⟩) (y := ⟨l'.toArray⟩) h
  | b =>
    refine ne_bytes (b := (bys l).toArray) (c := (bys l').toArray) ?_
    rw [show ((bys l).toArray.toList != (bys l').toArray.toList) = (l != l') by show (!(bys l == bys l')) = (!(l == l')); rw [bys_beq ok ok']]
    exact h

theorem made_add {x y : Str} {Q : Value → Shared → Prop} (hx : x.length + y.length ≤ 16777216) (h : ∀ t' tk, Q (.str (x ++ y) t') { s with toks := tk }) :
    (if x.length == 0 then Made.val (.str y u) else if y.length == 0 then Made.val (.str x t) else Made.str (x ++ y)).post Q s := by
  by_cases h1 : (x.length == 0) = true
  · rw [if_pos h1]
    have e : x ++ y = y := by
      have : x = Str.empty := by
        cases x with | mk a =>
        have : a.size = 0 := by simpa [Str.length] using h1
        have : a = #[] := Array.size_eq_zero_iff.mp this
        subst this; rfl
      rw [this, Str.empty_append]
    have := h u s.toks
    rw [e] at this
    exact this
  · rw [if_neg h1]
    by_cases h2 : (y.length == 0) = true
    · rw [if_pos h2]
      have e : x ++ y = x := by
        apply Str.ext'
        have : y.cps.size = 0 := by simpa [Str.length] using h2
        have : y.cps = #[] := Array.size_eq_zero_iff.mp this
        rw [Str.cps_append, this, Array.append_empty]
      have := h t s.toks
      rw [e] at this
      exact this
    · rw [if_neg h2]
      exact ⟨by rw [sizeLine_eq, Str.length_append]; exact hx, h _ _⟩

theorem str_app (a b : List Nat) : (⟨a.toArray⟩ : Str) ++ ⟨b.toArray⟩ = ⟨(a ++ b).toArray⟩ := by
  apply Str.ext'; rw [Str.cps_append]; simp

theorem r_add {Q : Value → Shared → Prop} (ok : Ok l) (ok' : Ok l') (h : ∀ t' tk, Q (tx k (l ++ l') t') { s with toks := tk }) : wpAny (model prog w) A (binaryOp .Add (tx k l t) (tx k l' u)) Q E s := by
  have h1 := ok.len
  have h2 := ok'.len
  cases k with
  | s =>
    refine PySem.P.add_str (x := ⟨l.toArray⟩) (y := ⟨l'.toArray⟩) (made_add (by show l.toArray.size + l'.toArray.size ≤ _; simp; omega) fun t' tk => ?_)
    rw [str_app]; exact h t' tk
  | b =>
    refine KBy.add_bytes (b := (bys l).toArray) (c := (bys l').toArray) (by simp [bys_len]; omega) fun t' tk => ?_
    have := h t' tk
    simp only [tx, bys_app] at this
    simpa using this

theorem r_len {Q : Value → Shared → Prop} (ok : Ok l) (h : ∀ t' tk, Q (.int l.length t') { s with toks := tk }) : wpAny (model prog w) A (call (.builtin "len") [tx k l t]) Q E s := by
  have h1 := ok.len
  cases k with
  | s =>
    refine PySem.P.len_str (x := ⟨l.toArray⟩) (by show ¬ ((l.toArray.size : Int) ≥ 2 ^ 63); simp; omega) ?_
    show Q (.int (l.toArray.size : Int) _) _
    rw [List.size_toArray]; exact h _ _
  | b =>
    refine len_bytes (b := (bys l).toArray) (by simp [bys_len]; omega) ?_
    rw [List.size_toArray, bys_len]; exact h _ _
end
end
section
section
variable {prog : Program} {w : World} {A : Around} {E : Value → Shared → Prop} {s : Shared} {k : Kd} {l l' : List Nat} {t u : Tok}

theorem noI_bytes_add : typeLookup (.type "bytes") (dunderI "add") = pure none := by rw [typeLookup_type, builtinLookup_eq_fast]; kernel_rfl
theorem made_addB {b c : Array UInt8} {Q : Value → Shared → Prop} (hsz : b.size + c.size ≤ 16777216) (h : ∀ t' tk, Q (.bytes (b ++ c) t') { s with toks := tk }) :
    (if b.isEmpty = true then Made.val (.bytes c u) else if c.isEmpty = true then Made.val (.bytes b t) else Made.bytes (b ++ c)).post Q s := by
  by_cases hb : b.isEmpty = true
  · rw [if_pos hb]
    have e : b = #[] := Array.isEmpty_iff.1 hb
    have h' := h u s.toks
    rw [e, Array.empty_append] at h'
    exact h'
  · rw [if_neg hb]
    by_cases hc : c.isEmpty = true
    · rw [if_pos hc]
      have e : c = #[] := Array.isEmpty_iff.1 hc
      have h' := h t s.toks
      rw [e, Array.append_empty] at h'
      exact h'
    · rw [if_neg hc]
      exact ⟨by rw [Array.size_append, sizeLine_eq]; exact hsz, h s.toks (s.toks + 1)⟩

theorem r_iadd {Q : Value → Shared → Prop} (ok : Ok l) (ok' : Ok l') (h : ∀ t' tk, Q (tx k (l ++ l') t') { s with toks := tk }) : wpAny (model prog w) A (inplaceOp .Add (tx k l t) (tx k l' u)) Q E s := by
  have h1 := ok.len
  have h2 := ok'.len
  cases k with
  | s =>
    refine PySem.P.iadd_str (x := ⟨l.toArray⟩) (y := ⟨l'.toArray⟩) (made_add (by show l.toArray.size + l'.toArray.size ≤ _; simp; omega) fun t' tk => ?_)
    rw [str_app]; exact h t' tk
  | b =>
    have hsz : (bys l).toArray.size + (bys l').toArray.size ≤ 16777216 := by simp [bys_len]; omega
    refine iconcat_gives (typeIs_bytes s (bys l).toArray t) (typeIs_bytes s (bys l').toArray u) noI_bytes_add KBy.noFill_bytes_add KBy.seq_bytes_add FB.slot_bytes_add FB.entry_bytes_add (FB.args_bytes_add_2 _ _) (KBy.gives_bytes_add (KBy.tooLong_not hsz)) (made_addB hsz fun t' tk => ?_)
    have := h t' tk
    simp only [tx, bys_app] at this
    simpa using this

theorem rep_one (n : Nat) (c : Nat) (acc : Array Nat) : (List.replicate n #[c]).foldl (· ++ ·) acc = acc ++ (List.replicate n c).toArray := by
  induction n generalizing acc with
  | zero => simp
  | succ n ih => rw [List.replicate_succ, List.foldl_cons, ih, List.replicate_succ]; apply Array.ext'; simp
theorem rep_bys : ∀ n : Nat, (List.replicate n [(47 : UInt8)]).flatten = bys (List.replicate n 47)
  | 0 => rfl
  | n + 1 => by rw [List.replicate_succ, List.flatten_cons, rep_bys n, List.replicate_succ]; rfl

theorem r_mul {n : Nat} {Q : Value → Shared → Prop} (hn : n ≤ 1000) (h : ∀ t' tk, Q (tx k (List.replicate n 47) t') { s with toks := tk }) : wpAny (model prog w) A (binaryOp .Mult (tx k [47] t) (.int (n : Int) u)) Q E s := by
  cases k with
  | s =>
    refine SB.mul (x := ⟨#[47]⟩) ?_ fun t' tk => ?_
    · have e1 : (⟨#[47]⟩ : Str).length = 1 := rfl
      refine ⟨by simp only [Bool.or_eq_false_iff, decide_eq_false_iff_not]; omega, fun h1 _ => ?_, fun h1 _ => ?_⟩
      · rw [e1]
        have h2 : (n : Int) ≠ 0 := by omega
        intro hc
        have h3 : (1 : Int) ≤ (2 ^ 63 - 1) / (n : Int) := (Int.le_ediv_iff_mul_le (by omega)).mpr (by omega)
        omega
      · rw [e1]
        unfold PySem.Builtin.Str.tooLong
        rw [sizeLine_eq]
        exact decide_eq_false (by omega)
    · have e : Txt.mul ⟨#[47]⟩ (n : Int) = ⟨(List.replicate n 47).toArray⟩ := by
        unfold Txt.mul
        by_cases h1 : (n : Int) < 1
        · rw [if_pos h1]
          have : n = 0 := by omega
          subst this; rfl
        · rw [if_neg h1]
          by_cases h2 : n = 1
          · subst h2; rfl
          · rw [if_neg]
            · rw [Int.toNat_natCast, rep_one]; simp
            · simp only [Bool.or_eq_true, beq_iff_eq, not_or]
              exact ⟨by omega, by show ¬ (1 = 0); decide⟩
      rw [e]; exact h t' tk
  | b =>
    refine bytes_mul_any (b := [47]) (by simp) (by omega) (by omega) (by decide) fun t' tk => ?_
    have e : (List.replicate (n : Int).toNat [(47 : UInt8)]).flatten = bys (List.replicate n 47) := by rw [Int.toNat_natCast, rep_bys]
    rw [e]; exact h t' tk

/-! slices -/
theorem slice_txt (l : List Nat) (lo hi : Option Int) :
    Txt.slice ⟨l.toArray⟩ lo hi = ⟨((l.drop (lo.elim 0 (clipAt l.length))).take (hi.elim l.length (clipAt l.length) - lo.elim 0 (clipAt l.length))).toArray⟩ := by
  have hlen : (⟨l.toArray⟩ : Str).length = l.length := by show l.toArray.size = _; simp
  have hidx : Builtin.Str.strSliceIndices lo hi 1 l.length = (List.range (hi.elim l.length (clipAt l.length) - lo.elim 0 (clipAt l.length))).map (lo.elim 0 (clipAt l.length) + ·) := by
    rw [← sliceRange_one]
    unfold Builtin.Str.strSliceIndices
    cases lo <;> cases hi <;> simp [clipAt_cast]
  have hpick : (Builtin.Str.strSliceIndices lo hi 1 l.length).filterMap (l.toArray[·]?) = (l.drop (lo.elim 0 (clipAt l.length))).take (hi.elim l.length (clipAt l.length) - lo.elim 0 (clipAt l.length)) := by
    rw [hidx, pick_run]
  unfold Txt.slice
  rw [hlen]
  split
  · rename_i hc
    simp only [beq_self_eq_true, Bool.true_and, beq_iff_eq] at hc
    apply congrArg Str.mk
    apply congrArg
    have h1 := congrArg List.length hpick
    have h2 : ((Builtin.Str.strSliceIndices lo hi 1 l.length).filterMap (l.toArray[·]?)).length = l.length := by
      rw [hidx] at hc ⊢
      rw [pick_run]
      simp only [List.length_map, List.length_range] at hc
      simp only [List.length_take, List.length_drop]
      have c1 : lo.elim 0 (clipAt l.length) ≤ l.length := by
        cases lo with
        | none => exact Nat.zero_le _
        | some i => show clipAt l.length i ≤ _; have := clipAt_cast l.length i; omega
      have c2 : hi.elim l.length (clipAt l.length) ≤ l.length := by
        cases hi with
        | none => exact Nat.le_refl _
        | some i => show clipAt l.length i ≤ _; have := clipAt_cast l.length i; omega
      have e3 : l.toArray.toList.length = l.length := by simp
      omega
    rw [h2] at h1
    have h3 : ((l.drop (lo.elim 0 (clipAt l.length))).take (hi.elim l.length (clipAt l.length) - lo.elim 0 (clipAt l.length))).Sublist l := (List.take_sublist _ _).trans (List.drop_sublist _ _)
    exact (h3.eq_of_length h1.symm).symm
  · rw [hpick]

theorem bys_slice (l : List Nat) (a b : Nat) : bys ((l.drop a).take b) = ((bys l).drop a).take b := by simp [bys, List.map_take, List.map_drop]

theorem r_slice {value slice : PySem.Expr} {h₀ : Heap} {L : Addr} {m : Str → Option Value} {news : List (Addr × Obj)} {vl vu : Value} {lo hi : Option Int} {r : List Nat} {Q : Value → Shared → Prop}
    (hF : Fr h₀ L s.heap m) (hN : News h₀ L s.heap news) (ok : Ok l) (hl : IsPart vl lo) (hu : IsPart vu hi)
    (e : (l.drop (lo.elim 0 (clipAt l.length))).take (hi.elim l.length (clipAt l.length) - lo.elim 0 (clipAt l.length)) = r)
    (h : ∀ h' t' tk, Fr h₀ L h' m → News h₀ L h' news → Q (tx k r t') { s with heap := h', toks := tk })
    (hs : ∀ v, subscripted slice false v (.ref s.heap.objs.size) = operate [.ref s.heap.objs.size, v] (getItem v (.ref s.heap.objs.size)) := by intro _; with_unfolding_all rfl)
    (ht : ∀ v r, letTemporaryGo value v r = pure () := by intro _ _; with_unfolding_all rfl) :
    wpAny (model prog w) A (subscriptTail value slice (tx k l t) (.ref s.heap.objs.size)) Q E { s with heap := s.heap.push { cls := .type "slice", data := .fields #[vl, vu, .none] } } := by
  subst e
  have hz := ok.len
  cases k with
  | s =>
    have hsz : (⟨l.toArray⟩ : Str).length ≤ sizeLine := by rw [sizeLine_eq]; show l.toArray.size ≤ _; simp; omega
    cases hl <;> cases hu
    · refine slice_strN_nn (x := ⟨l.toArray⟩) hF hN (fun h' t' k' F' N' => ?_) (hs _) (ht _) hsz
      rw [slice_txt]; exact h _ _ _ F' N'
    · refine slice_strN_ns (x := ⟨l.toArray⟩) hF hN (fun h' t' k' F' N' => ?_) (hs _) (ht _) hsz
      rw [slice_txt]; exact h _ _ _ F' N'
    · refine slice_strN_sn (x := ⟨l.toArray⟩) hF hN (fun h' t' k' F' N' => ?_) (hs _) (ht _) hsz
      rw [slice_txt]; exact h _ _ _ F' N'
    · refine slice_strN_ss (x := ⟨l.toArray⟩) hF hN (fun h' t' k' F' N' => ?_) (hs _) (ht _) hsz
      rw [slice_txt]; exact h _ _ _ F' N'
  | b =>
    refine tail_of_ItemOn ⟨"bytes", _, FB.slot_bytes_getitem.lookup, typeIs_bytes _ _ _, getItem_meets (typeIs_bytes _ _ _) (by decide) FB.slot_bytes_getitem FB.entry_bytes_getitem (FB.args_bytes_getitem_2 _ _) (KBc.meets_slice2 (bys l).toArray t _ hl hu)
      ⟨Heap.IsSliceOf.new _ _ _ _, Nat.le_trans (KBc.size_picked_le _ lo hi) (by rw [sizeLine_eq]; simp [bys_len]; omega), fun t' k' => ?_⟩⟩ (hs _) (ht _)
    have := h (s.heap.push { cls := .type "slice", data := .fields #[vl, vu, .none] }) t' k' (hF.push _) (News.pushKeep hN _)
    rw [KBc.picked_eq]
    simp only [tx, bys_slice] at this
    simpa [bys_len] using this

/-! types -/
theorem subIn_nil (a b : Kd) : kitOne [] (.type a.nm) (.type b.nm) = some (match a, b with | .s, .s => true | .b, .b => true | _, _ => false) := by
  cases a <;> cases b <;> kernel_rfl
theorem in_nil (h : Heap) : Frag.In [] h := fun _ _ e => nomatch e
def Kd.eqb : Kd → Kd → Bool | .s, .s => true | .b, .b => true | _, _ => false
theorem r_isi {k' : Kd} {Q : Value → Shared → Prop} (h : ∀ tk, Q (.bool (k.eqb k')) { s with toks := tk }) :
    wpAny (model prog w) A (call (.builtin "isinstance") [tx k l t, .type k'.nm]) Q E s := by
  cases k with
  | s => exact kia_one (K := []) kitx_str (in_nil _) trivial (by cases k' <;> kernel_rfl) (fun e => nomatch e) h
  | b => exact kia_one (K := []) kitx_bytes (in_nil _) trivial (by cases k' <;> kernel_rfl) (fun e => nomatch e) h
end
end
section
section
variable {prog : Program} {w : World} {A : Around} {E : Value → Shared → Prop} {s : Shared} {k : Kd} {l l' : List Nat} {t u : Tok}

theorem r_type {Q : Value → Shared → Prop} (h : Q (.type k.nm) s) : wpAny (model prog w) A (call (.type "type") [tx k l t]) Q E s :=
  call_type_of (tx_typeIs s) (by cases k <;> decide +kernel) h

theorem meta_s : typeOf (.type "str") = pure (.type "type") := kitMeta_of (by decide +kernel)
theorem meta_b : typeOf (.type "bytes") = pure (.type "type") := kitMeta_of (by decide +kernel)
theorem sub_ss : isSubtype (.type "str") (.type "str") = pure true := by rw [isSubtype_type]; kernel_rfl
theorem sub_bs : isSubtype (.type "bytes") (.type "str") = pure false := by rw [isSubtype_type]; kernel_rfl
theorem sub_bb : isSubtype (.type "bytes") (.type "bytes") = pure true := by rw [isSubtype_type]; kernel_rfl
theorem sub_tt : isSubtype (.type "tuple") (.type "tuple") = pure true := by rw [isSubtype_type]; kernel_rfl
theorem plain_issub_nested : plainId "issubclass.nested" = true := by decide +kernel
theorem kind_issub_nested : builtinKind "issubclass.nested" = none := by decide +kernel
theorem args_issub_nested (a b c : Value) : argsOk "issubclass.nested" ⟨[a, b, c], []⟩ := by unfold argsOk; kernel_rfl

theorem issub_leaf {a c : String} {r : Bool} {dep : Int} {tk : Tok} (hm : typeOf (.type c) = pure (.type "type")) (hs : isSubtype (.type a) (.type c) = pure r) :
    Meets (Builtin.«issubclass.nested» ⟨[.type a, .type c, .int dep tk], []⟩) (fun _ R s => R (.ok (.ret (.bool r))) s) := by
  refine .of_wp fun prog w A R s h => ?_
  repeat (any_goals (first | assumption | (rw [hs]) | wp_step))
  exact ⟨_, rfl, h⟩

theorem issub_tup {tp : Addr} {its : List Value} (hi : its = [Value.type "str", Value.type "bytes"]) (tk : Tok) :
    Meets (Builtin.«issubclass.nested» ⟨[.type k.nm, .ref tp, .int 0 tk], []⟩)
      (fun _ R s => s.heap.get? tp = some { cls := .type "tuple", data := .seq its.toArray } ∧ R (.ok (.ret (.bool true))) s) := by
  intro prog w A R s hs
  obtain ⟨ht, h⟩ := hs
  obtain ⟨h0, g, d, tt, os⟩ := s
  have hT : (⟨h0, g, d, tt, os⟩ : Shared).TypeIs (.ref tp) "tuple" := ⟨_, ht, rfl⟩
  have f1 := F.isi_sub_tuple
  repeat (any_goals (first | assumption | wp_step))
  refine wpAny_arrayLoop ?_
  simp only [Option.getD_some, List.toList_toArray, hi]
  rw [List.forIn_cons]
  cases k with
  | s =>
    refine wpAny_bind (wpAny_bind (call_function_meets kind_issub_nested plain_issub_nested F.entry_issubclass_nested (args_issub_nested _ _ _) (issub_leaf meta_s sub_ss) ?_))
    repeat (any_goals (first | assumption | wp_step))
  | b =>
    refine wpAny_bind (wpAny_bind (call_function_meets kind_issub_nested plain_issub_nested F.entry_issubclass_nested (args_issub_nested _ _ _) (issub_leaf meta_s sub_bs) ?_))
    refine wpAny_bind (m := truthy (.bool false)) (wpAny_pure ?_)
    refine wpAny_pure ?_
    dsimp only
    rw [List.forIn_cons]
    refine wpAny_bind (wpAny_bind (call_function_meets kind_issub_nested plain_issub_nested F.entry_issubclass_nested (args_issub_nested _ _ _) (issub_leaf meta_b sub_bb) ?_))
    repeat (any_goals (first | assumption | wp_step))

theorem r_issub {tp : Addr} {Q : Value → Shared → Prop} (ht : s.heap.get? tp = some { cls := .type "tuple", data := .seq [Value.type "str", Value.type "bytes"].toArray }) (h : Q (.bool true) s) :
    wpAny (model prog w) A (call (.builtin "issubclass") [.type k.nm, .ref tp]) Q E s :=
  call_issubclass (S := fun _ R s => s.heap.get? tp = some { cls := .type "tuple", data := .seq [Value.type "str", Value.type "bytes"].toArray } ∧ R (.ok (.ret (.bool true))) s)
    (fun prog w A R s₁ hs => issubclass_outer (issub_tup rfl 0 prog w A R s₁ hs)) ⟨ht, h⟩
end
end
section
/-! the methods -/
inductive Mt | starts | ends | rfind | rstrip | split | join
def mid : Kd → Mt → String
  | .s, .starts => "str.startswith" | .s, .ends => "str.endswith" | .s, .rfind => "str.rfind" | .s, .rstrip => "str.rstrip" | .s, .split => "str.split" | .s, .join => "str.join"
  | .b, .starts => "bytes.startswith" | .b, .ends => "bytes.endswith" | .b, .rfind => "bytes.rfind" | .b, .rstrip => "bytes.rstrip" | .b, .split => "bytes.split" | .b, .join => "bytes.join"
namespace FX
theorem slot_rfind : Slot "bytes" "rfind" "bytes.rfind" :=
  .of (owner := "bytes") (n := "rfind") (by rw [typeLookup_type, builtinLookup_eq_fast]; kernel_rfl) (by decide +kernel) (by decide +kernel) (by decide +kernel)
    (by first | exact .inl (by decide +kernel) | exact .inr (by decide +kernel)) (by rw [isSubtype_type]; kernel_rfl)
theorem type_rfind : typeOf (.builtin "bytes.rfind") = pure (.type "method_descriptor") := by show builtinType _ = _; rw [builtinType_eq_fast]; kernel_rfl
theorem entry_rfind : entryFor table "bytes.rfind" = some Builtin.«bytes.rfind» := by first | exact entryFor_of_tree (by kernel_rfl) | exact entryFor_of_fast (by kernel_rfl)
theorem args_rfind (a b : Value) : argsOk "bytes.rfind" ⟨[a, b], []⟩ := by
  unfold argsOk; rw [signature?_of (id := "bytes.rfind") (n := ['d', 'n', 'i', 'f', 'r']) (o := ['s', 'e', 't', 'y', 'b']) (by kernel_rfl) FB.owner_bytes]; kernel_rfl
theorem slot_rstrip : Slot "bytes" "rstrip" "bytes.rstrip" :=
  .of (owner := "bytes") (n := "rstrip") (by rw [typeLookup_type, builtinLookup_eq_fast]; kernel_rfl) (by decide +kernel) (by decide +kernel) (by decide +kernel)
    (by first | exact .inl (by decide +kernel) | exact .inr (by decide +kernel)) (by rw [isSubtype_type]; kernel_rfl)
theorem type_rstrip : typeOf (.builtin "bytes.rstrip") = pure (.type "method_descriptor") := by show builtinType _ = _; rw [builtinType_eq_fast]; kernel_rfl
theorem entry_rstrip : entryFor table "bytes.rstrip" = some Builtin.«bytes.rstrip» := by first | exact entryFor_of_tree (by kernel_rfl) | exact entryFor_of_fast (by kernel_rfl)
theorem args_rstrip (a b : Value) : argsOk "bytes.rstrip" ⟨[a, b], []⟩ := by
  unfold argsOk; rw [signature?_of (id := "bytes.rstrip") (n := ['p', 'i', 'r', 't', 's', 'r']) (o := ['s', 'e', 't', 'y', 'b']) (by kernel_rfl) FB.owner_bytes]; kernel_rfl
theorem slot_split : Slot "bytes" "split" "bytes.split" :=
  .of (owner := "bytes") (n := "split") (by rw [typeLookup_type, builtinLookup_eq_fast]; kernel_rfl) (by decide +kernel) (by decide +kernel) (by decide +kernel)
    (by first | exact .inl (by decide +kernel) | exact .inr (by decide +kernel)) (by rw [isSubtype_type]; kernel_rfl)
theorem type_split : typeOf (.builtin "bytes.split") = pure (.type "method_descriptor") := by show builtinType _ = _; rw [builtinType_eq_fast]; kernel_rfl
theorem entry_split : entryFor table "bytes.split" = some Builtin.«bytes.split» := by first | exact entryFor_of_tree (by kernel_rfl) | exact entryFor_of_fast (by kernel_rfl)
theorem args_split (a b : Value) : argsOk "bytes.split" ⟨[a, b], []⟩ := by
  unfold argsOk; rw [signature?_of (id := "bytes.split") (n := ['t', 'i', 'l', 'p', 's']) (o := ['s', 'e', 't', 'y', 'b']) (by kernel_rfl) FB.owner_bytes]; kernel_rfl
theorem slot_join : Slot "bytes" "join" "bytes.join" :=
  .of (owner := "bytes") (n := "join") (by rw [typeLookup_type, builtinLookup_eq_fast]; kernel_rfl) (by decide +kernel) (by decide +kernel) (by decide +kernel)
    (by first | exact .inl (by decide +kernel) | exact .inr (by decide +kernel)) (by rw [isSubtype_type]; kernel_rfl)
theorem type_join : typeOf (.builtin "bytes.join") = pure (.type "method_descriptor") := by show builtinType _ = _; rw [builtinType_eq_fast]; kernel_rfl
theorem entry_join : entryFor table "bytes.join" = some Builtin.«bytes.join» := by first | exact entryFor_of_tree (by kernel_rfl) | exact entryFor_of_fast (by kernel_rfl)
theorem args_join (a b : Value) : argsOk "bytes.join" ⟨[a, b], []⟩ := by
  unfold argsOk; rw [signature?_of (id := "bytes.join") (n := ['n', 'i', 'o', 'j']) (o := ['s', 'e', 't', 'y', 'b']) (by kernel_rfl) FB.owner_bytes]; kernel_rfl
end FX
section
variable {M : Model} {A : Around} {E : Value → Shared → Prop} {s : Shared} {k : Kd} {l : List Nat} {t : Tok} {pl : Sem Bool} {Q : Value × List Value → Shared → Prop}
theorem noRefB {x : Array UInt8} : ∀ a, Value.bytes x t = .ref a → ∃ o, s.heap.get? a = some o ∧ o.dict = none := fun _ e => nomatch e
theorem g_startswith (h : Q (.builtin (mid k .starts), [tx k l t]) s) : wpAny M A (getMethod (tx k l t) "startswith" pl) Q E s := by
  cases k with
  | s =>
    have h' : Q (.builtin "str.startswith", [.str ⟨l.toArray⟩ t]) s := h
    have r : wpAny M A (getMethod (.str ⟨l.toArray⟩ t) "startswith" pl) Q E s := by with_reducible exact GM.startswith h'
    exact r
  | b =>
    have h' : Q (.builtin "bytes.startswith", [.bytes (bys l).toArray t]) s := h
    have r : wpAny M A (getMethod (.bytes (bys l).toArray t) "startswith" pl) Q E s := by with_reducible exact getMethod_builtin (typeIs_bytes _ _ _) FB.plainAttrs_bytes FB.slot_bytes_startswith FB.type_bytes_startswith noRefB h'
    exact r
theorem g_endswith (h : Q (.builtin (mid k .ends), [tx k l t]) s) : wpAny M A (getMethod (tx k l t) "endswith" pl) Q E s := by
  cases k with
  | s =>
    have h' : Q (.builtin "str.endswith", [.str ⟨l.toArray⟩ t]) s := h
    have r : wpAny M A (getMethod (.str ⟨l.toArray⟩ t) "endswith" pl) Q E s := by with_reducible exact GM.endswith h'
    exact r
  | b =>
    have h' : Q (.builtin "bytes.endswith", [.bytes (bys l).toArray t]) s := h
    have r : wpAny M A (getMethod (.bytes (bys l).toArray t) "endswith" pl) Q E s := by with_reducible exact getMethod_builtin (typeIs_bytes _ _ _) FB.plainAttrs_bytes FB.slot_bytes_endswith FB.type_bytes_endswith noRefB h'
    exact r
theorem g_rfind (h : Q (.builtin (mid k .rfind), [tx k l t]) s) : wpAny M A (getMethod (tx k l t) "rfind" pl) Q E s := by
  cases k with
  | s =>
    have h' : Q (.builtin "str.rfind", [.str ⟨l.toArray⟩ t]) s := h
    have r : wpAny M A (getMethod (.str ⟨l.toArray⟩ t) "rfind" pl) Q E s := by with_reducible exact GM.rfind h'
    exact r
  | b =>
    have h' : Q (.builtin "bytes.rfind", [.bytes (bys l).toArray t]) s := h
    have r : wpAny M A (getMethod (.bytes (bys l).toArray t) "rfind" pl) Q E s := by with_reducible exact getMethod_builtin (typeIs_bytes _ _ _) FB.plainAttrs_bytes FX.slot_rfind FX.type_rfind noRefB h'
    exact r
theorem g_rstrip (h : Q (.builtin (mid k .rstrip), [tx k l t]) s) : wpAny M A (getMethod (tx k l t) "rstrip" pl) Q E s := by
  cases k with
  | s =>
    have h' : Q (.builtin "str.rstrip", [.str ⟨l.toArray⟩ t]) s := h
    have r : wpAny M A (getMethod (.str ⟨l.toArray⟩ t) "rstrip" pl) Q E s := by with_reducible exact GM.rstrip h'
    exact r
  | b =>
    have h' : Q (.builtin "bytes.rstrip", [.bytes (bys l).toArray t]) s := h
    have r : wpAny M A (getMethod (.bytes (bys l).toArray t) "rstrip" pl) Q E s := by with_reducible exact getMethod_builtin (typeIs_bytes _ _ _) FB.plainAttrs_bytes FX.slot_rstrip FX.type_rstrip noRefB h'
    exact r
theorem g_split (h : Q (.builtin (mid k .split), [tx k l t]) s) : wpAny M A (getMethod (tx k l t) "split" pl) Q E s := by
  cases k with
  | s =>
    have h' : Q (.builtin "str.split", [.str ⟨l.toArray⟩ t]) s := h
    have r : wpAny M A (getMethod (.str ⟨l.toArray⟩ t) "split" pl) Q E s := by with_reducible exact GM.split h'
    exact r
  | b =>
    have h' : Q (.builtin "bytes.split", [.bytes (bys l).toArray t]) s := h
    have r : wpAny M A (getMethod (.bytes (bys l).toArray t) "split" pl) Q E s := by with_reducible exact getMethod_builtin (typeIs_bytes _ _ _) FB.plainAttrs_bytes FX.slot_split FX.type_split noRefB h'
    exact r
theorem g_join (h : Q (.builtin (mid k .join), [tx k l t]) s) : wpAny M A (getMethod (tx k l t) "join" pl) Q E s := by
  cases k with
  | s =>
    have h' : Q (.builtin "str.join", [.str ⟨l.toArray⟩ t]) s := h
    have r : wpAny M A (getMethod (.str ⟨l.toArray⟩ t) "join" pl) Q E s := by with_reducible exact GM.join h'
    exact r
  | b =>
    have h' : Q (.builtin "bytes.join", [.bytes (bys l).toArray t]) s := h
    have r : wpAny M A (getMethod (.bytes (bys l).toArray t) "join" pl) Q E s := by with_reducible exact getMethod_builtin (typeIs_bytes _ _ _) FB.plainAttrs_bytes FX.slot_join FX.type_join noRefB h'
    exact r
end
end
section
/-! startswith, endswith -/
theorem starts_txt (l : List Nat) : Txt.startswith ⟨l.toArray⟩ ⟨#[47]⟩ = (l.head? == some 47) := by
  unfold Txt.startswith
  rw [StrLaws.subAt_eq]
  cases l with
  | nil => rfl
  | cons a r =>
    have e : (decide (0 + (⟨#[47]⟩ : Str).length ≤ (⟨(a :: r).toArray⟩ : Str).length)) = true := decide_eq_true (by show 0 + 1 ≤ (a :: r).toArray.size; simp)
    rw [e]
    show (true && ([a] == [47])) = (some a == some 47)
    rw [Bool.true_and, Bool.eq_iff_iff]
    simp
theorem ends_txt (l : List Nat) : Txt.endswith ⟨l.toArray⟩ ⟨#[47]⟩ = (l.getLast? == some 47) := by
  unfold Txt.endswith
  rw [StrLaws.subAt_eq]
  rcases List.eq_nil_or_concat l with rfl | ⟨r, a, rfl⟩
  · rfl
  · have e : (decide (0 + (⟨#[47]⟩ : Str).length ≤ (⟨(r.concat a).toArray⟩ : Str).length)) = true := decide_eq_true (by show 0 + 1 ≤ (r.concat a).toArray.size; simp)
    rw [e, Bool.true_and]
    have e2 : (⟨(r.concat a).toArray⟩ : Str).length - (⟨#[47]⟩ : Str).length = r.length := by show (r.concat a).toArray.size - 1 = _; simp
    rw [e2]
    show (((r.concat a).drop r.length).take 1 == [47]) = _
    rw [List.concat_eq_append, List.drop_left, Bool.eq_iff_iff]
    simp
theorem sub_bt : isSubtype (.type "bytes") (.type "tuple") = pure false := by rw [isSubtype_type]; kernel_rfl
section
variable {b c : Array UInt8} {t u : Tok}
theorem gives_starts : Gives (Builtin.«bytes.startswith» ⟨[.bytes b t, .bytes c u], []⟩) (.val (.bool (if ((b.size : Int) - 0 < c.size) then false else b.extract 0 (0 + c.size) == c))) := by
  refine .of_wp fun M A E s Q hq => ?_
  unfold Builtin.«bytes.startswith» Builtin.Bytes.tailMatchM
  refine wpAny_bind (wpAny_of_eq (a := (Value.bytes b t, [Value.bytes c u])) rfl ?_)
  refine wpAny_bind (wpAny_of_eq (a := none) rfl ?_)
  refine wpAny_bind (wpAny_of_eq (a := none) rfl ?_)
  refine wpAny_bind (wpAny_of_eq (a := b) rfl ?_)
  refine wpAny_bind (wpAny_isInstance (typeIs_bytes s c u) sub_bt ?_)
  refine bm_if_false rfl ?_
  refine wpAny_bind (wpAny_of_eq KBy.buffer_eq ?_)
  refine wpAny_pure ⟨_, rfl, ?_⟩
  have h1 : ¬ (b.size : Int) < 0 := by omega
  have h2 : min (b.size : Int) (b.size : Int) = b.size := by omega
  simp only [Option.getD_none, h1, h2, if_false, Int.lt_irrefl, Int.toNat_zero, Int.toNat_natCast, Bool.false_eq_true, if_true]
  exact hq
theorem gives_ends : Gives (Builtin.«bytes.endswith» ⟨[.bytes b t, .bytes c u], []⟩) (.val (.bool (if ((b.size : Int) - 0 < c.size) then false else b.extract (b.size - c.size) b.size == c))) := by
  refine .of_wp fun M A E s Q hq => ?_
  unfold Builtin.«bytes.endswith» Builtin.Bytes.tailMatchM
  refine wpAny_bind (wpAny_of_eq (a := (Value.bytes b t, [Value.bytes c u])) rfl ?_)
  refine wpAny_bind (wpAny_of_eq (a := none) rfl ?_)
  refine wpAny_bind (wpAny_of_eq (a := none) rfl ?_)
  refine wpAny_bind (wpAny_of_eq (a := b) rfl ?_)
  refine wpAny_bind (wpAny_isInstance (typeIs_bytes s c u) sub_bt ?_)
  refine bm_if_false rfl ?_
  refine wpAny_bind (wpAny_of_eq KBy.buffer_eq ?_)
  refine wpAny_pure ⟨_, rfl, ?_⟩
  have h1 : ¬ (b.size : Int) < 0 := by omega
  have h2 : min (b.size : Int) (b.size : Int) = b.size := by omega
  simp only [Option.getD_none, h1, h2, if_false, Int.lt_irrefl, Int.toNat_zero, Int.toNat_natCast, Bool.false_eq_true, if_true]
  exact hq
end
theorem starts_bys {l : List Nat} (ok : Ok l) : (if (((bys l).toArray.size : Int) - 0 < (#[(47 : UInt8)]).size) then false else (bys l).toArray.extract 0 (0 + (#[(47 : UInt8)]).size) == #[47]) = (l.head? == some 47) := by
  cases l with
  | nil => rfl
  | cons a r =>
    have ha := ok.lt a (.head _)
    rw [if_neg (by simp [bys]; omega)]
    have e : (bys (a :: r)).toArray.extract 0 (0 + (#[(47 : UInt8)]).size) = #[Nat.toUInt8 a] := by simp [bys]
    rw [e, Bool.eq_iff_iff]
    simp only [beq_iff_eq, List.head?_cons, Option.some.injEq]
    constructor
    · intro h
      have h' : Nat.toUInt8 a = Nat.toUInt8 47 := by simpa using congrArg Array.toList h
      exact toUInt8_inj ha (by decide) h'
    · rintro rfl; rfl
theorem ends_bys {l : List Nat} (ok : Ok l) : (if (((bys l).toArray.size : Int) - 0 < (#[(47 : UInt8)]).size) then false else (bys l).toArray.extract ((bys l).toArray.size - (#[(47 : UInt8)]).size) (bys l).toArray.size == #[47]) = (l.getLast? == some 47) := by
  rcases List.eq_nil_or_concat l with rfl | ⟨r, a, rfl⟩
  · rfl
  · have ha := ok.lt a (by simp)
    rw [if_neg (by simp [bys]; omega)]
    have e : (bys (r.concat a)).toArray.extract ((bys (r.concat a)).toArray.size - (#[(47 : UInt8)]).size) (bys (r.concat a)).toArray.size = #[Nat.toUInt8 a] := by
      apply Array.ext'
      simp [bys]
    rw [e, Bool.eq_iff_iff]
    simp only [beq_iff_eq, List.concat_eq_append, List.getLast?_append, List.getLast?_singleton, Option.some_or, Option.some.injEq]
    constructor
    · intro h
      have h' : Nat.toUInt8 a = Nat.toUInt8 47 := by simpa using congrArg Array.toList h
      exact toUInt8_inj ha (by decide) h'
    · rintro rfl; rfl
section
variable {prog : Program} {w : World} {A : Around} {E : Value → Shared → Prop} {s : Shared} {k : Kd} {l l' : List Nat} {t u : Tok} {Q : Value → Shared → Prop}
theorem r_starts (ok : Ok l) (h : Q (.bool (l.head? == some 47)) s) : wpAny (model prog w) A (call (.builtin (mid k .starts)) [tx k l t, tx k [47] u]) Q E s := by
  cases k with
  | s => exact SC.startswith (x := ⟨l.toArray⟩) (y := ⟨#[47]⟩) (by rw [starts_txt]; exact h)
  | b => exact call_gives FB.slot_bytes_startswith (typeIs_bytes _ _ _) FB.entry_bytes_startswith (FB.args_bytes_startswith_2 _ _) gives_starts (show Q (.bool _) s by rw [show (bys [47]).toArray = #[(47 : UInt8)] from rfl, starts_bys ok]; exact h)
theorem r_ends (ok : Ok l) (h : Q (.bool (l.getLast? == some 47)) s) : wpAny (model prog w) A (call (.builtin (mid k .ends)) [tx k l t, tx k [47] u]) Q E s := by
  cases k with
  | s => exact SC.endswith (x := ⟨l.toArray⟩) (y := ⟨#[47]⟩) (by rw [ends_txt]; exact h)
  | b => exact call_gives FB.slot_bytes_endswith (typeIs_bytes _ _ _) FB.entry_bytes_endswith (FB.args_bytes_endswith_2 _ _) gives_ends (show Q (.bool _) s by rw [show (bys [47]).toArray = #[(47 : UInt8)] from rfl, ends_bys ok]; exact h)
end

/-! rfind -/
theorem rev_find (p : Nat → Bool) : ∀ n, ((List.range n).reverse.find? p = none ∧ ∀ j < n, p j = false) ∨ ∃ i, i < n ∧ (List.range n).reverse.find? p = some i ∧ p i = true ∧ ∀ j, i < j → j < n → p j = false
  | 0 => .inl ⟨rfl, fun j h => absurd h (Nat.not_lt_zero _)⟩
  | n + 1 => by
    rw [List.range_succ, List.reverse_append]
    show (List.find? p (n :: (List.range n).reverse) = none ∧ _) ∨ ∃ i, i < n + 1 ∧ List.find? p (n :: (List.range n).reverse) = some i ∧ _
    cases hp : p n with
    | true => exact .inr ⟨n, Nat.lt_succ_self _, by rw [List.find?_cons, hp], hp, fun j h1 h2 => by omega⟩
    | false =>
      rw [List.find?_cons, hp]
      rcases rev_find p n with ⟨h1, h2⟩ | ⟨i, h1, h2, h3, h4⟩
      · exact .inl ⟨h1, fun j hj => by
          rcases Nat.lt_or_ge j n with h | h
          · exact h2 j h
          · rw [show j = n by omega, hp]⟩
      · exact .inr ⟨i, by omega, h2, h3, fun j hj1 hj2 => by
          rcases Nat.lt_or_ge j n with h | h
          · exact h4 j hj1 h
          · rw [show j = n by omega, hp]⟩

/-- l falls apart behind its last slash -/
structure Cut (l pre last : List Nat) : Prop where
  eq : l = pre ++ last
  free : 47 ∉ last
  pre : pre = [] ∨ ∃ q, pre = q ++ [47]
theorem Cut.at_ {l pre last : List Nat} (c : Cut l pre last) (i : Nat) (hi : l[i]? = some 47) (hn : ∀ j, i < j → l[j]? ≠ some 47) : (i : Int) = (pre.length : Int) - 1 := by
  obtain ⟨rfl, hf, hp⟩ := c
  have h1 : i < pre.length := by
    rcases Nat.lt_or_ge i pre.length with h | h
    · exact h
    · rw [List.getElem?_append_right h] at hi
      exact absurd (List.mem_of_getElem? hi) hf
  rcases hp with rfl | ⟨q, rfl⟩
  · simp at h1
  · rcases Nat.lt_or_ge i q.length with h | h
    · exfalso
      refine hn q.length h ?_
      simp
    · simp at h1 ⊢; omega
theorem Cut.none_ {l pre last : List Nat} (c : Cut l pre last) (hn : ∀ j : Nat, l[j]? ≠ some 47) : pre = [] := by
  obtain ⟨rfl, hf, hp⟩ := c
  rcases hp with rfl | ⟨q, rfl⟩
  · rfl
  · exact absurd (by simp) (hn q.length)
theorem rfind_txt {l pre last : List Nat} (c : Cut l pre last) : Txt.rfind ⟨l.toArray⟩ ⟨#[47]⟩ = (pre.length : Int) - 1 := by
  have at_ : ∀ i, StrLaws.At ⟨l.toArray⟩ ⟨#[47]⟩ (⟨l.toArray⟩ : Str).length i ↔ l[i]? = some 47 := fun i => StrLaws.subAt_one ⟨l.toArray⟩ 47 i
  rcases rfind_whole ⟨l.toArray⟩ ⟨#[47]⟩ with ⟨h, hn⟩ | ⟨i, h, hi, hn⟩
  · rw [h, c.none_ fun j hj => hn j ((at_ j).mpr hj)]; rfl
  · rw [h]; exact c.at_ i ((at_ i).mp hi) fun j hj e => hn j hj ((at_ j).mpr e)
theorem ext_bys {l : List Nat} (ok : Ok l) (i : Nat) : ((bys l).toArray.extract i (i + 1) == #[(47 : UInt8)]) = (l[i]? == some 47) := by
  have e : ((bys l).toArray.extract i (i + 1)).toList = ((bys l).drop i).take 1 := by simp
  rw [Bool.eq_iff_iff, beq_iff_eq, beq_iff_eq]
  constructor
  · intro h
    have h1 := congrArg Array.toList h
    rw [e] at h1
    have h2 : (bys l)[i]? = some 47 := by
      have := congrArg List.head? h1
      rw [List.head?_take, List.head?_drop] at this
      simpa using this
    simp only [bys, List.getElem?_map, Option.map_eq_some_iff] at h2
    obtain ⟨a, ha, h3⟩ := h2
    rw [ha, toUInt8_inj (ok.lt a (List.mem_of_getElem? ha)) (by decide : 47 < 256) h3]
  · intro h
    apply Array.ext'
    rw [e]
    have hlt : i < l.length := (List.getElem?_eq_some_iff.mp h).1
    have h2 : (bys l)[i]? = some 47 := by simp only [bys, List.getElem?_map, h]; rfl
    have hlt2 : i < (bys l).length := by rw [bys_len]; exact hlt
    rw [List.drop_eq_getElem_cons hlt2]
    rw [List.getElem?_eq_getElem hlt2] at h2
    rw [Option.some.inj h2]; rfl
theorem rfind_bys {l pre last : List Nat} (ok : Ok l) (c : Cut l pre last) : ((Builtin.Bytes.rfind? (bys l).toArray #[(47 : UInt8)] 0 (bys l).toArray.size).elim (-1) fun i => (i : Int)) = (pre.length : Int) - 1 := by
  unfold Builtin.Bytes.rfind?
  have e1 : (bys l).toArray.size + 1 - (0 + (#[(47 : UInt8)]).size) = l.length := by simp [bys_len]
  have e2 : (List.map (· + 0) (List.range l.length)) = List.range l.length := by simp
  have e3 : (fun i => (bys l).toArray.extract i (i + (#[(47 : UInt8)]).size) == #[(47 : UInt8)]) = fun i => l[i]? == some 47 := funext fun i => ext_bys ok i
  rw [e1, e2, e3]
  rcases rev_find (fun i => l[i]? == some 47) l.length with ⟨h, hn⟩ | ⟨i, hlt, h, hi, hn⟩
  · rw [h, c.none_ fun j hj => ?_]
    · rfl
    · have := hn j (List.getElem?_eq_some_iff.mp hj).1
      rw [hj] at this; simp at this
  · rw [h]
    refine c.at_ i (by simpa using hi) fun j hj e => ?_
    have := hn j hj (List.getElem?_eq_some_iff.mp e).1
    rw [e] at this; simp at this
end
section
section
variable {b c : Array UInt8} {t u : Tok}
theorem gives_rfind : Gives (Builtin.«bytes.rfind» ⟨[.bytes b t, .bytes c u], []⟩) (.int ((if ((b.size : Int) - 0 < c.size) then none else Builtin.Bytes.rfind? b c 0 b.size).elim (-1) fun i => (i : Int))) := by
  refine .of_wp fun M A E s Q hq => ?_
  unfold Builtin.«bytes.rfind» Builtin.Bytes.searchM Builtin.Bytes.searchArgs
  refine wpAny_bind (wpAny_bind (wpAny_of_eq (a := (Value.bytes b t, [Value.bytes c u])) rfl ?_))
  refine wpAny_bind (wpAny_of_eq (a := none) rfl ?_)
  refine wpAny_bind (wpAny_of_eq (a := none) rfl ?_)
  refine wpAny_bind (wpAny_of_eq KBy.buffer_eq ?_)
  refine wpAny_bind (wpAny_pure ?_)
  refine wpAny_bind (wpAny_of_eq (a := b) rfl ?_)
  refine wpAny_pure ?_
  have h1 : ¬ (b.size : Int) < 0 := by omega
  have h2 : min (b.size : Int) (b.size : Int) = b.size := by omega
  simp only [Option.getD_none, h1, h2, if_false, Int.lt_irrefl, Int.toNat_zero, Int.toNat_natCast, if_true]
  revert hq
  by_cases hc : (b.size : Int) - 0 < c.size
  · simp only [if_pos hc, Option.bind_none]
    intro hq
    exact wpAny_bind (wpAny_rule (wpAny_bind (wpAny_mkInt (wpAny_pure ⟨_, rfl, hq⟩))))
  · simp only [if_neg hc, Option.bind_some]
    cases Builtin.Bytes.rfind? b c 0 b.size with
    | none => intro hq; exact wpAny_bind (wpAny_rule (wpAny_bind (wpAny_mkInt (wpAny_pure ⟨_, rfl, hq⟩))))
    | some i => intro hq; exact wpAny_bind (wpAny_mkInt (wpAny_pure ⟨_, rfl, hq⟩))
theorem gives_rstrip : Gives (Builtin.«bytes.rstrip» ⟨[.bytes b t, .bytes c u], []⟩)
    (if ((b.toList.reverse.dropWhile c.contains).reverse.length == b.size) = true then .val (.bytes b t) else .bytes (b.toList.reverse.dropWhile c.contains).reverse.toArray) := by
  refine .of_wp fun M A E s Q hq => ?_
  unfold Builtin.«bytes.rstrip» Builtin.Bytes.stripM
  refine wpAny_bind (wpAny_of_eq (a := (Value.bytes b t, [Value.bytes c u])) rfl ?_)
  refine wpAny_bind (wpAny_bind ?_)
  refine wpAny_of_eq KBy.buffer_eq (wpAny_pure (wpAny_bind (wpAny_pure ?_)))
  refine wpAny_bind (wpAny_of_eq (a := b) rfl ?_)
  simp only [if_true, Bool.false_eq_true, if_false]
  revert hq
  by_cases hc : ((b.toList.reverse.dropWhile c.contains).reverse.length == b.size) = true
  · rw [if_pos hc]
    intro hq
    refine bm_if_true hc ?_
    refine wpAny_bind (wpAny_rule ?_)
    refine wpAny_bind (wpAny_bind (wpAny_typeOf (typeIs_bytes s b t) ?_))
    exact wpAny_pure (wpAny_pure ⟨_, rfl, hq⟩)
  · rw [if_neg hc]
    intro hq
    refine bm_if_false (Bool.eq_false_iff.mpr hc) ?_
    exact wpAny_bind (wpAny_mkBytes (wpAny_pure ⟨_, rfl, hq.2⟩) hq.1)
end
end
section
/-! the parts between the slashes -/
def sp : List Nat → List (List Nat)
  | [] => [[]]
  | c :: r => if c = 47 then [] :: sp r else match sp r with
    | [] => [[c]]
    | x :: xs => (c :: x) :: xs
def J : List (List Nat) → List Nat
  | [] => []
  | [x] => x
  | x :: y :: r => x ++ 47 :: J (y :: r)
theorem sp_ne : ∀ l, sp l ≠ []
  | [] => by simp [sp]
  | c :: r => by
    unfold sp
    split
    · simp
    · split <;> simp
theorem sp_free : ∀ {l : List Nat}, 47 ∉ l → sp l = [l]
  | [], _ => rfl
  | c :: r, h => by
    have h1 : c ≠ 47 := fun e => h (e ▸ .head _)
    have h2 := sp_free (l := r) fun q => h (.tail _ q)
    unfold sp
    rw [if_neg h1, h2]
theorem sp_cat : ∀ (a b : List Nat), sp (a ++ 47 :: b) = sp a ++ sp b
  | [], b => by
    show sp (47 :: b) = [] :: sp b
    rw [sp, if_pos rfl]
  | c :: r, b => by
    have ih := sp_cat r b
    show sp (c :: (r ++ 47 :: b)) = sp (c :: r) ++ sp b
    rw [sp, sp, ih]
    split
    · rfl
    · cases h : sp r with
      | nil => exact absurd h (sp_ne r)
      | cons x xs => rfl
theorem sp_J : ∀ {ps : List (List Nat)}, ps ≠ [] → (∀ p ∈ ps, 47 ∉ p) → sp (J ps) = ps
  | [], h, _ => absurd rfl h
  | [x], _, h => sp_free (h x (.head _))
  | x :: y :: r, _, h => by
    show sp (x ++ 47 :: J (y :: r)) = _
    rw [sp_cat, sp_free (h x (.head _)), sp_J (List.cons_ne_nil _ _) fun p hp => h p (.tail _ hp)]
    rfl
theorem dl_last : ∀ {xs : List (List Nat)}, xs ≠ [] → xs = xs.dropLast ++ [xs.getLastD []]
  | [], h => absurd rfl h
  | [x], _ => rfl
  | x :: y :: r, _ => by
    have := dl_last (xs := y :: r) (List.cons_ne_nil _ _)
    show x :: y :: r = x :: ((y :: r).dropLast ++ [(y :: r).getLastD []])
    rw [← this]
theorem sp_snoc (l : List Nat) (c : Nat) : sp (l ++ [c]) = if c = 47 then sp l ++ [[]] else (sp l).dropLast ++ [(sp l).getLastD [] ++ [c]] := by
  split
  · rename_i h; subst h; exact sp_cat l []
  · rename_i h
    induction l with
    | nil => simp [sp, h]
    | cons a r ih =>
      show sp (a :: (r ++ [c])) = _
      rw [sp, ih]
      by_cases ha : a = 47
      · rw [if_pos ha]
        have e : sp (a :: r) = [] :: sp r := by rw [sp, if_pos ha]
        simp only [e]
        cases hr : sp r with
        | nil => exact absurd hr (sp_ne r)
        | cons x xs => simp
      · rw [if_neg ha]
        cases hr : sp r with
        | nil => exact absurd hr (sp_ne r)
        | cons x xs =>
          have e : sp (a :: r) = (a :: x) :: xs := by rw [sp, if_neg ha, hr]
          simp only [e]
          cases xs with
          | nil => simp
          | cons y ys => simp
theorem sp_lt {l : List Nat} (h : ∀ c ∈ l, c < 256) : ∀ p ∈ sp l, ∀ c ∈ p, c < 256 := by
  induction l with
  | nil => intro p hp; rw [List.mem_singleton.mp hp]; exact fun _ h => nomatch h
  | cons a r ih =>
    have ih := ih fun c hc => h c (.tail _ hc)
    unfold sp
    split
    · intro p hp
      rcases List.mem_cons.mp hp with rfl | hp
      · exact fun _ h => nomatch h
      · exact ih p hp
    · cases hr : sp r with
      | nil => exact absurd hr (sp_ne r)
      | cons x xs =>
        rw [hr] at ih
        intro p hp
        rcases List.mem_cons.mp hp with rfl | hp
        · intro c hc
          rcases List.mem_cons.mp hc with rfl | hc
          · exact h _ (.head _)
          · exact ih x (.head _) c hc
        · exact ih p (.tail _ hp)
theorem sp_len (l : List Nat) : ∀ p ∈ sp l, p.length ≤ l.length := by
  induction l with
  | nil => intro p hp; rw [List.mem_singleton.mp hp]; exact Nat.le_refl _
  | cons a r ih =>
    unfold sp
    split
    · intro p hp
      rcases List.mem_cons.mp hp with rfl | hp
      · exact Nat.zero_le _
      · exact Nat.le_succ_of_le (ih p hp)
    · cases hr : sp r with
      | nil => exact absurd hr (sp_ne r)
      | cons x xs =>
        rw [hr] at ih
        intro p hp
        rcases List.mem_cons.mp hp with rfl | hp
        · exact Nat.succ_le_succ (ih x (.head _))
        · exact Nat.le_succ_of_le (ih p (.tail _ hp))
theorem sp_count (l : List Nat) : (sp l).length ≤ l.length + 1 := by
  induction l with
  | nil => exact Nat.le_refl _
  | cons a r ih =>
    unfold sp
    split
    · simp only [List.length_cons]; omega
    · cases hr : sp r with
      | nil => exact absurd hr (sp_ne r)
      | cons x xs => rw [hr] at ih; simp only [List.length_cons] at ih ⊢; omega
theorem Ok.sp {l : List Nat} (ok : Ok l) : ∀ p ∈ sp l, Ok p := fun p hp => ⟨sp_lt ok.lt p hp, Nat.le_trans (sp_len l p hp) ok.len⟩

/-! a list's texts -/
inductive TxsAre (k : Kd) : List Value → List (List Nat) → Prop
  | nil : TxsAre k [] []
  | cons {vs ls l t} : TxsAre k vs ls → TxsAre k (tx k l t :: vs) (l :: ls)
theorem TxsAre.length {k : Kd} : ∀ {vs ls}, TxsAre k vs ls → vs.length = ls.length
  | _, _, .nil => rfl
  | _, _, .cons h => by simp [h.length]
theorem TxsAre.app {k : Kd} : ∀ {vs ls vs' ls'}, TxsAre k vs ls → TxsAre k vs' ls' → TxsAre k (vs ++ vs') (ls ++ ls')
  | _, _, _, _, .nil, h => h
  | _, _, _, _, .cons h, h' => .cons (h.app h')
theorem TxsAre.get {k : Kd} : ∀ {vs ls}, TxsAre k vs ls → ∀ (i : Nat) (l : List Nat), ls[i]? = some l → ∃ t, vs[i]? = some (tx k l t)
  | _, _, .nil, _, _, h => by simp at h
  | _, _, .cons (t := t) _, 0, l, h => ⟨t, by simp at h; simp [h]⟩
  | _, _, .cons h, i + 1, l, e => by simpa using h.get i l (by simpa using e)
theorem TxsAre.take {k : Kd} : ∀ {vs ls}, TxsAre k vs ls → ∀ i, TxsAre k (vs.take i) (ls.take i)
  | _, _, .nil, _ => by simp; exact .nil
  | _, _, .cons h, 0 => by simp; exact .nil
  | _, _, .cons h, i + 1 => by simpa using .cons (h.take i)

/-! str.split -/
theorem join_codes : ∀ (ps : List Str), (Str.join ⟨#[47]⟩ ps).cps.toList = J (ps.map (·.cps.toList))
  | [] => rfl
  | [x] => rfl
  | x :: y :: r => by
    have ih := join_codes (y :: r)
    show (x ++ ⟨#[47]⟩ ++ Str.join ⟨#[47]⟩ (y :: r)).cps.toList = _
    rw [Str.cps_append, Str.cps_append, Array.toList_append, Array.toList_append, ih]
    simp [J]
theorem split_ne (x y : Str) : Txt.split x y ≠ [] := by
  unfold Txt.split
  split
  · simp
  · split
    · simp
    · rw [StrLaws.partsBetween_eq]
      generalize Builtin.Str.occurrences x y 0 x.length (x.length + 1) = cuts
      cases cuts <;> simp [StrLaws.partsFrom]
theorem split_txt (l : List Nat) : (Txt.split ⟨l.toArray⟩ ⟨#[47]⟩).map (·.cps.toList) = sp l := by
  have h1 := join_codes (Txt.split ⟨l.toArray⟩ ⟨#[47]⟩)
  rw [StrLaws.join_split] at h1
  have h2 : sp l = sp (J ((Txt.split ⟨l.toArray⟩ ⟨#[47]⟩).map (·.cps.toList))) := by rw [← h1]
  rw [h2, sp_J]
  · simp [split_ne]
  · intro p hp
    obtain ⟨q, hq, rfl⟩ := List.mem_map.mp hp
    exact StrLaws.split_free _ 47 q hq
theorem txs_of_strs : ∀ (l : List (Str × Tok)), TxsAre .s (strValues l) ((l.map (·.1)).map (·.cps.toList))
  | [] => .nil
  | (x, t) :: r => by
    have := TxsAre.cons (k := .s) (l := x.cps.toList) (t := t) (txs_of_strs r)
    simpa [strValues, tx] using this

/-! bytes.split -/
theorem occ_bys {l : List Nat} (ok : Ok l) : Builtin.Bytes.occurrences (bys l).toArray #[(47 : UInt8)] 0 (bys l).toArray.size = (List.range l.length).filter fun i => l[i]? == some 47 := by
  unfold Builtin.Bytes.occurrences
  have e1 : (bys l).toArray.size + 1 - (0 + (#[(47 : UInt8)]).size) = l.length := by simp [bys_len]
  have e2 : (List.map (· + 0) (List.range l.length)) = List.range l.length := by simp
  rw [e1, e2]
  have key : ∀ m, ((List.range m).foldl (fun (acc : List Nat × Nat) (i : Nat) => if i ≥ acc.2 && (bys l).toArray.extract i (i + (#[(47 : UInt8)]).size) == #[(47 : UInt8)] then (i :: acc.1, i + (#[(47 : UInt8)]).size) else acc) ([], 0)).1.reverse = (List.range m).filter (fun i => l[i]? == some 47) ∧
      ((List.range m).foldl (fun (acc : List Nat × Nat) (i : Nat) => if i ≥ acc.2 && (bys l).toArray.extract i (i + (#[(47 : UInt8)]).size) == #[(47 : UInt8)] then (i :: acc.1, i + (#[(47 : UInt8)]).size) else acc) ([], 0)).2 ≤ m := by
    intro m
    induction m with
    | zero => exact ⟨rfl, Nat.le_refl _⟩
    | succ m ih =>
      rw [List.range_succ, List.foldl_append, List.filter_append]
      obtain ⟨ih1, ih2⟩ := ih
      generalize (List.range m).foldl _ (([], 0) : List Nat × Nat) = acc at ih1 ih2 ⊢
      simp only [List.foldl_cons, List.foldl_nil]
      have e3 : ((bys l).toArray.extract m (m + (#[(47 : UInt8)]).size) == #[(47 : UInt8)]) = (l[m]? == some 47) := ext_bys ok m
      rw [e3, decide_eq_true ih2, Bool.true_and]
      by_cases h : (l[m]? == some 47) = true
      · rw [if_pos h]
        simp only [List.reverse_cons, ih1, List.filter_cons, h, if_true, List.filter_nil]
        exact ⟨trivial, Nat.le_refl _⟩
      · rw [if_neg h]
        simp only [ih1, List.filter_cons, h, List.filter_nil]
        exact ⟨by simp, Nat.le_succ_of_le ih2⟩
  exact (key l.length).1
theorem between_bys {l : List Nat} (_ok : Ok l) : (Builtin.Bytes.between (bys l).toArray 1 ((List.range l.length).filter fun i => l[i]? == some 47)) = (sp l).map fun p => (bys p).toArray := by
  unfold Builtin.Bytes.between
  have key : ∀ m, m ≤ l.length → ∃ last, last ≤ m ∧ (((List.range m).filter fun i => l[i]? == some 47).foldl (fun (acc : Array (Array UInt8) × Nat) p => (acc.1.push ((bys l).toArray.extract acc.2 p), p + 1)) ((#[] : Array (Array UInt8)), 0)).2 = last ∧
      ((((List.range m).filter fun i => l[i]? == some 47).foldl (fun (acc : Array (Array UInt8) × Nat) p => (acc.1.push ((bys l).toArray.extract acc.2 p), p + 1)) ((#[] : Array (Array UInt8)), 0)).1.push ((bys l).toArray.extract last m)).toList = (sp (l.take m)).map fun p => (bys p).toArray := by
    intro m
    induction m with
    | zero => intro _; exact ⟨0, Nat.le_refl _, rfl, by simp [sp, bys]⟩
    | succ m ih =>
      intro hm
      obtain ⟨last, h1, h2, h3⟩ := ih (Nat.le_of_succ_le hm)
      have hlt : m < l.length := hm
      have hx : l[m]? = some l[m] := List.getElem?_eq_getElem hlt
      have htake : l.take (m + 1) = l.take m ++ [l[m]] := by rw [List.take_add_one, hx]; rfl
      rw [List.range_succ, List.filter_append, List.foldl_append, htake, sp_snoc]
      generalize ((List.range m).filter fun i => l[i]? == some 47).foldl _ ((#[] : Array (Array UInt8)), 0) = acc at h2 h3 ⊢
      subst h2
      by_cases h47 : l[m] = 47
      · have hb : (l[m]? == some 47) = true := by rw [hx, h47]; rfl
        simp only [List.filter_cons, hb, if_true, List.filter_nil, List.foldl_cons, List.foldl_nil]
        refine ⟨m + 1, Nat.le_refl _, rfl, ?_⟩
        rw [if_pos h47, List.map_append, ← h3]
        simp [bys]
      · have hb : (l[m]? == some 47) = false := by rw [hx]; simp [h47]
        simp only [List.filter_cons, hb, List.filter_nil, List.foldl_nil, Bool.false_eq_true, if_false]
        refine ⟨acc.2, Nat.le_succ_of_le h1, rfl, ?_⟩
        rw [if_neg h47]
        have e : (bys l).toArray.extract acc.2 (m + 1) = (bys l).toArray.extract acc.2 m ++ #[Nat.toUInt8 l[m]] := by
          apply Array.ext'
          have hb2 : (bys l)[m]? = some (Nat.toUInt8 l[m]) := by simp [bys, hx]
          have : m + 1 - acc.2 = (m - acc.2) + 1 := by omega
          simp only [Array.toList_extract, Array.toList_append, List.extract_eq_take_drop]
          rw [this, List.take_add_one, List.getElem?_drop, show acc.2 + (m - acc.2) = m by omega, hb2]
          rfl
        rw [e]
        rw [Array.push_eq_append, Array.toList_append] at h3 ⊢
        have h4 : acc.1.toList ++ [(bys l).toArray.extract acc.2 m] = (sp (l.take m)).map fun p => (bys p).toArray := h3
        have h5 : (sp (l.take m)) = (sp (l.take m)).dropLast ++ [(sp (l.take m)).getLastD []] := dl_last (sp_ne _)
        rw [h5, List.map_append] at h4
        obtain ⟨h6, h7⟩ := List.append_inj' h4 rfl
        rw [List.map_append, ← h6]
        simp only [List.map_cons, List.map_nil, List.cons.injEq, and_true] at h7
        simp only [List.map_cons, List.map_nil]
        rw [h7, bys_app]
        simp [bys]
  obtain ⟨last, h1, h2, h3⟩ := key l.length (Nat.le_refl _)
  have e : ((bys l).toArray).size = l.length := by simp [bys_len]
  rw [List.take_length] at h3
  simp only [e]
  subst h2
  exact h3
end
section
abbrev Kp (h h' : Heap) : Prop := ∀ b o, h.get? b = some o → h'.get? b = some o
abbrev lst (vs : List Value) : Obj := listOf vs.toArray 0
/-- an answer that is a new object -/
abbrev RetN (s : Shared) (Q : Value → Shared → Prop) (P : Obj → Prop) : Prop :=
  ∀ D o h' tk, P o → Kp s.heap h' → s.heap.get? D = none → h'.get? D = some o → Q (.ref D) { s with heap := h', toks := tk }
abbrev Ret (s : Shared) (Q : Value → Shared → Prop) (v : Tok → Value) : Prop := ∀ t h' tk, Kp s.heap h' → Q (v t) { s with heap := h', toks := tk }

def bysFrom : Nat → List (List Nat) → List Value
  | _, [] => []
  | tk, x :: r => .bytes (bys x).toArray tk :: bysFrom (tk + 1) r
theorem bysFrom_are : ∀ (tk : Nat) (ls : List (List Nat)), TxsAre .b (bysFrom tk ls) ls
  | _, [] => .nil
  | tk, x :: r => .cons (k := .b) (l := x) (t := tk) (bysFrom_are (tk + 1) r)
theorem mapM_bytes {M : Model} {A : Around} {E : Value → Shared → Prop} : ∀ (ls : List (List Nat)) (s : Shared) (Q : List Value → Shared → Prop), (∀ p ∈ ls, p.length ≤ 1000) → Q (bysFrom s.toks ls) { s with toks := s.toks + ls.length } →
    wpAny M A ((ls.map fun p => (bys p).toArray).mapM (Builtin.Bytes.Kind.new .bytes)) Q E s
  | [], s, Q, _, h => by rw [List.map_nil, List.mapM_nil]; exact wpAny_pure h
  | a :: r, s, Q, hz, h => by
    rw [List.map_cons, List.mapM_cons]
    refine wpAny_bind (wpAny_mkBytes (wpAny_bind (mapM_bytes r _ _ (fun p hp => hz p (.tail _ hp)) (wpAny_pure ?_))) (by rw [sizeLine_eq]; have := hz a (.head _); simp [bys_len]; omega))
    have e : s.toks + 1 + r.length = s.toks + (a :: r).length := by simp [Nat.add_comm, Nat.add_left_comm]
    show Q (.bytes (bys a).toArray s.toks :: bysFrom (s.toks + 1) r) { s with toks := s.toks + 1 + r.length }
    rw [e]; exact h

theorem bind_split (v : Value) : Builtin.Bytes.bindOptional "bytes.split" "split" ["sep", "maxsplit"] [v] [] = pure [some v, none] := by kernel_rfl
theorem places_nil {l : List Nat} (h : ((List.range l.length).filter fun i => l[i]? == some 47) = []) : 47 ∉ l := by
  intro hm
  obtain ⟨i, hi⟩ := List.getElem?_of_mem hm
  have := List.filter_eq_nil_iff.mp h i (List.mem_range.mpr (List.getElem?_eq_some_iff.mp hi).1)
  rw [hi] at this; simp at this
theorem meets_split {l : List Nat} {t u : Tok} (ok : Ok l) :
    Meets (Builtin.«bytes.split» ⟨[.bytes (bys l).toArray t, .bytes #[47] u], []⟩) (fun _ R s => ∀ vs tk, TxsAre .b vs (sp l) → R (.ok (.ret (.ref s.heap.objs.size))) { s with heap := s.heap.push (lst vs), toks := tk }) := by
  refine .of_wp fun prog w A R s h => ?_
  unfold Builtin.«bytes.split» Builtin.Bytes.splitM
  refine wpAny_bind (wpAny_of_eq (bind_split _) ?_)
  refine wpAny_bind (wpAny_pure ?_)
  refine wpAny_bind (wpAny_of_eq (a := (bys l).toArray) rfl ?_)
  refine wpAny_bind (wpAny_bind (wpAny_of_eq KBy.buffer_eq (wpAny_pure ?_)))
  refine bm_if_false rfl ?_
  have e0 : (if ((-1 : Int) < 0) then (bys l).toArray.size + 1 else (-1 : Int).toNat) = (bys l).toArray.size + 1 := if_pos (by decide)
  have e1 := occ_bys ok
  have e2 : List.take ((bys l).toArray.size + 1) ((List.range l.length).filter fun i => l[i]? == some 47) = (List.range l.length).filter fun i => l[i]? == some 47 := by
    apply List.take_of_length_le
    have := List.length_filter_le (fun i => l[i]? == some 47) (List.range l.length)
    simp [bys_len] at this ⊢; omega
  simp only [e0, e1, e2, Bool.false_eq_true, if_false]
  by_cases hp : ((List.range l.length).filter fun i => l[i]? == some 47) = []
  · refine bm_if_true (by rw [hp]; rfl) ?_
    refine wpAny_bind (wpAny_rule ?_)
    refine wpAny_bind (wpAny_bind (wpAny_typeOf (typeIs_bytes s _ t) ?_))
    refine wpAny_pure ?_
    refine wpAny_bind (wpAny_newList ?_ (by show 1 ≤ sizeLine; decide))
    refine wpAny_pure ⟨_, rfl, h _ s.toks ?_⟩
    rw [sp_free (places_nil hp)]
    exact .cons (k := .b) (l := l) (t := t) .nil
  · refine bm_if_false (by simpa using hp) ?_
    have e3 : (#[(47 : UInt8)]).size = 1 := rfl
    rw [e3, between_bys ok]
    refine wpAny_bind (mapM_bytes _ _ _ (fun p hp => (ok.sp p hp).len) ?_)
    have hc := sp_count l
    have hz := ok.len
    have hl := (bysFrom_are s.toks (sp l)).length
    refine wpAny_bind (wpAny_newList ?_ (by rw [sizeLine_eq, hl]; omega))
    exact wpAny_pure ⟨_, rfl, h _ _ (bysFrom_are _ _)⟩

section
variable {prog : Program} {w : World} {A : Around} {E : Value → Shared → Prop} {s : Shared} {k : Kd} {l l' : List Nat} {t u : Tok} {Q : Value → Shared → Prop}
theorem push_kp (h : Heap) (o : Obj) : Kp h (h.push o) := fun _ _ e => Heap.get?_push_of_some _ e
theorem r_split (ok : Ok l) (h : RetN s Q fun o => ∃ vs, o = lst vs ∧ TxsAre k vs (sp l)) : wpAny (model prog w) A (call (.builtin (mid k .split)) [tx k l t, tx k [47] u]) Q E s := by
  have hz := ok.len
  cases k with
  | s =>
    have e : TxsAre .s (strValues (numbered s.toks (Txt.split ⟨l.toArray⟩ ⟨#[47]⟩))) (sp l) := by
      have := txs_of_strs (numbered s.toks (Txt.split ⟨l.toArray⟩ ⟨#[47]⟩))
      rw [numbered_texts, split_txt] at this
      exact this
    have go : ∀ vs tk, TxsAre .s vs (sp l) → Q (.ref s.heap.objs.size) { s with heap := s.heap.push (lst vs), toks := tk } := fun vs tk hv => h _ _ _ _ ⟨vs, rfl, hv⟩ (push_kp _ _) (Heap.get?_none_of_le (Nat.le_refl _)) (Heap.get?_push_size _ rfl)
    have hsz : (⟨l.toArray⟩ : Str).length ≤ sizeLine := by rw [sizeLine_eq]; show l.toArray.size ≤ _; simp; omega
    have hy : ((⟨#[47]⟩ : Str).length == 0) = false := rfl
    have hone : ∀ hx : Txt.split ⟨l.toArray⟩ ⟨#[47]⟩ = [⟨l.toArray⟩], TxsAre .s [.str ⟨l.toArray⟩ t] (sp l) := fun hx => by
      have := split_txt l
      rw [hx] at this
      rw [← this]
      simpa [tx] using TxsAre.cons (k := .s) (l := l) (t := t) .nil
    show wpAny (model prog w) A (call (.builtin "str.split") [.str ⟨l.toArray⟩ t, .str ⟨#[47]⟩ u]) Q E s
    cases h1 : (decide ((⟨l.toArray⟩ : Str).length < (⟨#[47]⟩ : Str).length) || decide (Builtin.Str.strKind ⟨l.toArray⟩ < Builtin.Str.strKind ⟨#[47]⟩))
    · cases hf : (Builtin.Str.occurrences ⟨l.toArray⟩ ⟨#[47]⟩ 0 (⟨l.toArray⟩ : Str).length ((⟨l.toArray⟩ : Str).length + 1)).isEmpty
      · have hx : Txt.split ⟨l.toArray⟩ ⟨#[47]⟩ = Builtin.Str.partsBetween ⟨l.toArray⟩ (Builtin.Str.occurrences ⟨l.toArray⟩ ⟨#[47]⟩ 0 (⟨l.toArray⟩ : Str).length ((⟨l.toArray⟩ : Str).length + 1)) (⟨#[47]⟩ : Str).length :=
          (if_neg (ne_true_of_eq_false h1)).trans (if_neg (ne_true_of_eq_false hf))
        have hcount : (Txt.split ⟨l.toArray⟩ ⟨#[47]⟩).length ≤ l.length + 1 := by
          have := sp_count l
          rw [← split_txt, List.length_map] at this
          exact this
        refine call_meets F.slot_str_split (typeIs_str _ _ _) F.entry_str_split (F.args_str_split_2 _ _) (meets_str_split_sep ⟨l.toArray⟩ ⟨#[47]⟩ t u h1 hy hf hsz (by rw [← hx, sizeLine_eq]; omega)) ?_
        rw [strsFrom_eq, ← hx]
        exact go _ _ e
      · have hx : Txt.split ⟨l.toArray⟩ ⟨#[47]⟩ = [⟨l.toArray⟩] := (if_neg (ne_true_of_eq_false h1)).trans (if_pos hf)
        exact call_meets F.slot_str_split (typeIs_str _ _ _) F.entry_str_split (F.args_str_split_2 _ _) (meets_str_split_not_found ⟨l.toArray⟩ ⟨#[47]⟩ t u h1 hy hf) (go _ s.toks (hone hx))
    · have hx : Txt.split ⟨l.toArray⟩ ⟨#[47]⟩ = [⟨l.toArray⟩] := if_pos h1
      exact call_meets F.slot_str_split (typeIs_str _ _ _) F.entry_str_split (F.args_str_split_2 _ _) (meets_str_split_cannot_occur ⟨l.toArray⟩ ⟨#[47]⟩ t u h1) (go _ s.toks (hone hx))
  | b =>
    refine call_meets FX.slot_split (typeIs_bytes _ _ _) FX.entry_split (FX.args_split _ _) (meets_split ok) fun vs tk hv => ?_
    exact h _ _ _ _ ⟨vs, rfl, hv⟩ (push_kp _ _) (Heap.get?_none_of_le (Nat.le_refl _)) (Heap.get?_push_size _ rfl)

theorem r_rfind {pre last : List Nat} (ok : Ok l) (c : Cut l pre last) (h : ∀ t' tk, Q (.int ((pre.length : Int) - 1) t') { s with toks := tk }) :
    wpAny (model prog w) A (call (.builtin (mid k .rfind)) [tx k l t, tx k [47] u]) Q E s := by
  cases k with
  | s => exact SC.rfind (x := ⟨l.toArray⟩) (y := ⟨#[47]⟩) (by rw [rfind_txt c]; exact h _ _)
  | b =>
    refine call_gives FX.slot_rfind (typeIs_bytes _ _ _) FX.entry_rfind (FX.args_rfind _ _) gives_rfind ?_
    have e : ((if (((bys l).toArray.size : Int) - 0 < (#[(47 : UInt8)]).size) then none else Builtin.Bytes.rfind? (bys l).toArray #[(47 : UInt8)] 0 (bys l).toArray.size).elim (-1) fun i => (i : Int)) = (pre.length : Int) - 1 := by
      by_cases hc : ((bys l).toArray.size : Int) - 0 < (#[(47 : UInt8)]).size
      · rw [if_pos hc]
        have hl : l = [] := by
          have h1 : (bys l).toArray.size = l.length := by simp [bys_len]
          have h2 : (#[(47 : UInt8)]).size = 1 := rfl
          rw [h1, h2] at hc
          exact List.length_eq_zero_iff.mp (by omega)
        subst hl
        rw [c.none_ (fun j => by simp)]; rfl
      · rw [if_neg hc]; exact rfind_bys ok c
    show Q (.int _ _) _
    rw [show (bys [47]).toArray = #[(47 : UInt8)] from rfl, e]; exact h _ _

/-- l is x with slashes behind it -/
structure Strp (l x : List Nat) : Prop where
  eq : ∃ n, l = x ++ List.replicate n 47
  free : x.getLast? ≠ some 47
theorem drop_rep (p : Nat → Bool) (n : Nat) (y : List Nat) (hp : p 47 = true) (hy : ∀ a, y.head? = some a → p a = false) : (List.replicate n 47 ++ y).dropWhile p = y := by
  induction n with
  | zero =>
    cases y with
    | nil => rfl
    | cons a r => simp [List.dropWhile_cons, hy a rfl]
  | succ n ih => rw [List.replicate_succ, List.cons_append, List.dropWhile_cons, hp]; exact ih
theorem Strp.drop {l x : List Nat} (c : Strp l x) : l.reverse.dropWhile (· == 47) = x.reverse := by
  obtain ⟨⟨n, rfl⟩, hf⟩ := c
  rw [List.reverse_append, List.reverse_replicate]
  refine drop_rep _ n _ rfl fun a ha => ?_
  rw [List.head?_reverse] at ha
  rw [beq_eq_false_iff_ne]
  rintro rfl
  exact hf ha
theorem take_drop_len {α : Type} (p : α → Bool) (l : List α) : (l.takeWhile p).length + (l.dropWhile p).length = l.length := by
  have := congrArg List.length (List.takeWhile_append_dropWhile (p := p) (l := l))
  rw [List.length_append] at this; exact this
theorem rstrip_txt {x : List Nat} (c : Strp l x) : Txt.rstripChars ⟨l.toArray⟩ ⟨#[47]⟩ = ⟨x.toArray⟩ := by
  have e1 : l.reverse.dropWhile (#[47] : Array Nat).contains = x.reverse := by
    rw [← c.drop]
    congr 1
    funext a
    show (#[47] : Array Nat).contains a = (a == 47)
    rw [Bool.eq_iff_iff]
    simp
  have e2 := take_drop_len (#[47] : Array Nat).contains l.reverse
  rw [e1, List.length_reverse, List.length_reverse] at e2
  have hx : l.take x.length = x := by obtain ⟨⟨n, rfl⟩, _⟩ := c; simp
  have hlen : (⟨l.toArray⟩ : Str).length = l.length := by show l.toArray.size = _; simp
  have hhi : stripHi (#[47] : Array Nat).contains true ⟨l.toArray⟩ 0 = x.length := by
    show (⟨l.toArray⟩ : Str).length - ((l.drop 0).reverse.takeWhile (#[47] : Array Nat).contains).length = _
    rw [hlen, List.drop_zero]; omega
  show Txt.stripBy (#[47] : Array Nat).contains false true ⟨l.toArray⟩ = _
  unfold Txt.stripBy PySem.stripSame PySem.stripped
  have hlo : stripLo (#[47] : Array Nat).contains false ⟨l.toArray⟩ = 0 := rfl
  rw [hlo, hhi]
  split
  · rename_i hc
    simp only [beq_self_eq_true, Bool.true_and, beq_iff_eq, hlen] at hc
    have : x = l := by rw [← hx, List.take_of_length_le (by omega)]
    rw [this]
  · apply Str.ext'
    show (l.toArray.extract 0 x.length) = x.toArray
    apply Array.ext'
    simp [hx]
theorem dropW_map {α β : Type} (f : α → β) (p : β → Bool) (q : α → Bool) : ∀ (l : List α), (∀ a ∈ l, p (f a) = q a) → (l.map f).dropWhile p = (l.dropWhile q).map f
  | [], _ => rfl
  | a :: r, h => by
    rw [List.map_cons, List.dropWhile_cons, List.dropWhile_cons, h a (.head _)]
    split
    · exact dropW_map f p q r fun b hb => h b (.tail _ hb)
    · rfl
theorem rstrip_bys {x : List Nat} (ok : Ok l) (c : Strp l x) : ((bys l).toArray.toList.reverse.dropWhile (#[(47 : UInt8)]).contains).reverse = bys x := by
  have e1 : (bys l).toArray.toList.reverse = l.reverse.map Nat.toUInt8 := by simp [bys]
  rw [e1, dropW_map Nat.toUInt8 (#[(47 : UInt8)]).contains (· == 47) l.reverse fun a ha => ?_, c.drop, ← List.map_reverse, List.reverse_reverse]
  · rfl
  · have hlt := ok.lt a (List.mem_reverse.mp ha)
    show (#[(47 : UInt8)]).contains (Nat.toUInt8 a) = (a == 47)
    rw [Bool.eq_iff_iff]
    simp only [List.contains_toArray, List.contains_cons, List.contains_nil, Bool.or_false, beq_iff_eq]
    exact ⟨fun h => toUInt8_inj hlt (by decide) h, fun h => by rw [h]; rfl⟩
theorem r_rstrip {x : List Nat} (ok : Ok l) (c : Strp l x) (h : ∀ t' tk, Q (tx k x t') { s with toks := tk }) :
    wpAny (model prog w) A (call (.builtin (mid k .rstrip)) [tx k l t, tx k [47] u]) Q E s := by
  have hz := ok.len
  have hxl : x.length ≤ l.length := by obtain ⟨⟨n, rfl⟩, _⟩ := c; simp
  cases k with
  | s => exact SC.rstripChars (x := ⟨l.toArray⟩) (y := ⟨#[47]⟩) (fun t' tk => by rw [rstrip_txt c]; exact h t' tk) (by rw [sizeLine_eq]; show l.toArray.size ≤ _; simp; omega)
  | b =>
    refine call_gives FX.slot_rstrip (typeIs_bytes _ _ _) FX.entry_rstrip (FX.args_rstrip _ _) gives_rstrip ?_
    rw [show (bys [47]).toArray = #[(47 : UInt8)] from rfl, rstrip_bys ok c]
    by_cases hc : ((bys x).length == (bys l).toArray.size) = true
    · rw [if_pos hc]
      have : x = l := by
        obtain ⟨⟨n, rfl⟩, _⟩ := c
        have h2 : n = 0 := by simpa [bys_len] using hc
        subst h2; simp
      subst this
      exact h t s.toks
    · rw [if_neg hc]
      exact ⟨by rw [sizeLine_eq]; simp [bys_len]; omega, h _ _⟩
end
end
section
theorem forIn_inv {β : Type} {M : Model} {A : Around} {E : Value → Shared → Prop} {s : Shared} {F : Nat → β → Sem (ForInStep β)} {I : Nat → β} {Q : β → Shared → Prop} (n : Nat)
    (step : ∀ i, i < n → ∀ (Q : ForInStep β → Shared → Prop), Q (.yield (I (i + 1))) s → wpAny M A (F i (I i)) Q E s) (h : Q (I n) s) : ∀ (j i : Nat), i + j = n → wpAny M A (forIn (List.range' i j 1) (I i) F) Q E s
  | 0, i, e => by
    have e' : i = n := by omega
    subst e'
    exact wpAny_pure h
  | j + 1, i, e => by
    rw [List.range'_succ, List.forIn_cons]
    exact wpAny_bind (step i (by omega) _ (forIn_inv n step h j (i + 1) (by omega)))
theorem forIn_rng {β : Type} {M : Model} {A : Around} {E : Value → Shared → Prop} {s : Shared} {F : Nat → β → Sem (ForInStep β)} {I : Nat → β} {Q : β → Shared → Prop} (n : Nat) {b : β} (hb : b = I 0)
    (step : ∀ i, i < n → ∀ (Q : ForInStep β → Shared → Prop), Q (.yield (I (i + 1))) s → wpAny M A (F i (I i)) Q E s) (h : Q (I n) s) : wpAny M A (forIn [:n] b F) Q E s := by
  subst hb
  have := forIn_inv (Q := Q) n step h n 0 (by omega)
  simpa [Std.Legacy.Range.forIn_eq_forIn_range', Std.Legacy.Range.size] using this

theorem joined_J : ∀ (ls : List (List Nat)), Builtin.Bytes.joined #[(47 : UInt8)] (ls.map fun p => (bys p).toArray) = (bys (J ls)).toArray := by
  intro ls
  unfold Builtin.Bytes.joined
  have key : ∀ (ls : List (List Nat)) (i : Nat) (out : Array UInt8), 0 < i → ((ls.map fun p => (bys p).toArray).zipIdx i).foldl (fun out (x : Array UInt8 × Nat) => (if x.2 > 0 then out ++ #[(47 : UInt8)] else out) ++ x.1) out = out ++ (bys ((ls.map fun p => 47 :: p).flatten)).toArray := by
    intro ls
    induction ls with
    | nil => intro i out _; simp [bys]
    | cons p r ih =>
      intro i out hi
      rw [List.map_cons, List.zipIdx_cons, List.foldl_cons, ih (i + 1) _ (by omega), if_pos hi]
      simp [bys]
  have flat : ∀ (x : List Nat) (r : List (List Nat)), J (x :: r) = x ++ (r.map fun p => 47 :: p).flatten := by
    intro x r
    induction r generalizing x with
    | nil => simp [J]
    | cons y r ih =>
      show x ++ 47 :: J (y :: r) = _
      rw [ih]; simp
  cases ls with
  | nil => rfl
  | cons x r =>
    rw [List.map_cons, List.zipIdx_cons, List.foldl_cons]
    have := key r (0 + 1) ((if (0 : Nat) > 0 then #[] ++ #[(47 : UInt8)] else #[]) ++ (bys x).toArray) (by omega)
    rw [this, flat]
    simp [bys]
theorem J_len : ∀ (ls : List (List Nat)), (∀ p ∈ ls, p.length ≤ 1000) → (J ls).length ≤ 1001 * ls.length
  | [], _ => Nat.le_refl _
  | [x], h => by have := h x (.head _); simp [J]; omega
  | x :: y :: r, h => by
    have ih := J_len (y :: r) fun p hp => h p (.tail _ hp)
    have := h x (.head _)
    show (x ++ 47 :: J (y :: r)).length ≤ _
    simp only [List.length_append, List.length_cons] at ih ⊢
    omega
theorem TxsAre.at_ {k : Kd} : ∀ {vs ls}, TxsAre k vs ls → ∀ (i : Nat), i < vs.length → ∃ l t, ls[i]? = some l ∧ vs[i]? = some (tx k l t)
  | _, _, .nil, _, h => by simp at h
  | _, _, .cons (l := l) (t := t) _, 0, _ => ⟨l, t, by simp, by simp⟩
  | _, _, .cons h, i + 1, e => by simpa using h.at_ i (by simpa using e)
theorem fold_size (ps : List (Array UInt8)) (a : Nat) : ps.foldl (fun x y => x + y.size) a = a + (ps.map (·.size)).sum := by
  induction ps generalizing a with
  | nil => simp
  | cons x r ih => rw [List.foldl_cons, ih]; simp; omega
section
variable {prog : Program} {w : World} {A : Around} {E : Value → Shared → Prop} {s : Shared} {k : Kd} {l l' : List Nat} {t u : Tok} {Q : Value → Shared → Prop}
theorem takeB {id : String} {b : Array UInt8} {n : Int} : Builtin.Bytes.takeBufferQuiet? id (.bytes b t) n = pure (some (b, none)) := by
  unfold Builtin.Bytes.takeBufferQuiet? Builtin.Bytes.takeBuffer?
  rw [KBy.special_eq KBy.look_buffer, KBy.own_buffer]
  simp only [pure_bind]
  have e : Builtin.Bytes.buffer? id (.bytes b t) (n == Builtin.Bytes.fullReadOnly) = pure (some b) := by
    unfold Builtin.Bytes.buffer?
    rw [KBy.special_eq KBy.look_buffer, KBy.own_buffer, KBy.own_release]
    kernel_rfl
  simp only [Bool.not_true, Bool.false_eq_true, if_false, e, pure_bind]
  rfl
theorem join_letGo {M : Model} {A : Around} {E : Value → Shared → Prop} {s : Shared} {Q : Unit → Shared → Prop} : ∀ (vs keep : List Value), Q () s → wpAny M A (Builtin.Bytes.joinLetGo (vs.map fun v => (v, (none : Option Value))) keep) Q E s
  | [], _, h => wpAny_pure h
  | v :: r, keep, h => by
    rw [List.map_cons]
    unfold Builtin.Bytes.joinLetGo
    exact wpAny_bind (wpAny_letGo (join_letGo r keep h))
theorem _root_.Mine.TxsAre.off : ∀ {vs ls}, TxsAre .b vs ls → ∀ v ∈ vs, v.onHeap = false
  | _, _, .nil, _, h => nomatch h
  | _, _, .cons h, v, hv => by
    rcases List.mem_cons.mp hv with rfl | hv
    · rfl
    · exact h.off v hv
theorem jm_ne {motive : Array Value → Sort v} (items : Array Value) (h1 : (x : Value) → motive #[x]) (h2 : (x : Array Value) → motive x) (hne : items.size ≠ 1) :
    Builtin.Bytes.joinM.match_1 motive items h1 h2 = h2 items := by
  unfold Builtin.Bytes.joinM.match_1
  rw [dif_neg hne]
theorem meets_join {vs : List Value} {ls : List (List Nat)} {D : Addr} {ep : Nat} (hv : TxsAre .b vs ls) (hok : ∀ p ∈ ls, Ok p) (hn : ls.length ≤ 2000) :
    Meets (Builtin.«bytes.join» ⟨[.bytes #[47] t, .ref D], []⟩) (fun _ R s => s.heap.get? D = some (listOf vs.toArray ep) ∧ ∀ t' tk, R (.ok (.ret (.bytes (bys (J ls)).toArray t'))) { s with toks := tk }) := by
  refine .of_wp fun prog w A R s hs => ?_
  obtain ⟨hD, h⟩ := hs
  have hT : s.TypeIs (.ref D) "list" := ⟨_, hD, rfl⟩
  have hlen := hv.length
  unfold Builtin.«bytes.join» Builtin.Bytes.joinM
  refine wpAny_bind (wpAny_of_eq (a := (Value.bytes #[47] t, Value.ref D)) rfl ?_)
  refine wpAny_bind (wpAny_bind ?_)
  refine wpAny_typeOf hT ?_
  refine bm_if_true rfl ?_
  refine wpAny_pure ?_
  refine wpAny_bind (wpAny_seqItems hD rfl ?_)
  dsimp only
  refine bm_if_true rfl ?_
  have one : ∀ v, vs = [v] → ∃ p t, v = .bytes (bys p).toArray t ∧ ls = [p] := by
    intro v e
    subst e
    cases hv with
    | cons hv => cases hv; exact ⟨_, _, rfl, rfl⟩
  by_cases h1 : ∃ v, vs = [v]
  · obtain ⟨v, rfl⟩ := h1
    obtain ⟨p, tp, rfl, rfl⟩ := one v rfl
    refine wpAny_bind (wpAny_typeOf (typeIs_bytes s _ tp) ?_)
    refine bm_if_true rfl ?_
    refine wpAny_bind (wpAny_rule ?_)
    exact wpAny_pure ⟨_, rfl, h tp s.toks⟩
  · have hne : vs.toArray.size ≠ 1 := fun e => h1 (by
      rw [List.size_toArray] at e
      exact List.length_eq_one_iff.mp e)
    rw [jm_ne _ _ _ hne]
    refine wpAny_bind (forIn_rng (I := fun i => ((((ls.take i).map fun p => (bys p).toArray)).toArray, (vs.take i).map fun v => (v, (none : Option Value)))) _ (by simp) ?_ ?_)
    · intro i hi Q hQ
      simp only [List.size_toArray] at hi
      obtain ⟨p, tp, hp, hvi⟩ := hv.at_ i hi
      dsimp only
      refine wpAny_bind (wpAny_seqItems hD rfl ?_)
      dsimp only
      have hx : vs.toArray.getD i Value.none = tx .b p tp := by simp [Array.getD, hi]; rw [List.getElem?_eq_getElem hi] at hvi; exact Option.some.inj hvi
      rw [hx]
      have hany : ((vs.take i).map fun v => (v, (none : Option Value))).any (fun x => x.1.onHeap) = false := by
        rw [List.any_eq_false]
        intro x hx
        obtain ⟨v, hv', rfl⟩ := List.mem_map.mp hx
        rw [hv.off v (List.mem_of_mem_take hv')]
        exact Bool.false_ne_true
      simp only [hany]
      refine bm_if_false rfl ?_
      refine wpAny_bind (wpAny_holding (wpAny_of_eq takeB ?_))
      dsimp only
      refine wpAny_bind (wpAny_seqItems hD rfl ?_)
      dsimp only
      refine bm_if_false (by simp) ?_
      refine wpAny_pure ?_
      have e1 : ls.take (i + 1) = ls.take i ++ [p] := by rw [List.take_add_one, hp]; rfl
      have e2 : vs.take (i + 1) = vs.take i ++ [tx .b p tp] := by rw [List.take_add_one, hvi]; rfl
      rw [e1, e2] at hQ
      simpa using hQ
    · have e1 : vs.toArray.size = ls.length := by rw [List.size_toArray, hlen]
      have e2 : ls.take vs.toArray.size = ls := by rw [e1]; exact List.take_length
      have e3 : vs.take vs.toArray.size = vs := by rw [List.size_toArray]; exact List.take_length
      simp only [e2, e3]
      refine wpAny_bind (wpAny_of_eq (a := #[(47 : UInt8)]) rfl ?_)
      have hsum : ((ls.map fun p => (bys p).toArray).map (·.size)).sum ≤ 1000 * ls.length := by
        clear e1 e2 e3 hn h hv hlen one h1 hne
        induction ls with
        | nil => simp
        | cons p r ih =>
          have := ih fun q hq => hok q (.tail _ hq)
          have := (hok p (.head _)).len
          simp only [List.map_cons, List.sum_cons, List.length_cons, List.size_toArray, bys_len] at *
          omega
      refine bm_if_false ?_ ?_
      · unfold Builtin.Bytes.tooLong
        rw [sizeLine_eq]
        refine decide_eq_false ?_
        rw [← Array.foldl_toList]
        simp only [List.toList_toArray]
        rw [fold_size]
        have : (#[(47 : UInt8)]).size = 1 := rfl
        simp only [this, List.size_toArray, List.length_map]
        omega
      · try simp only [List.toList_toArray]
        rw [joined_J]
        have hJ := J_len ls fun p hp => (hok p hp).len
        refine wpAny_bind (wpAny_mkBytes ?_ (by rw [sizeLine_eq]; simp only [List.size_toArray, bys_len]; omega))
        refine wpAny_bind (wpAny_holding (wpAny_point ?_))
        refine wpAny_bind (join_letGo _ _ ?_)
        exact wpAny_pure ⟨_, rfl, h _ _⟩

theorem codes_map : ∀ ls : List (List Nat), (ls.map fun p => (⟨p.toArray⟩ : Str)).map (·.cps.toList) = ls
  | [] => rfl
  | p :: r => by rw [List.map_cons, List.map_cons, codes_map r]
theorem strs_of_txs : ∀ {vs ls}, TxsAre .s vs ls → ∃ l : List (Str × Tok), vs = strValues l ∧ l.map (·.1) = ls.map fun p => (⟨p.toArray⟩ : Str)
  | _, _, .nil => ⟨[], rfl, rfl⟩
  | _, _, .cons (l := p) (t := t) h => by
    obtain ⟨l, e1, e2⟩ := strs_of_txs h
    exact ⟨(⟨p.toArray⟩, t) :: l, by rw [e1]; rfl, by simp [e2]⟩
theorem r_join {vs : List Value} {ls : List (List Nat)} {D : Addr} {ep : Nat} (hv : TxsAre k vs ls) (hok : ∀ p ∈ ls, Ok p) (hn : ls.length ≤ 2000) (hD : s.heap.get? D = some (listOf vs.toArray ep))
    (h : ∀ t' tk, Q (tx k (J ls) t') { s with toks := tk }) : wpAny (model prog w) A (call (.builtin (mid k .join)) [tx k [47] t, .ref D]) Q E s := by
  cases k with
  | s =>
    obtain ⟨l, e1, e2⟩ := strs_of_txs hv
    subst e1
    refine SC.join (x := ⟨#[47]⟩) (D := D) (l := l) ⟨_, hD, rfl, _, rfl⟩ e2 ?_ fun t' tk => ?_
    · unfold JoinOk
      rw [Bool.not_eq_true']
      refine StrLaws.joinFits (B := 1000) ?_ ?_
      · intro y hy
        obtain ⟨p, hp, rfl⟩ := List.mem_map.mp hy
        show p.toArray.size ≤ _
        rw [List.size_toArray]; exact (hok p hp).len
      · rw [List.length_map]
        have : (⟨#[47]⟩ : Str).length = 1 := rfl
        rw [this]; omega
    · have e : Txt.join ⟨#[47]⟩ (ls.map fun p => (⟨p.toArray⟩ : Str)) = ⟨(J ls).toArray⟩ := by
        show Builtin.Str.glued _ _ = _
        rw [StrLaws.glued_eq_join]
        apply Str.ext'
        apply Array.ext'
        rw [join_codes, codes_map]
      rw [e]; exact h t' tk
  | b => exact call_meets FX.slot_join (typeIs_bytes _ _ _) FX.entry_join (FX.args_join _ _) (meets_join hv hok hn) ⟨hD, h⟩
end
end
section
/-- what is around a call: no exception is being handled -/
abbrev Ar (dp un : Nat) (fr : Option (List Env)) (gd : Option (List Code)) : Around := { handled := none, depth := dp, frames := fr, guards := gd, units := un }
abbrev PR : Program := Challenge.rw_rt0119_01.prog
/-- the text as the head has it: what the facts about the top speak of -/
noncomputable abbrev PV : Program := Mine.hd.view_1

section
variable {prog : Program} {w : World} {A : Around} {E : Value → Shared → Prop} {s : Shared} {k : Kd} {l l' : List Nat} {t u : Tok}
theorem Ok.app {a b : List Nat} (ha : Ok a) (hb : Ok b) (h : a.length + b.length ≤ 1000) : Ok (a ++ b) :=
  ⟨fun c hc => (List.mem_append.mp hc).elim (ha.lt c) (hb.lt c), by rw [List.length_append]; exact h⟩
theorem q_truthy {c : Bool} {Q : Bool → Shared → Prop} (ok : Ok l) (e : (l != []) = c) (h : ∀ tk, Q c { s with toks := tk }) : wpAny (model prog w) A (truthy (tx k l t)) Q E s := r_truthy ok (by rw [e]; exact h)
theorem q_eq {c : Bool} {Q : Value → Shared → Prop} (ok : Ok l) (ok' : Ok l') (e : (l == l') = c) (h : Q (.bool c) s) : wpAny (model prog w) A (compareOp .Eq (tx k l t) (tx k l' u)) Q E s := r_eq ok ok' (by rw [e]; exact h)
theorem q_ne {c : Bool} {Q : Value → Shared → Prop} (ok : Ok l) (ok' : Ok l') (e : (l != l') = c) (h : Q (.bool c) s) : wpAny (model prog w) A (compareOp .NotEq (tx k l t) (tx k l' u)) Q E s := r_ne ok ok' (by rw [e]; exact h)
theorem q_starts {c : Bool} {Q : Value → Shared → Prop} (ok : Ok l) (e : (l.head? == some 47) = c) (h : Q (.bool c) s) : wpAny (model prog w) A (call (.builtin (mid k .starts)) [tx k l t, tx k [47] u]) Q E s := r_starts ok (by rw [e]; exact h)
theorem q_ends {c : Bool} {Q : Value → Shared → Prop} (ok : Ok l) (e : (l.getLast? == some 47) = c) (h : Q (.bool c) s) : wpAny (model prog w) A (call (.builtin (mid k .ends)) [tx k l t, tx k [47] u]) Q E s := r_ends ok (by rw [e]; exact h)
theorem q_isi_b {Q : Value → Shared → Prop} (h : ∀ tk, Q (.bool (k.eqb .b)) { s with toks := tk }) : wpAny (model prog w) A (call (.builtin "isinstance") [tx k l t, .type "bytes"]) Q E s := r_isi (k' := .b) h
theorem q_isi_s {Q : Value → Shared → Prop} (h : ∀ tk, Q (.bool (k.eqb .s)) { s with toks := tk }) : wpAny (model prog w) A (call (.builtin "isinstance") [tx k l t, .type "str"]) Q E s := r_isi (k' := .s) h
end

theorem enter {w : World} {A : Around} {s : Shared} {Q E : Value → Shared → Prop} {name qual : Str} {params : Arguments} {body : List Stmt} {scope : Scope} {dV kV doc pm cdv ct oc : Value} {an od : Option Addr} {osl : Array (Option Value)} {f : Addr} {args : List Value} {binds : List (Str × Value)}
    (X : (Mine.hd.heap_1 w.params).In s.heap) (hlim : s.heap.NoLimit)
    (ho : (Mine.hd.heap_1 w.params).lookup f = some ⟨oc, od, .func (fnOf name qual params body scope dV kV doc pm an cdv ct), osl⟩) (hcd : codeIn (Mine.hd.heap_1 w.params) cdv qual = true) (hroom : A.depth < recursionLimit)
    (hbind : BindsTo s (fnOf name qual params body scope dV kV doc pm an cdv ct) ⟨args, []⟩ binds) (hloc : ∀ y ∈ binds, scope.names.lookup y.1 = some .local)
    (h : ∀ L h₁, Fr s.heap L h₁ (fun y => binds.reverse.lookup y) → News s.heap L h₁ [] →
      wpAny (model PR w) (A.deeper (envOf qual scope L f cdv)) (execs body (envOf qual scope L f cdv)) (fun fl s' => Q (match fl with | .ret v => v | _ => .none) s') (fun _ _ => False) { s with heap := h₁, toks := s.toks + binds.length })
    (hco : scope.isCoroutine = false) (hgen : scope.isGenerator = false) (hk : scope.kind = .function) (hcell : ∀ x ∈ scope.names, x.2 ≠ .cell) :
    wpAny (model PR w) A (call (.ref f) args) Q E s := by
  refine wpAny_call ?_
  refine codeAny_call_def (fd := fnOf name qual params body scope dV kV doc pm an cdv ct) (body := body) (binds := binds) hroom (X _ _ ho) rfl hlim (codeRec_of X hcd) rfl hbind hcell hloc (fun h₁ hns hk₁ => ?_) hco hgen hk
  exact wpAny_mono (h s.heap.objs.size h₁ ⟨hns, hk₁, Nat.le_refl _⟩ .nil) (fun fl s' hl => hl) fun _ _ y => y.elim



section
variable {w : World} {A : Around} {s : Shared} {Q E : Value → Shared → Prop} {mg mb : Str → Option Value} {loose : List Str} {mean : ExcName → Option Value} {k : Kd} {l : List Nat} {t : Tok}
set_option maxHeartbeats 4000000
theorem c_fspath (X : (Mine.hd.heap_1 w.params).In s.heap) (T : Top PV loose mean mg mb s.heap) (hd : A.depth + 1 < recursionLimit)
    (h : Ret s Q (fun _ => tx k l t)) : wpAny (model PR w) A (call (.ref 94) [tx k l t]) Q E s := by
  walk_at "mine fill"
  refine' enter (binds := [("path", tx k l t)]) X T.nolimit ?k6 ?k7 ?k8 ?k9 ?kB ?_ ?c2 ?c3 ?c4 ?c5
  walk_at "mine enter"
  k_steps
  exact h 0 _ _ (by assumption : Fr _ _ _ _).keep
theorem c_get_sep (X : (Mine.hd.heap_1 w.params).In s.heap) (T : Top PV loose mean mg mb s.heap) (hd : A.depth + 1 < recursionLimit)
    (h : Ret s Q (tx k [47])) : wpAny (model PR w) A (call (.ref 108) [tx k l t]) Q E s := by
  walk_at "mine fill"
  refine' enter (binds := [("path", tx k l t)]) X T.nolimit ?k6 ?k7 ?k8 ?k9 ?kB ?_ ?c2 ?c3 ?c4 ?c5
  walk_at "mine enter"
  cases k
  all_goals (k_steps; exact h _ _ _ (by assumption : Fr _ _ _ _).keep)
end
end
section
/-- a new object on the ledger -/
theorem news_add {h₀ h h' : Heap} {L D : Addr} {m : Str → Option Value} {o : Obj} {news : List (Addr × Obj)} (F : Fr h₀ L h m) (N : News h₀ L h news) (K : Kp h h') (hD : h.get? D = none) (e : h'.get? D = some o) : News h₀ L h' ((D, o) :: news) := by
  intro p hp
  rcases List.mem_cons.mp hp with rfl | hp
  · refine ⟨e, ?_, ?_⟩
    · rintro rfl
      obtain ⟨oL, _, _, hL, _⟩ := F.ns
      have hL' : h.get? D = some oL := hL
      rw [hD] at hL'; cases hL'
    · cases q : h₀.get? D with
      | none => rfl
      | some o' => rw [F.keep _ _ q] at hD; cases hD
  · exact ⟨K _ _ (N p hp).1, (N p hp).2⟩
theorem news_ne {h₀ h : Heap} {L D : Addr} {news : List (Addr × Obj)} (N : News h₀ L h news) (hD : h.get? D = none) : ∀ p ∈ news, p.1 ≠ D := by
  intro p hp e
  rw [← e, (N p hp).1] at hD; cases hD


theorem q_add {prog : Program} {w : World} {A : Around} {E Q : Value → Shared → Prop} {s : Shared} {a b : Int} {t u : Tok} (h : ∀ t' tk, Q (.int (a + b) t') { s with toks := tk }) : wpAny (model prog w) A (binaryOp .Add (.int a t) (.int b u)) Q E s := add_int (h _ _)
section
variable {w : World} {dp un : Nat} {fr : Option (List Env)} {gd : Option (List Code)} {s : Shared} {Q E : Value → Shared → Prop} {mg mb : Str → Option Value} {loose : List Str} {mean : ExcName → Option Value} {k : Kd} {l : List Nat} {t : Tok}
abbrev tup (vs : List Value) : Obj := { cls := .type "tuple", data := .seq vs.toArray }
inductive Headed : List Nat → List Nat → Prop
  | none : Headed [] []
  | root : Headed [47] [47]
  | more {q : List Nat} : q ≠ [] → q.getLast? ≠ some 47 → Headed (q ++ [47]) q
set_option maxHeartbeats 4000000
theorem c_split {pre last head : List Nat} (X : (Mine.hd.heap_1 w.params).In s.heap) (T : Top PV loose mean mg mb s.heap) (hd : dp + 2 < recursionLimit)
    (ok : Ok l) (c : Cut l pre last) (hh : Headed pre head)
    (h : RetN s Q fun o => ∃ t1 t2, o = tup [tx k head t1, tx k last t2]) : wpAny (model PR w) (Ar dp un fr gd) (call (.ref 122) [tx k l t]) Q E s := by
  walk_at "mine fill"
  have okp : Ok pre := ⟨fun x hx => ok.lt x (by rw [c.eq]; exact List.mem_append_left _ hx), by have := ok.len; rw [c.eq, List.length_append] at this; omega⟩
  have hl : l.length = pre.length + last.length := by rw [c.eq, List.length_append]
  have hcl : clipAt l.length ((pre.length : Int) - 1 + 1) = pre.length := by
    rw [show ((pre.length : Int) - 1 + 1) = ((pre.length : Nat) : Int) by omega, clipAt_nat]; omega
  have e1 : (l.drop ((none : Option Int).elim 0 (clipAt l.length))).take ((some ((pre.length : Int) - 1 + 1)).elim l.length (clipAt l.length) - (none : Option Int).elim 0 (clipAt l.length)) = pre := by
    simp only [Option.elim, hcl, List.drop_zero, Nat.sub_zero]; rw [c.eq]; simp
  have e2 : (l.drop ((some ((pre.length : Int) - 1 + 1)).elim 0 (clipAt l.length))).take ((none : Option Int).elim l.length (clipAt l.length) - (some ((pre.length : Int) - 1 + 1)).elim 0 (clipAt l.length)) = last := by
    simp only [Option.elim, hcl]; rw [hl, c.eq]; simp
  clear hcl hl
  have hpl := okp.len
  cases hh with
  | none =>
    have e3 : (([] : List Nat) != []) = false := rfl
    refine' enter (binds := [("p", tx k l t)]) X T.nolimit ?k6 ?k7 ?k8 ?k9 ?kB ?_ ?c2 ?c3 ?c4 ?c5
    walk_at "mine enter"
    k_steps
    have N := (by assumption : News _ _ _ _); exact h _ _ _ _ ⟨_, _, rfl⟩ (by assumption : Fr _ _ _ _).keep (N.fresh (.head _)) (N.get (.head _))
  | root =>
    have e3 : (([47] : List Nat) != []) = true := rfl
    have e4 : (([47] : List Nat) != List.replicate ([47] : List Nat).length 47) = false := rfl
    refine' enter (binds := [("p", tx k l t)]) X T.nolimit ?k6 ?k7 ?k8 ?k9 ?kB ?_ ?c2 ?c3 ?c4 ?c5
    walk_at "mine enter"
    k_steps
    have N := (by assumption : News _ _ _ _); exact h _ _ _ _ ⟨_, _, rfl⟩ (by assumption : Fr _ _ _ _).keep (N.fresh (.head _)) (N.get (.head _))
  | more h1 h2 =>
    have e3 : (head ++ [47] != []) = true := by simp
    have e4 : (head ++ [47] != List.replicate (head ++ [47]).length 47) = true := by
      rw [bne_iff_ne]
      intro e
      obtain ⟨r, a, rfl⟩ : ∃ r a, head = r ++ [a] := by
        rcases List.eq_nil_or_concat head with rfl | ⟨r, a, rfl⟩
        · exact absurd rfl h1
        · exact ⟨r, a, by simp⟩
      have ha : a ∈ List.replicate (r ++ [a] ++ [47]).length 47 := by rw [← e]; simp
      rw [List.mem_replicate] at ha
      rw [ha.2] at h2
      simp at h2
    have e5 : Strp (head ++ [47]) head := ⟨⟨1, rfl⟩, h2⟩
    have okr : Ok (List.replicate (head ++ [47]).length 47) := ⟨fun x hx => by rw [(List.mem_replicate.mp hx).2]; decide, by rw [List.length_replicate]; exact hpl⟩
    refine' enter (binds := [("p", tx k l t)]) X T.nolimit ?k6 ?k7 ?k8 ?k9 ?kB ?_ ?c2 ?c3 ?c4 ?c5
    walk_at "mine enter"
    k_steps
    have N := (by assumption : News _ _ _ _); exact h _ _ _ _ ⟨_, _, rfl⟩ (by assumption : Fr _ _ _ _).keep (N.fresh (.head _)) (N.get (.head _))
end
end
section
section
variable {prog : Program} {w : World} {A : Around} {E : Value → Shared → Prop} {s : Shared} {k : Kd} {h₀ : Heap} {L : Addr} {m : Str → Option Value} {news : List (Addr × Obj)} {Q : Flow → Shared → Prop} {t : Sem Flow}
theorem cut2 (k : Kd) (a b : Str) (va vb : List Nat) (_F : Fr h₀ L s.heap m) (_N : News h₀ L s.heap news)
    (h1 : ∀ Q' : Flow → Shared → Prop, (∀ h' tk t1 t2, Fr h₀ L h' (fun y => if y = b then some (tx k vb t2) else if y = a then some (tx k va t1) else m y) → News h₀ L h' news → Q' .next { s with heap := h', toks := tk }) → wpAny (model prog w) A t Q' E s)
    (h2 : ∀ h' tk t1 t2, Fr h₀ L h' (fun y => if y = b then some (tx k vb t2) else if y = a then some (tx k va t1) else m y) → News h₀ L h' news → Q .next { s with heap := h', toks := tk }) : wpAny (model prog w) A t Q E s := h1 Q h2
end
section
variable {w : World} {dp un : Nat} {fr : Option (List Env)} {gd : Option (List Code)} {s : Shared} {Q E : Value → Shared → Prop} {mg mb : Str → Option Value} {loose : List Str} {mean : ExcName → Option Value} {k : Kd} {l : List Nat} {t : Tok}
inductive Rooted : List Nat → List Nat → List Nat → Prop
  | none {l : List Nat} : l.head? ≠ some 47 → Rooted l [] l
  | root {rest : List Nat} : rest.head? ≠ some 47 → Rooted (47 :: rest) [47] rest
set_option maxHeartbeats 4000000
theorem c_splitroot {root rest : List Nat} (X : (Mine.hd.heap_1 w.params).In s.heap) (T : Top PV loose mean mg mb s.heap) (hd : dp + 2 < recursionLimit)
    (ok : Ok l) (c : Rooted l root rest)
    (h : RetN s Q fun o => ∃ t1 t2 t3, o = tup [tx k [] t1, tx k root t2, tx k rest t3]) : wpAny (model PR w) (Ar dp un fr gd) (call (.ref 129) [tx k l t]) Q E s := by
  walk_at "mine fill"
  refine' enter (binds := [("p", tx k l t)]) X T.nolimit ?k6 ?k7 ?k8 ?k9 ?kB ?_ ?c2 ?c3 ?c4 ?c5
  walk_at "mine enter"
  walk_at "mine to if"
  refine cut2 k "sep" "empty" [47] [] (by assumption) (by assumption) (fun Q' hq => ?_) (fun h' tk t1 t2 F' N' => ?_)
  · cases k
    all_goals (k_steps; exact hq _ _ _ _ (by assumption) (by assumption))
  · k_sweep
    cases c with
    | none hh =>
      have e1 : (l.drop ((none : Option Int).elim 0 (clipAt l.length))).take ((some (1 : Int)).elim l.length (clipAt l.length) - (none : Option Int).elim 0 (clipAt l.length)) = l.take 1 := by
        show (l.drop 0).take (clipAt l.length ((1 : Nat) : Int) - 0) = _
        rw [clipAt_nat]; cases l <;> simp
      have e2 : (l.take 1 != [47]) = true := by
        rw [bne_iff_ne]; intro e
        cases l with
        | nil => simp at e
        | cons a r => simp at e hh; exact hh e
      have ok1 : Ok (l.take 1) := ⟨fun x hx => ok.lt x (List.mem_of_mem_take hx), by have := ok.len; simp; omega⟩
      k_steps
      have N := (by assumption : News _ _ _ _); exact h _ _ _ _ ⟨_, _, _, rfl⟩ (by assumption : Fr _ _ _ _).keep (N.fresh (.head _)) (N.get (.head _))
    | root hh =>
      have e1 : ((47 :: rest).drop ((none : Option Int).elim 0 (clipAt (47 :: rest).length))).take ((some (1 : Int)).elim (47 :: rest).length (clipAt (47 :: rest).length) - (none : Option Int).elim 0 (clipAt (47 :: rest).length)) = [47] := by
        show ((47 :: rest).drop 0).take (clipAt (47 :: rest).length ((1 : Nat) : Int) - 0) = _
        rw [clipAt_nat]; simp
      have e2 : ([47] != [47]) = false := rfl
      have e3 : ((47 :: rest).drop ((some (1 : Int)).elim 0 (clipAt (47 :: rest).length))).take ((some (2 : Int)).elim (47 :: rest).length (clipAt (47 :: rest).length) - (some (1 : Int)).elim 0 (clipAt (47 :: rest).length)) = rest.take 1 := by
        show ((47 :: rest).drop (clipAt (47 :: rest).length ((1 : Nat) : Int))).take (clipAt (47 :: rest).length ((2 : Nat) : Int) - clipAt (47 :: rest).length ((1 : Nat) : Int)) = _
        rw [clipAt_nat, clipAt_nat]
        cases rest <;> simp
      have e4 : (rest.take 1 != [47]) = true := by
        rw [bne_iff_ne]; intro e
        cases rest with
        | nil => simp at e
        | cons a r => simp at e hh; exact hh e
      have e5 : ((47 :: rest).drop ((some (1 : Int)).elim 0 (clipAt (47 :: rest).length))).take ((none : Option Int).elim (47 :: rest).length (clipAt (47 :: rest).length) - (some (1 : Int)).elim 0 (clipAt (47 :: rest).length)) = rest := by
        show ((47 :: rest).drop (clipAt (47 :: rest).length ((1 : Nat) : Int))).take ((47 :: rest).length - clipAt (47 :: rest).length ((1 : Nat) : Int)) = _
        rw [clipAt_nat]; simp
      have ok1 : Ok (rest.take 1) := ⟨fun x hx => ok.lt x (List.mem_cons_of_mem _ (List.mem_of_mem_take hx)), by have := ok.len; simp at this ⊢; omega⟩
      k_steps
      have N := (by assumption : News _ _ _ _); exact h _ _ _ _ ⟨_, _, _, rfl⟩ (by assumption : Fr _ _ _ _).keep (N.fresh (.head _)) (N.get (.head _))
end
end
section
def TurnEnd (h₀ : Heap) (L I : Addr) (oI : Obj) (J : (Str → Option Value) → List (Addr × Obj) → Prop) (s₂ : Shared) (Q : Flow → Shared → Prop) (f : Flow) (s' : Shared) : Prop :=
  match f with
  | .ret v => Q (.ret v) s'
  | .brk => Q .next s'
  | _ => ∃ h' tk m₂ news₂, s' = { s₂ with heap := h', toks := tk } ∧ Fr h₀ L h' m₂ ∧ News h₀ L h' ((I, oI) :: news₂) ∧ (∀ p ∈ news₂, p.1 ≠ I) ∧ J m₂ news₂
theorem TurnEnd.next {h₀ h' : Heap} {L I : Addr} {oI : Obj} {J : (Str → Option Value) → List (Addr × Obj) → Prop} {s₂ : Shared} {Q : Flow → Shared → Prop} {tk : Nat} {m₂ : Str → Option Value} (news₂ : List (Addr × Obj))
    (F : Fr h₀ L h' m₂) (N : News h₀ L h' ((I, oI) :: news₂)) (a : ∀ p ∈ news₂, p.1 ≠ I) (j : J m₂ news₂) : TurnEnd h₀ L I oI J s₂ Q .next { s₂ with heap := h', toks := tk } := ⟨h', tk, m₂, news₂, rfl, F, N, a, j⟩
section
variable {prog : Program} {w : World} {A : Around} {E : Value → Shared → Prop} {s : Shared} {env : Env} {h₀ : Heap} {x : Str} {body : List Stmt} {Q : Flow → Shared → Prop}
theorem for_core {I D : Addr} {n : Nat} {P : Nat → Value → Prop} {St : Nat → Heap → Prop} {m : Str → Option Value} {news : List (Addr × Obj)} {s₂ : Shared} (J : Nat → (Str → Option Value) → List (Addr × Obj) → Prop) (oD : Obj)
    (W : Walks prog w A I [I, D] [I] n P St) (hst : St 0 s₂.heap) (F : Fr h₀ env.locals s₂.heap m) (N : News h₀ env.locals s₂.heap news) (hI : h₀.get? I = none) (hLI : env.locals ≠ I) (hLD : env.locals ≠ D) (hnI : ∀ p ∈ news, p.1 ≠ I)
    (live : ∀ i h, St i h → ∃ o, h.get? I = some o) (hD : ∀ i m news, J i m news → (D, oD) ∈ news) (h0 : J 0 m news)
    (turn : ∀ i v m₁ news₁ h tk oI, i < n → P i v → J i m₁ news₁ → (∀ p ∈ news₁, p.1 ≠ I) → Fr h₀ env.locals h (fun y => if y = x then some v else m₁ y) → News h₀ env.locals h ((I, oI) :: news₁) →
      wpAny (model prog w) A (execs body env) (TurnEnd h₀ env.locals I oI (J (i + 1)) { s₂ with heap := h, toks := tk } Q) E { s₂ with heap := h, toks := tk })
    (done : ∀ h tk m₁ news₁, J n m₁ news₁ → Fr h₀ env.locals h m₁ → News h₀ env.locals h news₁ → Q .next { s₂ with heap := h, toks := tk }) :
    LoopAtV prog w A h₀ env x body Q E (.ref I) s₂ := by
  refine ⟨I, [I, D], [I], n, P, St, m, news, J, rfl, W, ?_, ?_, ?_, hst, F, N, h0, ?_, ?_⟩
  · intro hm
    rcases List.mem_cons.mp hm with e | hm
    · exact hLI e
    · exact hLD (List.mem_singleton.mp hm)
  · intro b hb; rw [List.mem_singleton.mp hb]; exact hI
  · intro p hp hm; exact hnI p hp (List.mem_singleton.mp hm)
  · rintro i v m₁ news₁ s₁ own ⟨h, tk, rfl⟩ hin hP hJ hoff hown hlive hall hst₁ F₁ N₁
    obtain ⟨oI, hoI⟩ := live _ _ hst₁
    have hoff' : ∀ p ∈ news₁, p.1 ≠ I := fun p hp e => hoff p hp (List.mem_singleton.mpr e)
    have hIown : (I, oI) ∈ own := hall I (.head _) hI oI hoI
    have N₂ : News h₀ env.locals h ((I, oI) :: news₁) := fun p hp => by
      rcases List.mem_cons.mp hp with rfl | hp
      · exact N₁ _ (List.mem_append_left _ hIown)
      · exact N₁ _ (List.mem_append_right _ hp)
    refine wpAny_mono (turn i v m₁ news₁ h tk oI hin hP hJ hoff' F₁ N₂) (fun f s₃ hf => ?_) fun _ _ e => e
    have fin : (∃ h' tk' m₂ news₂, s₃ = { s₂ with heap := h', toks := tk' } ∧ Fr h₀ env.locals h' m₂ ∧ News h₀ env.locals h' ((I, oI) :: news₂) ∧ (∀ p ∈ news₂, p.1 ≠ I) ∧ J (i + 1) m₂ news₂) →
        LoopStepU h₀ env.locals [I] own (J (i + 1)) { s₂ with heap := h, toks := tk } .next s₃ := by
      rintro ⟨h', tk', m₂, news₂, rfl, F', N', a, j⟩
      refine ⟨rfl, h', tk', m₂, news₂, rfl, F', fun p hp => ?_, fun p hp hm => a p hp (List.mem_singleton.mp hm), j⟩
      rcases List.mem_append.mp hp with hp | hp
      · have e1 := hlive p hp
        have e2 := hown p hp
        rcases List.mem_cons.mp e2 with e2 | e2
        · have : p = (I, oI) := by
            have hoI' : h.get? p.1 = some oI := by rw [e2]; exact hoI
            have e1' : h.get? p.1 = some p.2 := e1
            rw [hoI'] at e1'
            exact Prod.ext e2 (Option.some.inj e1').symm
          rw [this]; exact N' _ (.head _)
        · have e2 := List.mem_singleton.mp e2
          have hDm := hD _ _ _ hJ
          have hoD := (N₂ _ (.tail _ hDm)).1
          have : p = (D, oD) := by
            have hoD' : h.get? p.1 = some oD := by rw [e2]; exact hoD
            have e1' : h.get? p.1 = some p.2 := e1
            rw [hoD'] at e1'
            exact Prod.ext e2 (Option.some.inj e1').symm
          rw [this]; exact N' _ (.tail _ (hD _ _ _ j))
      · exact N' p (.tail _ hp)
    cases f with
    | ret v => exact .ret hf
    | brk => exact .brk hf
    | next => exact .next (fin hf)
    | cont => exact .cont (fin hf)
  · intro h' tk m' news' F' N' _ hJ
    exact done h' tk m' news' hJ F' N'

/-- a loop over a list of the call's own -/
theorem iter_list {D : Addr} {vs : List Value} {m : Str → Option Value} {news : List (Addr × Obj)} (J : Nat → (Str → Option Value) → List (Addr × Obj) → Prop) {ep : Nat}
    (hh : A.handled = none) (F : Fr h₀ env.locals s.heap m) (N : News h₀ env.locals s.heap news) (hD : ∀ i m news, J i m news → (D, (listOf vs.toArray ep)) ∈ news) (h0 : J 0 m news)
    (turn : ∀ i v m₁ news₁ h tk I oI, vs[i]? = some v → J i m₁ news₁ → (∀ p ∈ news₁, p.1 ≠ I) → Fr h₀ env.locals h (fun y => if y = x then some v else m₁ y) → News h₀ env.locals h ((I, oI) :: news₁) →
      wpAny (model prog w) A (execs body env) (TurnEnd h₀ env.locals I oI (J (i + 1)) { s with heap := h, toks := tk } Q) E { s with heap := h, toks := tk })
    (done : ∀ h tk m₁ news₁, J vs.length m₁ news₁ → Fr h₀ env.locals h m₁ → News h₀ env.locals h news₁ → Q .next { s with heap := h, toks := tk }) :
    wpAny (model prog w) A (pyIter (.ref D)) (fun it s₂ => LoopAtV prog w A h₀ env x body Q E it s₂) E s := by
  have hDm := hD _ _ _ h0
  have hDh := (N _ hDm).1
  have hl : s.heap.IsList D vs.toArray := ⟨_, hDh, rfl, _, rfl⟩
  have hlt : D < s.heap.objs.size := Heap.lt_size hDh
  refine wpAny_pyIter_list hl ?_
  have W := Walks.list (prog := prog) (w := w) hh s.heap.objs.size D (Nat.ne_of_lt hlt) vs.toArray
  refine for_core J _ W ⟨⟨_, Heap.get?_push_size _ rfl, rfl, rfl⟩, hl.push _⟩ (F.push _) (fun p hp => ⟨Heap.get?_push_of_some _ (N p hp).1, (N p hp).2⟩) (next_is_new F) (Nat.ne_of_lt F.ns.lt) (N _ hDm).2.1.symm (fun p hp => Nat.ne_of_lt (Heap.lt_size (N p hp).1))
    (fun i h st => by obtain ⟨o, e, _⟩ := st.1; exact ⟨o, e⟩) hD h0 (fun i v m₁ news₁ h tk oI hi hP hJ hoff F₁ N₁ => ?_) (fun h tk m₁ news₁ hJ F₁ N₁ => done h tk m₁ news₁ (by simpa using hJ) F₁ N₁)
  exact turn i v m₁ news₁ h tk _ oI (by simpa using hP) hJ hoff F₁ N₁
/-- a loop over a tuple of the call's own -/
theorem iter_tup {D : Addr} {vs : List Value} {m : Str → Option Value} {news : List (Addr × Obj)} (J : Nat → (Str → Option Value) → List (Addr × Obj) → Prop)
    (hh : A.handled = none) (F : Fr h₀ env.locals s.heap m) (N : News h₀ env.locals s.heap news) (hD : ∀ i m news, J i m news → (D, tup vs) ∈ news) (h0 : J 0 m news)
    (turn : ∀ i v m₁ news₁ h tk I oI, vs[i]? = some v → J i m₁ news₁ → (∀ p ∈ news₁, p.1 ≠ I) → Fr h₀ env.locals h (fun y => if y = x then some v else m₁ y) → News h₀ env.locals h ((I, oI) :: news₁) →
      wpAny (model prog w) A (execs body env) (TurnEnd h₀ env.locals I oI (J (i + 1)) { s with heap := h, toks := tk } Q) E { s with heap := h, toks := tk })
    (done : ∀ h tk m₁ news₁, J vs.length m₁ news₁ → Fr h₀ env.locals h m₁ → News h₀ env.locals h news₁ → Q .next { s with heap := h, toks := tk }) :
    wpAny (model prog w) A (pyIter (.ref D)) (fun it s₂ => LoopAtV prog w A h₀ env x body Q E it s₂) E s := by
  have hDm := hD _ _ _ h0
  have hDh := (N _ hDm).1
  have hl : s.heap.IsTuple D vs.toArray := ⟨_, hDh, rfl, _, rfl⟩
  have hlt : D < s.heap.objs.size := Heap.lt_size hDh
  refine wpAny_pyIter_tuple hl ?_
  have W := Walks.tuple (prog := prog) (w := w) hh s.heap.objs.size D (Nat.ne_of_lt hlt) vs.toArray
  have hl' : (s.heap.push { cls := .type "tuple_iterator", data := .fields #[.ref D, .int 0 0] }).IsTuple D vs.toArray := by obtain ⟨o, e, r⟩ := hl; exact ⟨o, Heap.get?_push_of_some _ e, r⟩
  refine for_core J _ W ⟨⟨_, Heap.get?_push_size _ rfl, rfl, rfl⟩, hl'⟩ (F.push _) (fun p hp => ⟨Heap.get?_push_of_some _ (N p hp).1, (N p hp).2⟩) (next_is_new F) (Nat.ne_of_lt F.ns.lt) (N _ hDm).2.1.symm (fun p hp => Nat.ne_of_lt (Heap.lt_size (N p hp).1))
    (fun i h st => by obtain ⟨o, e, _⟩ := st.1; exact ⟨o, e⟩) hD h0 (fun i v m₁ news₁ h tk oI hi hP hJ hoff F₁ N₁ => ?_) (fun h tk m₁ news₁ hJ F₁ N₁ => done h tk m₁ news₁ (by simpa using hJ) F₁ N₁)
  exact turn i v m₁ news₁ h tk _ oI (by simpa using hP) hJ hoff F₁ N₁
end
end
section
section
variable {prog : Program} {w : World} {A : Around} {E : Value → Shared → Prop} {s : Shared} {k : Kd} {h₀ : Heap} {L : Addr} {m : Str → Option Value} {news : List (Addr × Obj)} {Q : Flow → Shared → Prop} {t : Sem Flow}
theorem cut3 (k : Kd) (a b c : Str) (va vb vc : List Nat) (_F : Fr h₀ L s.heap m) (_N : News h₀ L s.heap news)
    (h1 : ∀ Q' : Flow → Shared → Prop, (∀ h' tk t1 t2 t3, Fr h₀ L h' (fun y => if y = c then some (tx k vc t3) else if y = b then some (tx k vb t2) else if y = a then some (tx k va t1) else m y) → News h₀ L h' news → Q' .next { s with heap := h', toks := tk }) → wpAny (model prog w) A t Q' E s)
    (h2 : ∀ h' tk t1 t2 t3, Fr h₀ L h' (fun y => if y = c then some (tx k vc t3) else if y = b then some (tx k vb t2) else if y = a then some (tx k va t1) else m y) → News h₀ L h' news → Q .next { s with heap := h', toks := tk }) : wpAny (model prog w) A t Q E s := h1 Q h2
end
theorem upd_push {D : Addr} {us : List Value} {n : Nat} {x : Value} {news news' : List (Addr × Obj)} (U : Upd D (listOf us.toArray n) (listOf (us ++ [x]).toArray (n + 1)) news news') : Upd D (listOf us.toArray n) (listOf (us.toArray.push x) (n + 1)) news news' := by
  have e : (us ++ [x]).toArray = us.toArray.push x := by simp
  rw [← e]; exact U
theorem r_append {prog : Program} {w : World} {A : Around} {E : Value → Shared → Prop} {s : Shared} {h₀ : Heap} {L D : Addr} {m : Str → Option Value} {us : List Value} {n : Nat} {x : Value} {news news' : List (Addr × Obj)} {Q : Value → Shared → Prop} (F : Fr h₀ L s.heap m) (N : News h₀ L s.heap news) (U : Upd D (listOf us.toArray n) (listOf (us ++ [x]).toArray (n + 1)) news news') (hz : us.length ≤ 5000)
    (h : ∀ h', Fr h₀ L h' m → News h₀ L h' news' → Q .none { s with heap := h' }) : wpAny (model prog w) A (call (.builtin "list.append") [.ref D, x]) Q E s :=
  append_K F N (upd_push U) h (by rw [sizeLine_eq, List.size_toArray]; exact Nat.le_trans hz (by decide))
local macro_rules | `(tactic| walk_at "call builtin:list.append") => `(tactic| (k_here; (with_reducible show wpAny _ _ (call (Value.builtin _) [Value.ref _, tx _ _ _]) _ _ _); k_dflt (refine' r_append ?k1 ?k2 ?k3 ?z ?_; (case k1 => k_asm); (case k2 => k_asm); (case k3 => k_upd); (case z => assumption); k_whole); intro h' F' N'; (try k_sweep); (try dsimp only)))
theorem map_but {m₁ m : Str → Option Value} {x : Str} {v : Value} (h : ∀ z, z ≠ x → m₁ z = m z) : (fun y => if y = x then some v else m₁ y) = fun y => if y = x then some v else m y := by
  funext y
  by_cases e : y = x
  · simp [e]
  · simp only [if_neg e]; exact h y e
theorem map_done {m₁ m : Str → Option Value} {x : Str} (h : ∀ z, z ≠ x → m₁ z = m z) : m₁ = fun y => if y = x then m₁ x else m y := by
  funext y
  by_cases e : y = x
  · simp [e]
  · simp only [if_neg e]; exact h y e
/-- a turn's end: the item is left out, or it stands at the list's end -/
inductive GrowEnd (h₀ : Heap) (L : Addr) (m : Str → Option Value) (x : Str) (pre : Addr × Obj) (D2 : Addr) (rest : List (Addr × Obj)) (k : Kd) (us : List Value) (c : List Nat) (s : Shared) : Bool → Flow → Shared → Prop
  | skip {h' tk m' n'} : Fr h₀ L h' m' → (∀ z, z ≠ x → m' z = m z) → News h₀ L h' (pre :: (D2, listOf us.toArray n') :: rest) → GrowEnd h₀ L m x pre D2 rest k us c s false .cont { s with heap := h', toks := tk }
  | add {h' tk m' n' t'} : Fr h₀ L h' m' → (∀ z, z ≠ x → m' z = m z) → News h₀ L h' (pre :: (D2, listOf (us ++ [tx k c t']).toArray n') :: rest) → GrowEnd h₀ L m x pre D2 rest k us c s true .next { s with heap := h', toks := tk }
theorem iter_grow {prog : Program} {w : World} {A : Around} {E : Value → Shared → Prop} {s : Shared} {env : Env} {h₀ : Heap} {x : Str} {body : List Stmt} {Q : Flow → Shared → Prop} {k : Kd} {D D2 : Addr} {vs : List Value} {ls : List (List Nat)} {m : Str → Option Value} {rest : List (Addr × Obj)} (p : List Nat → Bool)
    (hh : A.handled = none) (F : Fr h₀ env.locals s.heap m) (N : News h₀ env.locals s.heap ((D2, listOf #[] 0) :: (D, lst vs) :: rest)) (hv : TxsAre k vs ls)
    (turn : ∀ c t us n h tk I oI, c ∈ ls → us.length ≤ ls.length → @Ne Nat I D2 → Fr h₀ env.locals h (fun y => if y = x then some (tx k c t) else m y) → News h₀ env.locals h ((I, oI) :: (D2, listOf us.toArray n) :: (D, lst vs) :: rest) →
      wpAny (model prog w) A (execs body env) (GrowEnd h₀ env.locals m x (I, oI) D2 ((D, lst vs) :: rest) k us c s (p c)) E { s with heap := h, toks := tk })
    (done : ∀ u us n h tk, TxsAre k us (ls.filter p) → Fr h₀ env.locals h (fun y => if y = x then u else m y) → News h₀ env.locals h ((D2, listOf us.toArray n) :: (D, lst vs) :: rest) → Q .next { s with heap := h, toks := tk }) :
    wpAny (model prog w) A (pyIter (.ref D)) (fun it s₂ => LoopAtV prog w A h₀ env x body Q E it s₂) E s := by
  refine iter_list (vs := vs) (fun i m₁ news₁ => (∀ z, z ≠ x → m₁ z = m z) ∧ ∃ us n, news₁ = (D2, listOf us.toArray n) :: (D, lst vs) :: rest ∧ TxsAre k us ((ls.take i).filter p)) (ep := 0) hh F N ?_ ⟨fun _ _ => rfl, [], 0, rfl, by simp; exact .nil⟩ ?_ ?_
  · rintro i m₁ news₁ ⟨_, us, n, rfl, _⟩; exact .tail _ (.head _)
  · rintro i v m₁ news₁ h tk I oI hi ⟨hm, us, n, rfl, hus⟩ hoff F₁ N₁
    have hil : i < vs.length := (List.getElem?_eq_some_iff.mp hi).1
    obtain ⟨c, t, hc, hvi⟩ := hv.at_ i hil
    rw [hi] at hvi
    cases hvi
    rw [map_but hm] at F₁
    have hlen : us.length ≤ ls.length := by
      rw [hus.length]
      exact Nat.le_trans (List.length_filter_le _ _) (by rw [List.length_take]; exact Nat.min_le_right _ _)
    refine wpAny_mono (turn c t us n h tk I oI (List.mem_of_getElem? hc) hlen (fun e => hoff _ (.head _) e.symm) F₁ N₁) (fun f s' hf => ?_) fun _ _ e => e
    have et : ls.take (i + 1) = ls.take i ++ [c] := by rw [List.take_add_one, hc]; rfl
    generalize hp : p c = b at hf
    have off : ∀ (us' : List Value) (n' : Nat), ∀ q ∈ (D2, listOf us'.toArray n') :: (D, lst vs) :: rest, q.1 ≠ I := fun us' n' q hq => by
      rcases List.mem_cons.mp hq with e | hq
      · rw [e]; exact hoff (D2, listOf us.toArray n) (.head _)
      · exact hoff q (.tail _ hq)
    cases hf with
    | skip F' hm' N' => exact ⟨_, _, _, _, rfl, F', N', off _ _, hm', us, _, rfl, by rw [et, List.filter_append, List.filter_cons, hp]; simpa using hus⟩
    | add F' hm' N' => exact ⟨_, _, _, _, rfl, F', N', off _ _, hm', _, _, rfl, by rw [et, List.filter_append, List.filter_cons, hp]; exact hus.app (.cons .nil)⟩
  · rintro h tk m₁ news₁ ⟨hm, us, n, rfl, hus⟩ F₁ N₁
    rw [hv.length, List.take_length] at hus
    rw [map_done hm] at F₁
    exact done _ us n h tk hus F₁ N₁
def good (c : List Nat) : Bool := c != [] && c != [46]
def cmp (l : List Nat) : List (List Nat) := (sp l).filter good
section
variable {w : World} {dp un : Nat} {fr : Option (List Env)} {gd : Option (List Code)} {s : Shared} {Q E : Value → Shared → Prop} {mg mb : Str → Option Value} {loose : List Str} {mean : ExcName → Option Value} {k : Kd} {l : List Nat} {t : Tok}
set_option maxHeartbeats 4000000
theorem c_normpath {root rest : List Nat} (X : (Mine.hd.heap_1 w.params).In s.heap) (T : Top PV loose mean mg mb s.heap) (hd : dp + 3 < recursionLimit)
    (ok : Ok l) (hne : (l != []) = true) (c : Rooted l root rest) (okr : Ok rest) (oko : Ok root) (hdd : ∀ p ∈ sp rest, p ≠ [46, 46]) (hres : (root ++ J (cmp rest) != []) = true) (okres : Ok (J (cmp rest))) (hlen : root.length + (J (cmp rest)).length ≤ 1000)
    (h : Ret s Q (tx k (root ++ J (cmp rest)))) : wpAny (model PR w) (Ar dp un fr gd) (call (.ref 136) [tx k l t]) Q E s := by
  walk_at "mine fill"
  refine' enter (binds := [("path", tx k l t)]) X T.nolimit ?k6 ?k7 ?k8 ?k9 ?kB ?_ ?c2 ?c3 ?c4 ?c5
  walk_at "mine enter"
  walk_at "mine to if"
  refine cut3 k "sep" "dot" "dotdot" [47] [46] [46, 46] (by assumption) (by assumption) (fun Q' hq => ?_) (fun h' tk t1 t2 t3 F' N' => ?_)
  · cases k
    all_goals (k_steps; exact hq _ _ _ _ _ (by assumption) (by assumption))
  · k_sweep
    walk_at "mine to for"
    rename TxsAre _ _ _ => hv
    rename (_ : Nat) < _ ∧ (_ : Nat) < _ => l1
    rename Fr _ _ _ _ => F3
    rename News _ _ _ _ => N3
    have okp := okr.sp
    have hcount : (sp rest).length ≤ 1001 := by have := sp_count rest; have := okr.len; omega
    refine For_invV s.heap (by rfl) (by rfl) ?_ (by intro _; rfl) (by with_unfolding_all passes_own)
    refine ld F3 rfl ?_
    refine iter_grow good (by rfl) F3 N3 hv ?_ ?_
    · intro c tc us n h9 tk9 I oI hc hul hI F9 N9
      have okc := okp c hc
      have ec : (c != [46, 46]) = true := bne_iff_ne.mpr (hdd c hc)
      have hul' : us.length ≤ 5000 := by omega
      by_cases h0 : c = []
      · subst h0
        have e0 : (([] : List Nat) != []) = false := rfl
        rw [show good [] = false from rfl]
        try k_fold
        k_steps
        exact .skip (by assumption) (fun z hz => if_neg hz) (by assumption)
      · have e0 : (c != []) = true := bne_iff_ne.mpr h0
        by_cases h1 : c = [46]
        · subst h1
          have e1 : (([46] : List Nat) == [46]) = true := rfl
          rw [show good [46] = false from rfl]
          try k_fold
          k_steps
          exact .skip (by assumption) (fun z hz => if_neg hz) (by assumption)
        · have e1 : (c == [46]) = false := beq_eq_false_iff_ne.mpr h1
          rw [show good c = true by unfold good; rw [e0, bne, e1]; rfl]
          try k_fold
          k_steps
          exact .add (by assumption) (fun z hz => if_neg hz) (by assumption)
    · intro u us n h9 tk9 hus F9 N9
      have hus : TxsAre k us (cmp rest) := hus
      have hok : ∀ p ∈ cmp rest, Ok p := fun p hp => okp p ((List.mem_filter.mp hp).1)
      have hn : (cmp rest).length ≤ 2000 := Nat.le_trans (List.length_filter_le _ _) (by omega)
      have okall : Ok (root ++ J (cmp rest)) := oko.app okres hlen
      k_sweep
      k_steps
      exact h _ _ _ (by assumption : Fr _ _ _ _).keep
end
end
section
theorem wp_peek1 {α : Type} {K : Frag} {M : Model} {A : Around} {E : Value → Shared → Prop} {Q : α → Shared → Prop} {s : Shared} {o : Obj} {r : Addr → α}
    (X : K.In s.heap) (q : Q (r s.heap.objs.size) { s with heap := s.heap.push o }) :
    ∀ (t : Sem α) (g : Addr → Option α), peek1 K ⟨M.prog, M.w.params⟩ t = some (o, g) → (∀ D, g D = some (r D)) → wpAny M A t Q E s := by
  intro t
  induction t with
  | rule _ k ih => intro g e hg Γ p hΓ; exact ih () g e hg Γ p hΓ
  | point _ k ih => intro g e hg Γ p hΓ; exact ih () g e hg Γ p hΓ
  | ask k ih => intro g e hg Γ p hΓ; exact ih _ g e hg Γ p hΓ
  | load a _ k ih =>
    intro g e hg Γ p hΓ
    simp only [peek1] at e
    split at e
    · rename_i ob ho; exact ⟨ob, X _ _ ho, ih ob g e hg Γ p hΓ⟩
    · cases e
  | alloc ob k _ =>
    intro g e hg
    have e : some (ob, fun D => peek K ⟨M.prog, M.w.params⟩ (k D)) = some (o, g) := e
    obtain ⟨e1, e2⟩ := Prod.mk.inj (Option.some.inj e)
    subst e1
    subst e2
    have X' : K.In (s.heap.push ob) := X.keeps fun b x hb => Heap.get?_push_of_some _ hb
    show wpAny M A (alloc ob >>= k) Q E s
    refine wpAny_bind (wpAny_alloc ?_)
    exact (Looks.of_peek (M := M) (h := s.heap.push ob) X' (hg s.heap.objs.size)).here (s := { s with heap := s.heap.push ob }) q
  | _ => intro g e; cases e
/-- into a def that takes '*p' -/
theorem enter_star {w : World} {A : Around} {s : Shared} {Q E : Value → Shared → Prop} {name qual : Str} {params : Arguments} {body : List Stmt} {scope : Scope} {dV kV doc pm cdv ct oc : Value} {an od : Option Addr} {osl : Array (Option Value)} {f : Addr} {args : List Value} (vs : List Value) (binds : Addr → List (Str × Value)) {g₁ : Addr → Option (List (Str × Value))}
    (X : (Mine.hd.heap_1 w.params).In s.heap) (hlim : s.heap.NoLimit)
    (ho : (Mine.hd.heap_1 w.params).lookup f = some ⟨oc, od, .func (fnOf name qual params body scope dV kV doc pm an cdv ct), osl⟩) (hcd : codeIn (Mine.hd.heap_1 w.params) cdv qual = true) (hroom : A.depth < recursionLimit)
    (hp : peek1 (Mine.hd.heap_1 w.params) ⟨PR, w.params⟩ (bindArgs (fnOf name qual params body scope dV kV doc pm an cdv ct) ⟨args, []⟩) = some (tup vs, g₁)) (hg : ∀ D, g₁ D = some (binds D)) (hloc : ∀ D, ∀ y ∈ binds D, scope.names.lookup y.1 = some .local)
    (h : ∀ D L h₁, Fr s.heap L h₁ (fun y => (binds D).reverse.lookup y) → News s.heap L h₁ [(D, tup vs)] →
      wpAny (model PR w) (A.deeper (envOf qual scope L f cdv)) (execs body (envOf qual scope L f cdv)) (fun fl s' => Q (match fl with | .ret v => v | _ => .none) s') (fun _ _ => False) { s with heap := h₁, toks := s.toks + (binds D).length })
    (hco : scope.isCoroutine = false) (hgen : scope.isGenerator = false) (hk : scope.kind = .function) (hcell : ∀ x ∈ scope.names, x.2 ≠ .cell) :
    wpAny (model PR w) A (call (.ref f) args) Q E s := by
  refine wpAny_call ?_
  refine codeAny_call_function (fd := fnOf name qual params body scope dV kV doc pm an cdv ct) (body := body) hroom (X _ _ ho) rfl hco hgen rfl (codeRec_of X hcd) ?_
  refine wp_peek1 (o := tup vs) (r := binds) X ?_ _ g₁ hp hg
  have hD0 : s.heap.get? s.heap.objs.size = none := by
    cases e : s.heap.get? s.heap.objs.size with
    | none => rfl
    | some o => exact absurd (Heap.lt_size e) (Nat.lt_irrefl _)
  have hlim' : (s.heap.push (tup vs)).NoLimit := hlim.keeps fun b o e => Heap.get?_push_of_some _ e
  refine wpAny_newFunctionEnv hcell (hloc _) (fun h₁ hns hsb => ⟨hlim'.fresh _ hsb, codeAny_func ?_⟩) hk
  have hk₁ : ∀ b o, (s.heap.push (tup vs)).get? b = some o → h₁.get? b = some o := fun b o e => hsb.extBut b o (Nat.ne_of_lt (Heap.lt_size e)) (Heap.get?_push_of_some _ e)
  have hle : s.heap.objs.size ≤ (s.heap.push (tup vs)).objs.size := by rw [Heap.size_push]; exact Nat.le_succ _
  refine wpAny_mono (h s.heap.objs.size (s.heap.push (tup vs)).objs.size h₁ ⟨hns, fun b o e => hk₁ b o (Heap.get?_push_of_some _ e), hle⟩ ?_) (fun fl s' hl => hl) fun _ _ y => y.elim
  intro p hp
  rw [List.mem_singleton.mp hp]
  refine ⟨hk₁ _ _ (Heap.get?_push_size _ rfl), ?_, hD0⟩
  show s.heap.objs.size ≠ (s.heap.push (tup vs)).objs.size
  rw [Heap.size_push]; exact Nat.ne_of_lt (Nat.lt_succ_self _)
/-- one step of a join -/
def jst (p b : List Nat) : List Nat := if b.head? == some 47 || p == [] then b else if p.getLast? == some 47 then p ++ b else p ++ ([47] ++ b)
def jn (l : List Nat) (ls : List (List Nat)) : List Nat := ls.foldl jst l
theorem jn_succ {l : List Nat} {ls : List (List Nat)} {i : Nat} {c : List Nat} (h : ls[i]? = some c) : jn l (ls.take (i + 1)) = jst (jn l (ls.take i)) c := by
  unfold jn; rw [List.take_add_one, h, List.foldl_append]; rfl
inductive JoinEnd (h₀ : Heap) (L : Addr) (m : Str → Option Value) (p : List Nat) (k : Kd) (news : List (Addr × Obj)) (s : Shared) : Flow → Shared → Prop
  | next {h' tk m'} : Fr h₀ L h' m' → (∀ z : Str, z ≠ "b" → z ≠ "path" → m' z = m z) → (∃ t', m' "path" = some (tx k p t')) → News h₀ L h' news → JoinEnd h₀ L m p k news s .next { s with heap := h', toks := tk }
theorem iter_join {prog : Program} {w : World} {A : Around} {E : Value → Shared → Prop} {s : Shared} {env : Env} {h₀ : Heap} {body : List Stmt} {Q : Flow → Shared → Prop} {k : Kd} {D : Addr} {vs : List Value} {ls : List (List Nat)} {m : Str → Option Value} {l : List Nat} {t0 : Tok}
    (hv : TxsAre k vs ls) (hh : A.handled = none) (F : Fr h₀ env.locals s.heap (fun y => if y = "path" then some (tx k l t0) else m y)) (N : News h₀ env.locals s.heap [(D, tup vs)]) (okj : ∀ i, Ok (jn l (ls.take i)))
    (turn : ∀ c tc tp p h tk I oI, c ∈ ls → Ok p → Ok (jst p c) → Fr h₀ env.locals h (fun y => if y = "b" then some (tx k c tc) else if y = "path" then some (tx k p tp) else m y) → News h₀ env.locals h [(I, oI), (D, tup vs)] →
      wpAny (model prog w) A (execs body env) (JoinEnd h₀ env.locals m (jst p c) k [(I, oI), (D, tup vs)] s) E { s with heap := h, toks := tk })
    (done : ∀ u tp h tk, Fr h₀ env.locals h (fun y => if y = "b" then u else if y = "path" then some (tx k (jn l ls) tp) else m y) → News h₀ env.locals h [(D, tup vs)] → Q .next { s with heap := h, toks := tk }) :
    wpAny (model prog w) A (pyIter (.ref D)) (fun it s₂ => LoopAtV prog w A h₀ env "b" body Q E it s₂) E s := by
  refine iter_tup (vs := vs) (fun i m₁ news₁ => news₁ = [(D, tup vs)] ∧ ∃ t', ∀ z : Str, z ≠ "b" → m₁ z = if z = "path" then some (tx k (jn l (ls.take i)) t') else m z) hh F N ?_ ⟨rfl, t0, fun _ _ => rfl⟩ ?_ ?_
  · rintro i m₁ news₁ ⟨rfl, _⟩; exact .head _
  · rintro i v m₁ news₁ h tk I oI hi ⟨rfl, t', hm⟩ hoff F₁ N₁
    obtain ⟨c, t, hc, hvi⟩ := hv.at_ i (List.getElem?_eq_some_iff.mp hi).1
    rw [hi] at hvi
    cases hvi
    rw [map_but hm] at F₁
    have es := jn_succ (l := l) hc
    refine wpAny_mono (turn c t t' _ h tk I oI (List.mem_of_getElem? hc) (okj i) (es ▸ okj (i + 1)) F₁ N₁) (fun f s' hf => ?_) fun _ _ e => e
    cases hf with
    | next F' hm' hp' N' =>
      obtain ⟨t'', ht⟩ := hp'
      exact ⟨_, _, _, _, rfl, F', N', hoff, rfl, t'', fun z hz => by
        rw [es]
        by_cases e : z = Str.ofString "path"
        · rw [if_pos e, e]; exact ht
        · rw [if_neg e]; exact hm' z hz e⟩
  · rintro h tk m₁ news₁ ⟨rfl, t', hm⟩ F₁ N₁
    rw [hv.length, List.take_length] at hm
    rw [map_done hm] at F₁
    exact done (m₁ "b") t' h tk F₁ N₁
local macro_rules | `(tactic| walk_at "mine to for") => `(tactic| repeat' (first | ((fail_if_success (with_reducible show wpAny _ _ (exec (Stmt.For _ _ _ _ _) _) _ _ _)); first | (k_unfold; (try dsimp only)) | walk1 | (dsimp only; walk1)) | fail "no step"))
section
variable {w : World} {dp un : Nat} {fr : Option (List Env)} {gd : Option (List Code)} {s : Shared} {Q E : Value → Shared → Prop} {mg mb : Str → Option Value} {loose : List Str} {mean : ExcName → Option Value} {k : Kd} {l : List Nat} {t : Tok}
set_option maxHeartbeats 4000000
theorem c_join {vs : List Value} {ls : List (List Nat)} (X : (Mine.hd.heap_1 w.params).In s.heap) (T : Top PV loose mean mg mb s.heap) (hd : dp + 2 < recursionLimit)
    (hv : TxsAre k vs ls) (hc : (∃ v, vs = [v]) ∨ ∃ v1 v2 v3 v4, vs = [v1, v2, v3, v4]) (okb : ∀ b ∈ ls, Ok b) (okj : ∀ i, Ok (jn l (ls.take i)))
    (h : Ret s Q (tx k (jn l ls))) : wpAny (model PR w) (Ar dp un fr gd) (call (.ref 115) (tx k l t :: vs)) Q E s := by
  walk_at "mine fill"
  refine' enter_star vs (fun D => [("a", tx k l t), ("p", .ref D)]) (g₁ := fun D => some [("a", tx k l t), ("p", .ref D)]) X T.nolimit ?k6 ?k7 ?k8 ?hp ?hg ?kB ?_ ?c2 ?c3 ?c4 ?c5
  (case k6 => k_is); (case k7 => k_is); (case k8 => first | omega | (show _ < _; dsimp only; omega))
  (case hp => rcases hc with ⟨v, rfl⟩ | ⟨v1, v2, v3, v4, rfl⟩ <;> exact rfl)
  (case hg => exact fun _ => rfl)
  (case kB => exact fun D => locs rfl)
  (case c2 => exact rfl); (case c3 => exact rfl); (case c4 => exact rfl); (case c5 => decide)
  intro D L h₁ F N
  try dsimp only
  try k_fold
  walk_at "mine to for"
  rename Fr _ _ _ _ => F3
  rename News _ _ _ _ => N3
  refine For_invV s.heap (by rfl) (by rfl) ?_ (by intro _; rfl) (by with_unfolding_all passes_own)
  refine ld F3 rfl ?_
  refine iter_join (l := l) hv (by rfl) F3 N3 okj ?_ ?_
  · intro c tc tp p h9 tk9 I oI hcm okp okq F9 N9
    have okc := okb c hcm
    by_cases h0 : (c.head? == some 47) = true
    · have e0 : jst p c = c := by unfold jst; rw [h0]; rfl
      rw [e0]
      try k_fold
      k_steps
      exact .next (by assumption) (fun z hz hy => by simp only [if_neg hz, if_neg hy]) ⟨_, rfl⟩ (by assumption)
    · have h0 : (c.head? == some 47) = false := by simpa using h0
      by_cases h1 : p = []
      · subst h1
        have e0 : jst [] c = c := by unfold jst; simp
        have e1 : (([] : List Nat) != []) = false := rfl
        rw [e0]
        try k_fold
        k_steps
        exact .next (by assumption) (fun z hz hy => by simp only [if_neg hz, if_neg hy]) ⟨_, rfl⟩ (by assumption)
      · have e1 : (p != []) = true := bne_iff_ne.mpr h1
        by_cases h2 : (p.getLast? == some 47) = true
        · have e0 : jst p c = p ++ c := by unfold jst; rw [h0, h2]; simp [h1]
          rw [e0]
          rw [e0] at okq
          try k_fold
          k_steps
          exact .next (by assumption) (fun z hz hy => by simp only [if_neg hz, if_neg hy]) ⟨_, rfl⟩ (by assumption)
        · have h2 : (p.getLast? == some 47) = false := by simpa using h2
          have e0 : jst p c = p ++ ([47] ++ c) := by unfold jst; rw [h0, h2]; simp [h1]
          have oks : Ok ([47] ++ c) := by
            rw [e0] at okq
            exact ⟨fun x hx => okq.lt x (List.mem_append_right _ hx), by have := okq.len; rw [List.length_append] at this; omega⟩
          rw [e0]
          rw [e0] at okq
          try k_fold
          k_steps
          exact .next (by assumption) (fun z hz hy => by simp only [if_neg hz, if_neg hy]) ⟨_, rfl⟩ (by assumption)
  · intro u tp h9 tk9 F9 N9
    k_sweep
    k_steps
    exact h _ _ _ (by assumption : Fr _ _ _ _).keep
end
end
section
theorem compTurn_set (elt target iter : Expr) (ifs : List Expr) (scope : Scope) (pos : Pos) (it acc : Value) (env : Env) :
    compTurn (.SetComp elt [⟨target, iter, ifs, 0⟩] scope pos) 0 it acc env = (do
      standAt iter.pos
      match ← pyNext it with
      | none => pure (.done .next)
      | some v =>
        letOwnedTupleGo target it v
        assign target env v
        let mut ok := true
        for c in ifs do
          if ok then ok ← isTrue c env (eval c env)
        if ok then
          (do let v ← eval elt env; standAt elt.pos; let _ ← call (.builtin "set.add") [acc, v])
        again (.compLoop (.SetComp elt [⟨target, iter, ifs, 0⟩] scope pos) 0 it acc env)) := by rfl
/-- a list's or a set's comprehension of one clause, and what takes an element in -/
inductive Cmp1 (elt iter target : Expr) (ifs : List Expr) (scope : Scope) (pos : Pos) : Expr → String → Prop
  | list : Cmp1 elt iter target ifs scope pos (.ListComp elt [⟨target, iter, ifs, 0⟩] scope pos) "list.append"
  | set : Cmp1 elt iter target ifs scope pos (.SetComp elt [⟨target, iter, ifs, 0⟩] scope pos) "set.add"
section
variable {prog : Program} {w : World} {A : Around} {R : Result → Shared → Prop} {s : Shared}
theorem cl_both {e elt target iter : Expr} {nm : String} {ifs : List Expr} {scope : Scope} {pos : Pos} {it acc : Value} {env : Env} (hc : Cmp1 elt iter target ifs scope pos e nm) (I : Nat → Shared → Prop)
    (turn : ∀ n s, I n s → wpAny (model prog w) A (pyNext it) (fun r s₁ => match r with
      | none => R (.ok .next) s₁
      | some v => wpAny (model prog w) A (assign target env v) (fun _ s₂ =>
          wpAny (model prog w) A (forIn ifs true fun c r => if r = true then do let ok ← isTrue c env (eval c env); pure (ForInStep.yield ok) else pure (ForInStep.yield r)) (fun ok s₃ =>
            if ok = true then wpAny (model prog w) A (eval elt env) (fun x s₄ =>
              wpAny (model prog w) A (call (.builtin nm) [acc, x]) (fun _ s₅ => ∃ m, m < n ∧ I m s₅) (notedBy (model prog w) A env fun e s' => R (.error e) s') s₄) (notedBy (model prog w) A env fun e s' => R (.error e) s') s₃
            else ∃ m, m < n ∧ I m s₃) (notedBy (model prog w) A env fun e s' => R (.error e) s') s₂) (notedBy (model prog w) A env fun e s' => R (.error e) s') s₁) (notedBy (model prog w) A env fun e s' => R (.error e) s') s)
    (n : Nat) (h : I n s) (ht : ∀ v, letOwnedTupleGo target it v = pure ()) :
    codeAny (model prog w) A (.compLoop e 0 it acc env) R s := by
  cases hc with
  | list => exact codeAny_compLoop_tests I turn n h ht
  | set =>
    refine codeAny_loop rfl I (fun n s hI => ?_) n h
    show wpAny _ A ((compTurn (.SetComp elt [⟨target, iter, ifs, 0⟩] scope pos) 0 it acc env).onRaise (fun x => do noteFrame x env; theTreesLotGoes x)) _ _ s
    refine wpAny_noted ?_
    rw [compTurn_set]
    refine wpAny_bind (wpAny_standAt (wpAny_bind (wpAny_mono (turn n s hI) (fun r s₁ h₁ => ?_) fun _ _ h' => h')))
    cases r with
    | none => exact wpAny_pure h₁
    | some v =>
      refine wpAny_bind (wpAny_of_eq (ht v) ?_)
      refine wpAny_bind (wpAny_mono h₁ (fun _ s₂ h₂ => wpAny_bind (wpAny_mono h₂ (fun ok s₃ h₃ => ?_) fun _ _ h' => h')) fun _ _ h' => h')
      cases ok with
      | false => exact wpAny_pure ⟨rfl, h₃⟩
      | true =>
        exact wpAny_bind (wpAny_bind (wpAny_mono h₃ (fun x s₄ h₄ => wpAny_bind (wpAny_standAt (wpAny_bind (wpAny_mono h₄ (fun _ s₅ h₅ => wpAny_pure (wpAny_pure ⟨rfl, h₅⟩)) fun _ _ h' => h')))) fun _ _ h' => h'))
end
theorem cs_both {prog : Program} {w : World} {A : Around} {R : Result → Shared → Prop} {s : Shared} {e elt target iter : Expr} {nm : String} {ifs : List Expr} {scope : Scope} {pos : Pos} {it acc : Value} {env : Env} (hc : Cmp1 elt iter target ifs scope pos e nm)
    (h0 : codeAny (model prog w) A (.compLoop e 0 it acc env) R s)
    (h : wpAny (model prog w) A (pyIter it) (fun it' s' => codeAny (model prog w) A (.compLoop e 0 it' acc env) R s') (notedBy (model prog w) A env fun x s' => R (.error x) s') s) :
    codeAny (model prog w) A (.compStart e 0 it acc env) R s := by
  cases hc with
  | list => exact codeAny_compStart_list h0 h
  | set =>
    refine codeAny_of_tree ?_
    show wpAny _ A ((compStart (.SetComp elt [⟨target, iter, ifs, 0⟩] scope pos) 0 it acc env).onRaise (fun x => do noteFrame x env; standAt theWindowsPlace)) _ _ s
    refine wpAny_notedAt ?_
    unfold compStart
    show wpAny _ _ (ask >>= _) _ _ s
    refine wpAny_bind (wpAny_askSetting (wpAny_ite ?_))
    split
    · first
        | exact wpAny_bind (wpAny_pure (wpAny_pure (And.intro rfl h0)))
        | exact wpAny_pure (And.intro rfl h0)
    · first
        | exact wpAny_bind (wpAny_rule (wpAny_bind (wpAny_standAt (wpAny_bind (wpAny_mono h (fun it' s' h' => wpAny_pure (And.intro rfl h')) fun _ _ x => x)))))
        | (refine wpAny_bind (wpAny_rule ?_); show wpAny _ _ (standAt iter.pos >>= _) _ _ s; exact wpAny_bind (wpAny_standAt (wpAny_bind (wpAny_mono h (fun it' s' h' => wpAny_pure (And.intro rfl h')) fun _ _ x => x))))
/-- a turn's end: what the block owns stands, the rest as `J` says -/
inductive CEnd (h₀ : Heap) (L : Addr) (m : Str → Option Value) (s₁ : Shared) (I : Addr) (oI : Obj) (C : Addr) (oC : Obj) (D : Addr) (J : Obj → List (Addr × Obj) → Prop) : Shared → Prop
  | mk {h' tk oA news'} : Fr h₀ L h' m → News h₀ L h' ((I, oI) :: (C, oC) :: (D, oA) :: news') → LCg.Off3 I C D news' → J oA news' → CEnd h₀ L m s₁ I oI C oC D J { s₁ with heap := h', toks := tk }
def CTurn (prog : Program) (w : World) (A : Around) (h₀ : Heap) (L : Addr) (m : Str → Option Value) (env : Env) (elt : Expr) (x : Str) (ifs : List Expr) (scope : Scope) (cl : List (Str × Addr)) (nm : String) (n : Nat) (P : Nat → Value → Prop) (J : Nat → Obj → List (Addr × Obj) → Prop) (s₂ : Shared) : Prop :=
  ∀ i v I oI C oC D oA m₂ news₁ h tk (E' : Value → Shared → Prop), i < n → P i v → J i oA news₁ → LCg.NsObj oC m₂ → m₂ x = some v → Fr h₀ L h m → News h₀ L h ((I, oI) :: (C, oC) :: (D, oA) :: news₁) → LCg.Off3 I C D news₁ → ((@Ne Nat I C) ∧ (@Ne Nat I D) ∧ (@Ne Nat C D)) →
    wpAny (model prog w) A (forIn ifs true fun c r => if r = true then do let ok ← isTrue c (compEnvC scope cl C env) (eval c (compEnvC scope cl C env)); pure (ForInStep.yield ok) else pure (ForInStep.yield r)) (fun ok s₃ =>
      if ok = true then wpAny (model prog w) A (eval elt (compEnvC scope cl C env)) (fun y s₄ => wpAny (model prog w) A (call (.builtin nm) [.ref D, y]) (fun _ s₅ => CEnd h₀ L m { s₂ with heap := h, toks := tk } I oI C oC D (J (i + 1)) s₅) E' s₄) E' s₃
      else CEnd h₀ L m { s₂ with heap := h, toks := tk } I oI C oC D (J (i + 1)) s₃) E' { s₂ with heap := h, toks := tk }
def CompAt (prog : Program) (w : World) (A : Around) (h₀ : Heap) (L : Addr) (m : Str → Option Value) (env : Env) (elt : Expr) (x : Str) (ifs : List Expr) (scope : Scope) (cl : List (Str × Addr)) (nm : String) (P0 : Obj → Prop) (K : Shared → Addr → Obj → List (Addr × Obj) → Prop) (it : Value) (s₂ : Shared) : Prop :=
  ∃ I fp n P St J news, it = .ref I ∧ Walks prog w A I fp [I] n P St ∧ St 0 s₂.heap ∧ (∀ b ∈ fp, b < s₂.heap.objs.size) ∧ (∀ i h, St i h → ∃ o, h.get? I = some o) ∧ (∀ b ∈ fp, b = I ∨ ∃ o, ∀ i oA nw, J i oA nw → (b, o) ∈ nw) ∧
    Fr h₀ L s₂.heap m ∧ News h₀ L s₂.heap news ∧ L ≠ I ∧ h₀.get? I = none ∧ (∀ p ∈ news, p.1 ≠ I) ∧ (∀ o, P0 o → J 0 o news) ∧ CTurn prog w A h₀ L m env elt x ifs scope cl nm n P J s₂ ∧ (∀ D oA nw, J n oA nw → LCg.Off1 D nw → K s₂ D oA nw)
section
variable {prog : Program} {w : World} {A : Around} {E : Value → Shared → Prop} {s : Shared} {h₀ : Heap} {L : Addr} {m : Str → Option Value} {env : Env}
theorem comp_block {e elt iter : Expr} {nm : String} {x : Str} {px : Pos} {ifs : List Expr} {scope : Scope} {cl : List (Str × Addr)} {pos : Pos} {newAcc : Sem Value} {P0 : Obj → Prop} {K : Shared → Addr → Obj → List (Addr × Obj) → Prop} {s₂ : Shared} {it : Value} {RR : Value → Addr → Result → Shared → Prop}
    (hc : Cmp1 elt iter (.Name x px) ifs scope pos e nm) (hnew : ∀ (s' : Shared) (Q' : Value → Shared → Prop), (∀ o, P0 o → o.isFreed = false → Q' (.ref s'.heap.objs.size) { s' with heap := s'.heap.push o }) → wpAny (model prog w) A newAcc Q' E s')
    (hcell : ∀ y ∈ scope.names, y.2 ≠ .cell) (hkind : scope.kind = .function) (hx : scope.names.lookup x = some .local)
    (h : CompAt prog w A h₀ L m env elt x ifs scope cl nm P0 K it s₂)
    (hRR : ∀ D C h tk m' oA news', Fr h₀ L h m → News h₀ L h ((D, oA) :: news') → LCg.Off1 D news' → h.Ns C m' → h₀.get? C = none → h₀.get? D = none → C ≠ L → D ≠ L → C ≠ D → (∀ p ∈ news', p.1 ≠ C) → K s₂ D oA news' → RR (.ref D) C (.ok .next) { s₂ with heap := h, toks := tk }) :
    wpAny (model prog w) A newAcc (fun acc s₃ => wpAny (model prog w) A (newFunctionEnv scope env.globals cl [] env.qual none .none (some env)) (fun cenv s₄ =>
      codeAny (model prog w) A (.compStart e 0 it acc { cenv with scope := relabel scope env }) (RR acc cenv.locals) s₄) E s₃) E s₂ := by
  obtain ⟨I, fp, n, P, St, J, news, rfl, W, hst, hfp, hIo, hsrc, F, N, hIL, hI₀, off, hJ0, turn, done⟩ := h
  refine hnew _ _ fun o₀ hP0 hfree => wpAny_newFunctionEnv hcell (by intro y hy; simp at hy) (fun h₁ hns₁ hsb₁ => ?_) hkind
  dsimp only at hns₁ hsb₁ ⊢
  generalize hH2 : s₂.heap.push o₀ = H2 at hns₁ hsb₁ ⊢
  have hC : H2.objs.size = s₂.heap.objs.size + 1 := by rw [← hH2, Heap.size_push]
  have hDC : s₂.heap.objs.size ≠ H2.objs.size := by rw [hC]; exact Nat.ne_of_lt (Nat.lt_succ_self _)
  have below : ∀ b, b < s₂.heap.objs.size → b ≠ H2.objs.size ∧ b ≠ s₂.heap.objs.size := fun b hb => ⟨by rw [hC]; exact Nat.ne_of_lt (Nat.lt_succ_of_lt hb), Nat.ne_of_lt hb⟩
  have hDf : s₂.heap.objs.size ∉ fp := fun hm => Nat.lt_irrefl _ (hfp _ hm)
  have hCf : H2.objs.size ∉ fp := fun hm => by have := hfp _ hm; rw [hC] at this; exact Nat.lt_irrefl _ (Nat.lt_of_succ_lt this)
  have hIf : I ∈ fp := W.sub I (List.mem_singleton.mpr rfl)
  have hIlt : I < s₂.heap.objs.size := hfp I hIf
  have old : ∀ b o, s₂.heap.get? b = some o → h₁.get? b = some o := fun b o e => hsb₁.extBut b o (below b (Heap.lt_size e)).1 (Heap.get?_push_of_some _ (hH2 ▸ Heap.get?_push_of_some _ e))
  have hacc : h₁.get? s₂.heap.objs.size = some o₀ := hsb₁.extBut _ _ hDC (Heap.get?_push_of_some _ (hH2 ▸ Heap.get?_push_size _ hfree))
  have hst₁ : St 0 h₁ := W.frame _ _ _ hst fun b _ o e => old b o e
  have fresh : ∀ a, s₂.heap.objs.size ≤ a → s₂.heap.get? a = none := fun a ha => by
    cases e : s₂.heap.get? a with
    | none => rfl
    | some o' => exact absurd (Heap.lt_size e) (Nat.not_lt.mpr ha)
  have fresh₀ : ∀ a, s₂.heap.objs.size ≤ a → h₀.get? a = none := fun a ha => by
    cases e : h₀.get? a with
    | none => rfl
    | some o' => have := F.keep a o' e; rw [fresh a ha] at this; cases this
  have hD₀ : h₀.get? s₂.heap.objs.size = none := fresh₀ _ (Nat.le_refl _)
  have hC₀ : h₀.get? H2.objs.size = none := fresh₀ _ (by rw [hC]; exact Nat.le_succ _)
  have hLlt : L < s₂.heap.objs.size := F.ns.lt
  have hDL : s₂.heap.objs.size ≠ L := Ne.symm (below L hLlt).2
  have hCL : H2.objs.size ≠ L := Ne.symm (below L hLlt).1
  have hCI : I ≠ H2.objs.size := (below I hIlt).1
  have hDI : I ≠ s₂.heap.objs.size := (below I hIlt).2
  have off₀ : LCg.Off3 I H2.objs.size s₂.heap.objs.size news := LCg.Off3.of fun p hp => ⟨off p hp, (below _ (Heap.lt_size (N p hp).1)).1, (below _ (Heap.lt_size (N p hp).1)).2⟩
  have loop : ∀ s₃ : Shared, s₃ = { s₂ with heap := h₁, toks := s₂.toks + ([] : List (Str × Value)).length } →
      codeAny (model prog w) A (.compLoop e 0 (.ref I) (.ref s₂.heap.objs.size) (compEnvC scope cl H2.objs.size env))
        (RR (.ref s₂.heap.objs.size) H2.objs.size) s₃ := by
    rintro s₃ rfl
    refine cl_both hc
      (fun k s' => ∃ h' tk i oA m' news', s' = { s₂ with heap := h', toks := tk } ∧ i ≤ n ∧ k = n + 1 - i ∧ St i h' ∧ Fr h₀ L h' m ∧ h'.Ns H2.objs.size m' ∧ News h₀ L h' ((s₂.heap.objs.size, oA) :: news') ∧
        LCg.Off3 I H2.objs.size s₂.heap.objs.size news' ∧ J i oA news') ?_ (n + 1)
      ⟨h₁, _, 0, o₀, _, news, rfl, Nat.zero_le _, rfl, hst₁, F.keeps old, hns₁, fun p hp => ?_, off₀, hJ0 _ hP0⟩ (fun _ => rfl)
    · rintro k s' ⟨h', tk, i, oA, m', news', rfl, hi, rfl, hst', F', hn', N', off', hJ'⟩
      by_cases hlt : i < n
      · refine W.item i _ _ _ hlt hst' fun v h₂ tk₂ hPv hst₂ hk₂ => ?_
        refine wpAny_assign_Name (wpAny_storeName_local (lookup_relabel_local hx) (hn'.at' fun o e => hk₂ _ o (by simpa using Ne.symm hCI) e) (fun h₃ hn₃ hs₃ => ?_) (by simp [compEnvC, relabel, hkind]))
        have hst₃ : St (i + 1) h₃ := W.frame _ _ _ hst₂ fun b hb o e => hs₃.extBut b o (fun q => hCf (by have q' : b = H2.objs.size := q; rw [← q']; exact hb)) e
        obtain ⟨oI, heI⟩ := hIo _ _ hst₃
        obtain ⟨oC, heC, hoC⟩ := LCg.ns_obj hn₃
        have F₃ : Fr h₀ L h₃ m := (LCg.fr_but F' hk₂ hIL hI₀).change hs₃ hCL hC₀
        have off3 := off'.mem
        have N₂ : News h₀ L h₂ ((s₂.heap.objs.size, oA) :: news') := LCg.news_but N' hk₂ fun p hp => by
          rcases List.mem_cons.mp hp with rfl | hp
          · exact Ne.symm hDI
          · exact (off3 p hp).1
        have N₃ : News h₀ L h₃ ((I, oI) :: (H2.objs.size, oC) :: (s₂.heap.objs.size, oA) :: news') := fun p hp => by
          rcases List.mem_cons.mp hp with rfl | hp
          · exact ⟨heI, Ne.symm hIL, hI₀⟩
          · rcases List.mem_cons.mp hp with rfl | hp
            · exact ⟨heC, hCL, hC₀⟩
            · have z := N₂ p hp
              refine ⟨hs₃.extBut _ _ ?_ z.1, z.2⟩
              rcases List.mem_cons.mp hp with rfl | hp
              · exact hDC
              · exact (off3 p hp).2.1
        have finish : ∀ s₄ tk₃, CEnd h₀ L m { s₂ with heap := h₃, toks := tk₃ } I oI H2.objs.size oC s₂.heap.objs.size (J (i + 1)) s₄ →
            ∃ m_1, m_1 < n + 1 - i ∧ ∃ h' tk i_1 oA m' news', s₄ = { s₂ with heap := h', toks := tk } ∧ i_1 ≤ n ∧ m_1 = n + 1 - i_1 ∧ St i_1 h' ∧ Fr h₀ L h' m ∧ h'.Ns H2.objs.size m' ∧ News h₀ L h' ((s₂.heap.objs.size, oA) :: news') ∧
              LCg.Off3 I H2.objs.size s₂.heap.objs.size news' ∧ J i_1 oA news' := by
          intro s₄ tk₃ h₄
          cases h₄ with
          | @mk h₄ tk₄ oA₄ news₄ F₄ N₄ off₄ hJ₄ =>
            have zI := (N₄ (I, oI) List.mem_cons_self).1
            have zC := (N₄ (H2.objs.size, oC) (List.mem_cons_of_mem _ List.mem_cons_self)).1
            have N₄' : News h₀ L h₄ ((s₂.heap.objs.size, oA₄) :: news₄) := fun p hp => N₄ p (List.mem_cons_of_mem _ (List.mem_cons_of_mem _ hp))
            have hst₄ : St (i + 1) h₄ := W.frame _ _ _ hst₃ fun b hb o e => by
              rcases hsrc b hb with rfl | ⟨ob, hob⟩
              · have e' : h₃.get? b = some o := e
                rw [heI] at e'; cases e'; exact zI
              · have e1 := (N₃ (b, ob) (List.mem_cons_of_mem _ (List.mem_cons_of_mem _ (List.mem_cons_of_mem _ (hob _ _ _ hJ'))))).1
                have e2 := (N₄' (b, ob) (List.mem_cons_of_mem _ (hob _ _ _ hJ₄))).1
                have e1' : h₃.get? b = some ob := e1
                rw [e1'] at e; cases e; exact e2
            exact ⟨n + 1 - (i + 1), by omega, h₄, tk₄, i + 1, oA₄, _, news₄, rfl, hlt, rfl, hst₄, F₄, hoC.ns zC, N₄', off₄, hJ₄⟩
        refine wpAny_mono (turn i v I oI H2.objs.size oC s₂.heap.objs.size oA _ news' h₃ _ _ hlt hPv hJ' hoC (by simp) F₃ N₃ off' ⟨hCI, hDI, Ne.symm hDC⟩) (fun ok s₄ h₄ => ?_) fun _ _ e => e
        cases ok with
        | true =>
          refine wpAny_mono h₄ (fun y s₅ h₅ => wpAny_mono h₅ (fun _ s₆ h₆ => finish _ _ h₆) fun _ _ e => e) fun _ _ e => e
        | false => exact finish _ _ h₄
      · obtain rfl : i = n := Nat.le_antisymm hi (Nat.not_lt.mp hlt)
        refine W.done _ _ _ hst' fun h₂ tk₂ hk₂ => ?_
        have off3 := off'.mem
        exact hRR _ _ h₂ tk₂ _ oA news' (LCg.fr_but F' hk₂ hIL hI₀) (LCg.news_but N' hk₂ fun p hp => by
          rcases List.mem_cons.mp hp with rfl | hp
          · exact Ne.symm hDI
          · exact (off3 p hp).1) off'.one (hn'.at' fun o e => hk₂ _ o (by simpa using Ne.symm hCI) e) hC₀ hD₀ hCL hDL (Ne.symm hDC) (fun p hp => (off3 p hp).2.1) (done _ _ _ hJ' off'.one)
    · rcases List.mem_cons.mp hp with rfl | hp
      · exact ⟨hacc, hDL, hD₀⟩
      · exact ⟨old _ _ (N p hp).1, (N p hp).2⟩
  exact cs_both hc (loop _ rfl) (W.self 0 _ _ _ hst₁ (loop _ rfl))
theorem new_list {s' : Shared} {Q' : Value → Shared → Prop} (h : ∀ o, o = lst [] → o.isFreed = false → Q' (.ref s'.heap.objs.size) { s' with heap := s'.heap.push o }) : wpAny (model prog w) A (newList []) Q' E s' :=
  wpAny_newObj_type (h _ rfl rfl)
theorem new_set {s' : Shared} {Q' : Value → Shared → Prop} (h : ∀ o, (o = { cls := .type "set", dict := none, data := .set #[] 0 (.fresh 0 0 !(w.params.followText "set-order")) }) → o.isFreed = false → Q' (.ref s'.heap.objs.size) { s' with heap := s'.heap.push o }) : wpAny (model prog w) A (newSet (.type "set")) Q' E s' := by
  unfold newSet
  refine wpAny_bind ?_
  unfold setsByText
  refine wpAny_bind (wpAny_askSetting (wpAny_pure ?_))
  dsimp only
  exact wpAny_newObj_type (h _ rfl rfl)
/-- a block's end, its answer handed on -/
theorem comp_none {D C : Addr} {h : Heap} {tk : Nat} {m' : Str → Option Value} {oA : Obj} {news' : List (Addr × Obj)} {Q : Value → Shared → Prop} {s₂ : Shared} (F : Fr h₀ L h m) (N : News h₀ L h ((D, oA) :: news')) (hn : h.Ns C m') (hC₀ : h₀.get? C = none) (hCL : C ≠ L) (hCD : C ≠ D) (offC : ∀ p ∈ news', p.1 ≠ C)
    (k : ∀ h tk, Fr h₀ L h m → News h₀ L h ((D, oA) :: news') → Q (.ref D) { s₂ with heap := h, toks := tk }) : compPost (model prog w) A E none Q (.ref D) C (.ok .next) { s₂ with heap := h, toks := tk } := by
  refine ⟨m', hn, fun h'' hs'' => k h'' tk (F.change hs'' hCL hC₀) (fun p hp => ?_)⟩
  refine ⟨hs''.extBut _ _ ?_ (N p hp).1, (N p hp).2⟩
  rcases List.mem_cons.mp hp with rfl | hp
  · exact Ne.symm hCD
  · exact offC p hp
theorem eval_comp {e elt iter : Expr} {nm : String} {x : Str} {px : Pos} {ifs : List Expr} {scope : Scope} {cl : List (Str × Addr)} {pos : Pos} {P0 : Obj → Prop} {Q : Value → Shared → Prop} {newAcc : Sem Value} (_F₀ : Fr h₀ L s.heap m)
    (hc : Cmp1 elt iter (.Name x px) ifs scope pos e nm) (he : eval e env = comprehension e scope env (firstIterPos [⟨.Name x px, iter, ifs, 0⟩] pos) newAcc false (eval iter env)) (hcl : clausesOf e = [⟨.Name x px, iter, ifs, 0⟩])
    (hnew : ∀ (s' : Shared) (Q' : Value → Shared → Prop), (∀ o, P0 o → o.isFreed = false → Q' (.ref s'.heap.objs.size) { s' with heap := s'.heap.push o }) → wpAny (model prog w) A newAcc Q' E s')
    (hclos : closureFor scope env = pure cl) (hcell : ∀ y ∈ scope.names, y.2 ≠ .cell) (hkind : scope.kind = .function)
    (hnames : ∀ y ∈ scope.names, y.2 = .local → scope.names.lookup y.1 = some .local) (hx : scope.names.lookup x = some .local) (hs : ∀ x, foldedSetIterable iter env x = pure x)
    (h : wpAny (model prog w) A (eval iter env) (fun xv s₁ => wpAny (model prog w) A (pyIter xv) (CompAt prog w A h₀ L m env elt x ifs scope cl nm P0 fun s₂ D oA nw => ∀ h tk, Fr h₀ L h m → News h₀ L h ((D, oA) :: nw) → Q (.ref D) { s₂ with heap := h, toks := tk }) E s₁) E s) :
    wpAny (model prog w) A (eval e env) Q E s := by
  rw [he]
  refine wpAny_comprehension_free (use := none) hcl hs hclos hkind hnames (wpAny_mono h (fun xv s₁ h₁ => wpAny_mono h₁ (fun it s₂ h₂ => ?_) fun _ _ e => e) fun _ _ e => e)
  refine comp_block hc hnew hcell hkind hx h₂ ?_
  intro D C h tk m' oA news' F' N' o1 hn hC₀ hD₀ hCL hDL hCD offC fin
  exact comp_none F' N' hn hC₀ hCL hCD offC fin
theorem asg_comp {elt iter : Expr} {x y : Str} {px py : Pos} {ifs : List Expr} {scope : Scope} {cl : List (Str × Addr)} {pos spos : Pos} {Q : Flow → Shared → Prop} (_F₀ : Fr h₀ L s.heap m) (hLe : env.locals = L)
    (hsw : swapsWith (.ListComp elt [⟨.Name x px, iter, ifs, 0⟩] scope pos) (some (.Name y py)) spos.line env = pure true)
    (hclos : closureFor scope env = pure cl) (hcell : ∀ z ∈ scope.names, z.2 ≠ .cell) (hkind : scope.kind = .function)
    (hnames : ∀ z ∈ scope.names, z.2 = .local → scope.names.lookup z.1 = some .local) (hx : scope.names.lookup x = some .local)
    (hy : env.kindOf y = some .local) (hp : (env.scope.kind == .class || (env.scope.kind == .module && env.locals != env.globals)) = false) (hs : ∀ x, foldedSetIterable iter env x = pure x)
    (h : wpAny (model prog w) A (eval iter env) (fun xv s₁ => wpAny (model prog w) A (pyIter xv) (CompAt prog w A h₀ L m env elt x ifs scope cl "list.append" (fun o => o = lst []) fun s₂ D oA nw => ∀ h tk, Fr h₀ L h (fun z => if z = y then some (.ref D) else m z) → News h₀ L h ((D, oA) :: nw) → Q .next { s₂ with heap := h, toks := tk }) E s₁) E s) :
    wpAny (model prog w) A (exec (.Assign [.Name y py] (.ListComp elt [⟨.Name x px, iter, ifs, 0⟩] scope pos) spos) env) Q E s := by
  subst hLe
  rw [exec_Assign_Name_used _ _ _ _ hsw]
  refine wpAny_bind (wpAny_standAt (wpAny_bind ?_))
  show wpAny _ A (do let _ ← comprehension (.ListComp elt [⟨.Name x px, iter, ifs, 0⟩] scope pos) scope env _ (newList []) false (eval iter env) (some (assign (.Name y py) env))) _ _ s
  refine wpAny_bind (wpAny_mono (wpAny_comprehension_free (use := some (assign (.Name y py) env)) (Q := fun _ s' => Q .next s') rfl hs hclos hkind hnames
    (wpAny_mono h (fun xv s₁ h₁ => wpAny_mono h₁ (fun it s₂ h₂ => ?_) fun _ _ e => e) fun _ _ e => e)) (fun _ s' hq => wpAny_pure (wpAny_pure hq)) fun _ _ e => e)
  refine comp_block (.list) (fun s' Q' => new_list) hcell hkind hx h₂ ?_
  intro D C h' tk m' oA news' F' N' o1 hn hC₀ hD₀ hCL hDL hCD offC fin
  show wpAny _ A (assign (.Name y py) env (.ref D)) _ _ _
  refine wpAny_assign_Name (wpAny_storeName_local hy F'.ns (fun h₂ hn₂ hs₂ => ?_) hp)
  have hL₀ : h₀.get? env.locals = none := Heap.get?_none_of_le F'.above
  have F₂ : Fr h₀ env.locals h₂ (fun z => if z = y then some (.ref D) else m z) := ⟨hn₂, fun b o e => hs₂.extBut b o (fun q => by rw [q, hL₀] at e; cases e) (F'.keep b o e), F'.above⟩
  refine ⟨m', hn.sameBut hs₂ hCL, fun h'' hs'' => fin h'' _ (F₂.change hs'' hCL hC₀) (fun p hp => ?_)⟩
  have z : h₂.get? p.1 = some p.2 := hs₂.extBut _ _ (N' p hp).2.1 (N' p hp).1
  refine ⟨hs''.extBut _ _ ?_ z, (N' p hp).2⟩
  rcases List.mem_cons.mp hp with rfl | hp
  · exact Ne.symm hCD
  · exact offC p hp
theorem at_tup {elt : Expr} {nm : String} {x : Str} {ifs : List Expr} {scope : Scope} {cl : List (Str × Addr)} {P0 : Obj → Prop} {K : Shared → Addr → Obj → List (Addr × Obj) → Prop} {D : Addr} {vs : List Value} {news : List (Addr × Obj)} (J : Nat → Obj → List (Addr × Obj) → Prop)
    (hh : A.handled = none) (F : Fr h₀ L s.heap m) (N : News h₀ L s.heap news) (hm : (D, tup vs) ∈ news) (hD : ∀ i oA nw, J i oA nw → (D, tup vs) ∈ nw) (h0 : ∀ o, P0 o → J 0 o news)
    (turn : ∀ h, CTurn prog w A h₀ L m env elt x ifs scope cl nm vs.length (fun i v => vs[i]? = some v) J { s with heap := h }) (done : ∀ h D' oA nw, J vs.length oA nw → LCg.Off1 D' nw → K { s with heap := h } D' oA nw) :
    wpAny (model prog w) A (pyIter (.ref D)) (CompAt prog w A h₀ L m env elt x ifs scope cl nm P0 K) E s := by
  have hDh := (N _ hm).1
  have hl : s.heap.IsTuple D vs.toArray := ⟨_, hDh, rfl, _, rfl⟩
  have hlt : D < s.heap.objs.size := Heap.lt_size hDh
  refine wpAny_pyIter_tuple hl ?_
  have W := Walks.tuple (prog := prog) (w := w) hh s.heap.objs.size D (Nat.ne_of_lt hlt) vs.toArray
  have hl' : (s.heap.push { cls := .type "tuple_iterator", data := .fields #[.ref D, .int 0 0] }).IsTuple D vs.toArray := by obtain ⟨o, e, r⟩ := hl; exact ⟨o, Heap.get?_push_of_some _ e, r⟩
  refine ⟨_, _, _, _, _, J, news, rfl, W, ⟨⟨_, Heap.get?_push_size _ rfl, rfl, rfl⟩, hl'⟩, fun b hb => ?_, fun i h st => by obtain ⟨o, e, _⟩ := st.1; exact ⟨o, e⟩, fun b hb => ?_, F.push _, fun p hp => ⟨Heap.get?_push_of_some _ (N p hp).1, (N p hp).2⟩, Nat.ne_of_lt F.ns.lt, next_is_new F, fun p hp => Nat.ne_of_lt (Heap.lt_size (N p hp).1), h0, ?_, ?_⟩
  · show b < (s.heap.push _).objs.size
    rw [Heap.size_push]
    rcases List.mem_cons.mp hb with rfl | hb
    · exact Nat.lt_succ_self _
    · rw [List.mem_singleton.mp hb]; exact Nat.lt_succ_of_lt hlt
  · rcases List.mem_cons.mp hb with rfl | hb
    · exact .inl rfl
    · rw [List.mem_singleton.mp hb]; exact .inr ⟨_, hD⟩
  · simpa using turn _
  · simpa using done _
theorem at_lst {elt : Expr} {nm : String} {x : Str} {ifs : List Expr} {scope : Scope} {cl : List (Str × Addr)} {P0 : Obj → Prop} {K : Shared → Addr → Obj → List (Addr × Obj) → Prop} {D : Addr} {vs : List Value} {ep : Nat} {news : List (Addr × Obj)} (J : Nat → Obj → List (Addr × Obj) → Prop)
    (hh : A.handled = none) (F : Fr h₀ L s.heap m) (N : News h₀ L s.heap news) (hm : (D, listOf vs.toArray ep) ∈ news) (hD : ∀ i oA nw, J i oA nw → (D, listOf vs.toArray ep) ∈ nw) (h0 : ∀ o, P0 o → J 0 o news)
    (turn : ∀ h, CTurn prog w A h₀ L m env elt x ifs scope cl nm vs.length (fun i v => vs[i]? = some v) J { s with heap := h }) (done : ∀ h D' oA nw, J vs.length oA nw → LCg.Off1 D' nw → K { s with heap := h } D' oA nw) :
    wpAny (model prog w) A (pyIter (.ref D)) (CompAt prog w A h₀ L m env elt x ifs scope cl nm P0 K) E s := by
  have hDh := (N _ hm).1
  have hl : s.heap.IsList D vs.toArray := ⟨_, hDh, rfl, _, rfl⟩
  have hlt : D < s.heap.objs.size := Heap.lt_size hDh
  refine wpAny_pyIter_list hl ?_
  have W := Walks.list (prog := prog) (w := w) hh s.heap.objs.size D (Nat.ne_of_lt hlt) vs.toArray
  refine ⟨_, _, _, _, _, J, news, rfl, W, ⟨⟨_, Heap.get?_push_size _ rfl, rfl, rfl⟩, hl.push _⟩, fun b hb => ?_, fun i h st => by obtain ⟨o, e, _⟩ := st.1; exact ⟨o, e⟩, fun b hb => ?_, F.push _, fun p hp => ⟨Heap.get?_push_of_some _ (N p hp).1, (N p hp).2⟩, Nat.ne_of_lt F.ns.lt, next_is_new F, fun p hp => Nat.ne_of_lt (Heap.lt_size (N p hp).1), h0, ?_, ?_⟩
  · show b < (s.heap.push _).objs.size
    rw [Heap.size_push]
    rcases List.mem_cons.mp hb with rfl | hb
    · exact Nat.lt_succ_self _
    · rw [List.mem_singleton.mp hb]; exact Nat.lt_succ_of_lt hlt
  · rcases List.mem_cons.mp hb with rfl | hb
    · exact .inl rfl
    · rw [List.mem_singleton.mp hb]; exact .inr ⟨_, hD⟩
  · simpa using turn _
  · simpa using done _
theorem at_rng {elt : Expr} {nm : String} {x : Str} {ifs : List Expr} {scope : Scope} {cl : List (Str × Addr)} {P0 : Obj → Prop} {K : Shared → Addr → Obj → List (Addr × Obj) → Prop} {r : Addr} {a b : Int} {t u v : Tok} {n : Nat} {news : List (Addr × Obj)} (J : Nat → Obj → List (Addr × Obj) → Prop)
    (hh : A.handled = none) (F : Fr h₀ L s.heap m) (N : News h₀ L s.heap news) (hr : IsRange s.heap r a b 1 t u v) (hsm : Builtin.Range.small a b 1 = true) (hn : Builtin.Range.rangeSize a b 1 = ((n : Nat) : Int)) (h0 : ∀ o, P0 o → J 0 o news)
    (turn : ∀ h, CTurn prog w A h₀ L m env elt x ifs scope cl nm n (fun i v => ∃ t, v = .int (a + (i : Int)) t) J { s with heap := h }) (done : ∀ h D' oA nw, J n oA nw → LCg.Off1 D' nw → K { s with heap := h } D' oA nw) :
    wpAny (model prog w) A (pyIter (.ref r)) (CompAt prog w A h₀ L m env elt x ifs scope cl nm P0 K) E s := by
  refine wpAny_pyIter_range hr hsm ?_
  refine ⟨_, _, _, _, _, J, news, rfl, LCg.range_walks hh a n, (by show IsRangeIter _ _ _ _ _; rw [hn]; simpa using Heap.get?_push_size _ rfl), fun b hb => ?_, fun i h st => ⟨_, st⟩, fun b hb => .inl (List.mem_singleton.mp hb), F.push _, fun p hp => ⟨Heap.get?_push_of_some _ (N p hp).1, (N p hp).2⟩, Nat.ne_of_lt F.ns.lt, next_is_new F, fun p hp => Nat.ne_of_lt (Heap.lt_size (N p hp).1), h0, turn _, done _⟩
  rw [List.mem_singleton.mp hb]
  show s.heap.objs.size < (s.heap.push _).objs.size
  rw [Heap.size_push]; exact Nat.lt_succ_self _
end
end
section
theorem o_map : Manifest.owners.lookup (String.ofList ['p', 'a', 'm'].reverse) = some Manifest.sig_map := by kernel_rfl
theorem s_map_init : Slot "map" "__init__" "object.__init__" :=
  .of (owner := "object") (n := "__init__") (by rw [typeLookup_type, builtinLookup_eq_fast]; kernel_rfl) (by decide +kernel) (by decide +kernel) (by decide +kernel)
    (by first | exact .inl (by decide +kernel) | exact .inr (by decide +kernel)) (by rw [isSubtype_type]; kernel_rfl)
theorem s_map_iter : Slot "map" "__iter__" "map.__iter__" :=
  .of (owner := "map") (n := "__iter__") (by rw [typeLookup_type, builtinLookup_eq_fast]; kernel_rfl) (by decide +kernel) (by decide +kernel) (by decide +kernel)
    (by first | exact .inl (by decide +kernel) | exact .inr (by decide +kernel)) (by rw [isSubtype_type]; kernel_rfl)
theorem s_map_next : Slot "map" "__next__" "map.__next__" :=
  .of (owner := "map") (n := "__next__") (by rw [typeLookup_type, builtinLookup_eq_fast]; kernel_rfl) (by decide +kernel) (by decide +kernel) (by decide +kernel)
    (by first | exact .inl (by decide +kernel) | exact .inr (by decide +kernel)) (by rw [isSubtype_type]; kernel_rfl)
theorem e_map_next : entryFor table "map.__next__" = some Builtin.«map.__next__» := entryFor_of_tree (by kernel_rfl)
theorem e_map_new : entryFor table "map.__new__" = some Builtin.«map.__new__» := entryFor_of_tree (by kernel_rfl)
theorem e_map_iter : entryFor table "map.__iter__" = some Builtin.«dict_keyiterator.__iter__» :=
  entryFor_alias (id' := "dict_keyiterator.__iter__") (by kernel_rfl) (by first | rfl | decide +kernel | (unfold String.splitOn; simp +decide [String.splitOnAux])) (by decide +kernel) (by kernel_rfl)
theorem a_map_next (a : Value) : argsOk "map.__next__" ⟨[a], []⟩ := by
  unfold argsOk; rw [signature?_of (id := "map.__next__") (n := ['_', '_', 't', 'x', 'e', 'n', '_', '_']) (o := ['p', 'a', 'm']) (by kernel_rfl) o_map]; kernel_rfl
theorem a_map_iter (a : Value) : argsOk "map.__iter__" ⟨[a], []⟩ := by
  unfold argsOk; rw [signature?_of (id := "map.__iter__") (n := ['_', '_', 'r', 'e', 't', 'i', '_', '_']) (o := ['p', 'a', 'm']) (by kernel_rfl) o_map]; kernel_rfl
theorem mro_map : mroOf (.type "map") = pure [.type "map", .type "object"] := by rw [mroOf_type]; kernel_rfl
theorem l_map_new : typeLookup (.type "map") "__new__" = pure (some (.builtin "map.__new__")) := by rw [typeLookup_type, builtinLookup_eq_fast]; kernel_rfl
theorem called_map : TypeCalled "map" "map.__new__" "object.__init__" :=
  ⟨by decide +kernel, by decide +kernel, ⟨_, _, mro_map⟩, madeBy_type mro_map l_map_new (by decide +kernel), by decide +kernel, by rw [isSubtype_type]; kernel_rfl, s_map_init⟩
theorem tc_map (a b : Value) : checkTypeCall "map" ⟨[a, b], []⟩ = pure () := by kernel_rfl
theorem nc_map (a b : Value) : checkBuiltinCall "map.__new__" ⟨[.type "map", a, b], []⟩ = pure () := by kernel_rfl
theorem sub_map : isSubtype (.type "map") (.type "map") = pure true := by rw [isSubtype_type]; kernel_rfl
theorem map_no_len : typeLookup (.type "map") "__len__" = pure none := by rw [typeLookup_type, builtinLookup_eq_fast]; kernel_rfl
theorem map_no_hint : typeLookup (.type "map") "__length_hint__" = pure none := by rw [typeLookup_type, builtinLookup_eq_fast]; kernel_rfl
abbrev mapO (T : Addr) (f : Value) : Obj := { cls := .type "map", data := .fields #[.ref T, f] }
abbrev mH1 (h : Heap) (l1 : Addr) : Heap := h.push { cls := .type "list_iterator", data := .fields #[.ref l1, .int 0 0] }
abbrev mH2 (h : Heap) (l1 : Addr) : Heap := (mH1 h l1).push (tup [.ref h.objs.size])
abbrev mH3 (h : Heap) (l1 : Addr) (f : Value) : Heap := (mH2 h l1).push (mapO (mH1 h l1).objs.size f)
theorem meets_map_new (f : Value) (l1 : Addr) (xs : Array Value) :
    Meets (Builtin.«map.__new__» ⟨[.type "map", f, .ref l1], []⟩) (fun _ R s => s.heap.IsList l1 xs ∧ R (.ok (.ret (.ref (mH2 s.heap l1).objs.size))) { s with heap := mH3 s.heap l1 f }) :=
  .of_wp fun prog w A R s h => by
    obtain ⟨hp, g, d, tk, os⟩ := s; obtain ⟨hl1, h⟩ := h
    have hsub := sub_map
    have hL1 : Heap.IsList (Shared.heap ⟨hp, g, d, tk, os⟩) l1 xs := hl1
    wp_walk using wpAny_pyIter_list hL1
    exact ⟨_, rfl, h⟩
theorem call_map {prog : Program} {w : World} {A : Around} {E : Value → Shared → Prop} {s : Shared} {f : Value} {l1 : Addr} {xs : Array Value} {Q : Value → Shared → Prop} (hl1 : s.heap.IsList l1 xs)
    (h : Q (.ref (mH2 s.heap l1).objs.size) { s with heap := mH3 s.heap l1 f }) : wpAny (model prog w) A (call (.type "map") [f, .ref l1]) Q E s := by
  refine callType_new called_map (by decide) (tc_map _ _) (nc_map _ _) (fun obj => F.args_object_init_3 obj _ _) e_map_new (meets_map_new f l1 xs) ⟨hl1, ?_⟩
  exact ⟨⟨_, Heap.get?_push_size _ rfl, rfl⟩, h⟩

end
section
section
variable {prog : Program} {w : World} {A : Around} {E : Value → Shared → Prop} {s : Shared} {M T I l1 : Addr} {f : Value} {xs : Array Value}
theorem map_item {i : Nat} {x : Value} {Q : Option Value → Shared → Prop} (hM : s.heap.get? M = some (mapO T f)) (hT : s.heap.get? T = some (tup [.ref I])) (hI : s.heap.IsListIter I l1 i) (hl : s.heap.IsList l1 xs) (hx : xs[i]? = some x)
    (hMI : M ≠ I) (h : ∀ h' (E' : Value → Shared → Prop), h'.IsListIter I l1 (i + 1) → Heap.SameBut I s.heap h' → wpAny (model prog w) A.in1 (call f [x]) (fun v s' => Q (some v) s') E' { s with heap := h' }) :
    wpAny (model prog w) A (pyNext (.ref M)) Q E s := by
  have hTy : s.TypeIs (.ref M) "map" := ⟨_, hM, rfl⟩
  unfold pyNext
  refine wpAny_bind (wpAny_attempt (wpAny_callSpecial?_slot (name := Str.ofString "__next__") hTy s_map_next
    (wpAny_call_entry s_map_next hTy e_map_next ?_ (a_map_next _))))
  show wpAny _ _ (field (.ref M) 0 >>= _) _ _ _
  refine wpAny_bind (wpAny_field hM rfl (x := .ref T) rfl ?_)
  refine wpAny_bind (wpAny_seqItems hT rfl ?_)
  show wpAny _ _ (forIn #[Value.ref I] (#[] : Array Value) _ >>= _) _ _ _
  refine wpAny_bind ?_
  rw [← Array.forIn_toList]
  simp only [List.forIn_cons, List.forIn_nil]
  refine wpAny_bind (wpAny_bind ?_)
  refine wpAny_holding ?_
  refine wpAny_nextOf_list_item hI hl hx fun h' hI' hs' => ?_
  refine wpAny_pure (wpAny_pure ?_)
  have hM' := hs'.extBut _ _ hMI hM
  refine wpAny_bind (wpAny_field hM' rfl (x := f) rfl ?_)
  refine wpAny_bind (wpAny_holding (wpAny_mono (h h' _ hI' hs') (fun v s' hq => ?_) fun _ _ e => e))
  exact wpAny_bind (wpAny_letGo (wpAny_pure ⟨_, rfl, wpAny_pure hq⟩))
theorem map_end {i : Nat} {Q : Option Value → Shared → Prop} (hh : A.handled = none) (hM : s.heap.get? M = some (mapO T f)) (hT : s.heap.get? T = some (tup [.ref I])) (hI : s.heap.IsListIter I l1 i) (hl : s.heap.IsList l1 xs) (hx : xs[i]? = none)
    (h : ∀ h', Heap.ExtBut I s.heap h' → Q none { s with heap := h' }) :
    wpAny (model prog w) A (pyNext (.ref M)) Q E s := by
  have hTy : s.TypeIs (.ref M) "map" := ⟨_, hM, rfl⟩
  unfold pyNext
  refine wpAny_bind (wpAny_attempt (wpAny_callSpecial?_slot (name := Str.ofString "__next__") hTy s_map_next
    (wpAny_call_entry s_map_next hTy e_map_next ?_ (a_map_next _))))
  show wpAny _ _ (field (.ref M) 0 >>= _) _ _ _
  refine wpAny_bind (wpAny_field hM rfl (x := .ref T) rfl ?_)
  refine wpAny_bind (wpAny_seqItems hT rfl ?_)
  show wpAny _ _ (forIn #[Value.ref I] (#[] : Array Value) _ >>= _) _ _ _
  refine wpAny_bind ?_
  rw [← Array.forIn_toList]
  simp only [List.forIn_cons, List.forIn_nil]
  refine wpAny_bind (wpAny_bind ?_)
  refine wpAny_holding ?_
  refine wpAny_nextOf_list_end hh hI hl hx fun h' e hs' he => ?_
  obtain ⟨o, ho, hc⟩ := he
  refine wpAny_bind (wpAny_isInstance (T := "StopIteration") (b := true) ⟨o, ho, hc⟩ isSubtype_stop ?_)
  exact wpAny_pure (h _ hs')
theorem map_self {Q : Value → Shared → Prop} (hM : s.heap.get? M = some (mapO T f)) (h : Q (.ref M) s) : wpAny (model prog w) A (pyIter (.ref M)) Q E s := by
  have hT : s.TypeIs (.ref M) "map" := ⟨_, hM, rfl⟩
  refine wpAny_pyIter_slot hT s_map_iter (wpAny_call_entry s_map_iter hT e_map_iter ?_ (a_map_iter _))
  show wpAny _ _ (ret (.ref M)) _ _ s
  exact wpAny_pure ⟨_, rfl, "map", _, hT, s_map_next.lookup, h⟩
end
/-- the walk of 'map(fspath, l)' laid upon the heap `h₀` -/
def MapSt (h₀ : Heap) (l1 : Addr) (i : Nat) (h : Heap) : Prop :=
  (∀ b o, h₀.get? b = some o → h.get? b = some o) ∧ h.IsListIter h₀.objs.size l1 i ∧ h.get? (h₀.objs.size + 1) = some (tup [.ref h₀.objs.size]) ∧ h.get? (h₀.objs.size + 2) = some (mapO (h₀.objs.size + 1) (.ref 94))
theorem map_walks {w : World} {A : Around} {h₀ : Heap} {l1 : Addr} {k : Kd} {vs : List Value} {ls : List (List Nat)} {mg mb : Str → Option Value} {loose : List Str} {mean : ExcName → Option Value}
    (X : (Mine.hd.heap_1 w.params).In h₀) (T : Top PV loose mean mg mb h₀) (hh : A.handled = none) (hd : A.depth + 1 < recursionLimit) (hl : h₀.IsList l1 vs.toArray) (hv : TxsAre k vs ls) :
    Walks PR w A (h₀.objs.size + 2) (List.range (h₀.objs.size + 3)) [h₀.objs.size] vs.length (fun i v => ∃ c t, ls[i]? = some c ∧ v = tx k c t) (MapSt h₀ l1) where
  sub := fun b hb => by rw [List.mem_singleton.mp hb]; exact List.mem_range.mpr (by omega)
  frame := fun i h h' st hk => by
    obtain ⟨a, b, c, d⟩ := st
    have hk' : ∀ x o, x < h₀.objs.size + 3 → h.get? x = some o → h'.get? x = some o := fun x o hx e => hk x (List.mem_range.mpr hx) o e
    exact ⟨fun x o e => hk' x o (Nat.lt_trans (Heap.lt_size e) (by omega)) (a x o e), b.at fun o e => hk' _ o (by omega) e, hk' _ _ (by omega) c, hk' _ _ (by omega) d⟩
  item := fun i s Q E hi st hQ => by
    obtain ⟨a, b, c, d⟩ := st
    obtain ⟨p, t, hp, hvi⟩ := hv.at_ i hi
    have hl' : s.heap.IsList l1 vs.toArray := by obtain ⟨o, e, r⟩ := hl; exact ⟨o, a _ _ e, r⟩
    refine map_item d c b hl' (x := tx k p t) (by simpa using hvi) (Nat.ne_of_gt (by omega)) fun h' E' hI' hs' => ?_
    have a' : ∀ x o, h₀.get? x = some o → h'.get? x = some o := fun x o e => hs'.extBut x o (fun q => by have := Heap.lt_size e; rw [q] at this; exact Nat.lt_irrefl _ this) (a x o e)
    refine c_fspath (X.keeps a') (T.keeps a') hd fun _ h'' tk K => ?_
    refine hQ _ h'' tk ⟨p, t, hp, rfl⟩ ⟨fun x o e => K _ _ (a' x o e), hI'.at fun o e => K _ o e, K _ _ (hs'.extBut _ _ (Nat.ne_of_gt (by omega)) c), K _ _ (hs'.extBut _ _ (Nat.ne_of_gt (by omega)) d)⟩ fun x o hx e => K _ _ (hs'.extBut _ _ (fun q => hx (by simp [q])) e)
  done := fun s Q E st hQ => by
    obtain ⟨a, b, c, d⟩ := st
    have hl' : s.heap.IsList l1 vs.toArray := by obtain ⟨o, e, r⟩ := hl; exact ⟨o, a _ _ e, r⟩
    exact map_end hh d c b hl' (by simp) fun h' hs' => hQ h' s.toks fun x o hx e => hs' x o (fun q => hx (by simp [q])) e
  self := fun i s Q E st hQ => map_self st.2.2.2 hQ
section
variable {prog : Program} {w : World} {A : Around} {E : Value → Shared → Prop} {s : Shared} {I : Addr} {fp wr : List Addr} {G : Array GenState → Array GenState → Prop} {n : Nat} {P : Nat → Value → Prop} {St : Nat → Shared → Prop}
/-- all that a map yields -/
theorem map_collect {Q : List Value → Shared → Prop} (W : WalksS prog w A.in1 I fp wr G n P St) (hT : ∀ i s, St i s → s.TypeIs (.ref I) "map") (hst : St 0 s) (hfp : ∀ b ∈ fp, b < s.heap.objs.size) (hI : I ∈ fp)
    (hQ : ∀ s' acc, Moved wr G s s' → ItemsOf P acc n → Q acc.toList s') (hn : n ≤ sizeLine) : wpAny (model prog w) A (collect (.ref I)) Q E s := by
  have hSf : s.heap.objs.size ∉ fp := fun hm => Nat.lt_irrefl _ (hfp _ hm)
  have hSI : s.heap.objs.size ≠ I := fun e => hSf (e ▸ hI)
  unfold collect
  refine wpAny_bind (wpAny_runValue (codeAny_builtin F.entry_proto_collect ?_))
  rw [Around.under_plainId F.plain_proto_collect _]
  show wpAny _ A.in1 (newList [] >>= fun l => again (.builtin "list.__iadd__" ⟨[l, .ref I], []⟩)) _ _ s
  refine wpAny_bind (wpAny_newObj_type ?_)
  refine wpAny_pure ⟨plainId_quiet F.plain_list_iadd _, codeAny_builtin F.entry_list_iadd ?_⟩
  rw [Around.under_plainId F.plain_list_iadd _]
  have hst₁ := W.frame 0 s (s.heap.push { cls := .type "list", data := .seq ([] : List Value).toArray }) s.toks hst (Nat.le_refl _) fun b _ o e => Heap.get?_push_of_some _ e
  show wpAny _ A.in1 (Builtin.List.listExtendWith (.ref s.heap.objs.size) (.ref I) (.ref s.heap.objs.size)) _ _ _
  unfold Builtin.List.listExtendWith
  refine wpAny_bind (wpAny_typeOf (hT 0 _ hst₁) ?_)
  have h1 : Builtin.List.listSameRef (.ref s.heap.objs.size) (.ref I) = false := by simp [Builtin.List.listSameRef, hSI]
  have h2 : (Value.type "map" == Value.type "list") = false := by decide
  have h3 : (Value.type "map" == Value.type "tuple") = false := by decide
  simp only [h1, h2, h3, Bool.or_false, Bool.false_eq_true, if_false]
  refine wpAny_bind (W.self 0 _ _ _ hst₁ ?_)
  refine wpAny_bind (wpAny_holding ?_)
  unfold Builtin.List.listLengthHint
  refine wpAny_bind (wpAny_specialOf (hT 0 _ hst₁) map_no_len ?_)
  show wpAny _ A.in1 (specialOf (Value.ref I) (Str.ofString "__length_hint__") >>= _) _ _ _
  refine wpAny_bind (wpAny_specialOf (hT 0 _ hst₁) map_no_hint ?_)
  refine wpAny_pure ?_
  show wpAny _ A.in1 (rule "list.extend.makes-room" >>= fun _ => Builtin.List.listTouch (.ref s.heap.objs.size) >>= fun _ =>
    again (.builtin "list.extend.loop" ⟨[.ref s.heap.objs.size, .ref I, .ref s.heap.objs.size], []⟩)) _ _ _
  refine wpAny_bind (wpAny_rule (wpAny_bind ?_))
  have hS₁ : (s.heap.push { cls := .type "list", data := .seq ([] : List Value).toArray }).get? s.heap.objs.size = some { cls := .type "list", data := .seq ([] : List Value).toArray } := Heap.get?_push_size _ rfl
  show wpAny _ A.in1 (updateSeq s.heap.objs.size (·.push .none) >>= fun _ => updateSeq s.heap.objs.size (·.pop)) _ _ _
  refine wpAny_bind (wpAny_updateSeq hS₁ rfl ?_)
  have hS₂ := Heap.get?_update_self (Obj.mapSeq (·.push Value.none)) hS₁ rfl
  refine wpAny_updateSeq hS₂ rfl ?_
  have hS₃ := Heap.get?_update_self (Obj.mapSeq (·.pop)) hS₂ rfl
  have oth : ∀ b o, b ≠ s.heap.objs.size → (s.heap.push { cls := .type "list", data := .seq ([] : List Value).toArray }).get? b = some o →
      (((s.heap.push { cls := .type "list", data := .seq ([] : List Value).toArray }).update s.heap.objs.size (Obj.mapSeq (·.push Value.none))).update s.heap.objs.size (Obj.mapSeq (·.pop))).get? b = some o :=
    fun b o hb e => (Heap.get?_update_other _ _ (Ne.symm hb)).trans ((Heap.get?_update_other _ _ (Ne.symm hb)).trans e)
  refine wpAny_pure ⟨plainId_quiet F.plain_extend_loop _, codeAny_extend_loopS W hn _ hSf _ n 0 _ _ _ rfl (Nat.zero_le _)
    (W.frame 0 ({ s with heap := s.heap.push { cls := .type "list", data := .seq ([] : List Value).toArray } } : Shared) _ s.toks hst₁ (Nat.le_refl _) fun b hb o e => oth b o (fun h => hSf (h ▸ hb)) e) hS₃ (ItemsOf.nil P) fun s' acc' c' hm hS' hacc => ?_⟩
  show wpAny _ A (load s.heap.objs.size >>= _) _ _ s'
  refine wpAny_bind (wpAny_load hS' (wpAny_pure (hQ s' acc' ?_ hacc)))
  refine Moved.drop_new (o := { cls := .type "list", data := .seq ([] : List Value).toArray }) (tk := s.toks) (Moved.trans W.gtrans ((Moved.refl W.grefl).then_heap (Nat.le_refl _) fun b o hb e => ?_) hm) (Nat.le_refl _)
  exact oth b o (fun h => hb (h ▸ List.mem_cons_self)) e
theorem map_tuple_new {Q₁ : Value → Shared → Prop} (W : WalksS prog w A.in1.in1 I fp wr G n P St) (hT : ∀ i s, St i s → s.TypeIs (.ref I) "map") (hst : St 0 s) (hfp : ∀ b ∈ fp, b < s.heap.objs.size) (hI : I ∈ fp)
    (h : ∀ s' acc, Moved wr G s s' → ItemsOf P acc n → Q₁ (.ref s'.heap.objs.size) { s' with heap := s'.heap.push { cls := .type "tuple", data := .seq acc } }) (hsz : n ≤ sizeLine) :
    codeAny (model prog w) A (.call (.builtin "tuple.__new__") ⟨[.type "tuple", .ref I], []⟩) (wants Q₁ E) s := by
  refine codeAny_of_tree ?_
  show wpAny _ A.in1 (do checkBuiltinCall "tuple.__new__" ⟨[.type "tuple", .ref I], []⟩; again (.builtin "tuple.__new__" ⟨[.type "tuple", .ref I], []⟩)) _ _ s
  refine wpAny_bind (wpAny_of_eq (F.newCall_tuple_1 _) (wpAny_pure ⟨plainId_quiet F.plain_tuple_new _, codeAny_builtin F.entry_tuple_new ?_⟩))
  rw [Around.under_plainId F.plain_tuple_new _]
  have hsub := sub_tuple_self
  have hinit := init_tuple_lookup
  have hmh := madeHere_tuple
  have hTI := hT 0 s hst
  wp_walk using wpAny_typeOf hTI, map_collect (hn := hsz) W hT hst hfp hI
  intro s' acc hm hacc
  show wpAny _ _ (Builtin.Tuple.tupleExact acc.toList.toArray >>= fun v => ret v) _ _ _
  unfold Builtin.Tuple.tupleExact
  refine wpAny_bind (wpAny_newObj_type (wpAny_pure ?_) (by show acc.toList.toArray.size ≤ sizeLine; simp only [Array.toArray_toList]; rw [hacc.1]; exact hsz))
  rw [Array.toArray_toList]
  exact h s' acc hm hacc
theorem map_tuple {Q : Value → Shared → Prop} (W : WalksS prog w A.in1.in1.in1 I fp wr G n P St) (hT : ∀ i s, St i s → s.TypeIs (.ref I) "map") (hst : St 0 s) (hfp : ∀ b ∈ fp, b < s.heap.objs.size) (hI : I ∈ fp)
    (hQ : ∀ s' acc, Moved wr G s s' → ItemsOf P acc n → Q (.ref s'.heap.objs.size) { s' with heap := s'.heap.push { cls := .type "tuple", data := .seq acc } }) (hsz : n ≤ sizeLine) :
    wpAny (model prog w) A (call (.type "tuple") [.ref I]) Q E s := by
  refine callType_codes (Q₁ := fun obj s₁ => s₁.TypeIs obj "tuple" ∧ Q obj s₁) F.called_tuple (F.typeCall_tuple_1 _) F.entry_object_init
    (map_tuple_new (hsz := hsz) W hT hst hfp hI fun s' acc hm hacc => ⟨⟨_, Heap.get?_push_size _ rfl, rfl⟩, hQ s' acc hm hacc⟩) fun obj s₁ h₁ => ?_
  exact ⟨h₁.1, F.args_object_init_2 obj _, object_init_meets F.called_tuple.init.lookup F.called_tuple.made (by decide) prog w A.in1 _ s₁ ⟨h₁.1, rfl, h₁.2⟩⟩
end
theorem TxsAre.of_items {k : Kd} : ∀ (ls : List (List Nat)) (vs : List Value), vs.length = ls.length → (∀ (j : Nat) v, vs[j]? = some v → ∃ c t, ls[j]? = some c ∧ v = tx k c t) → TxsAre k vs ls
  | [], [], _, _ => .nil
  | c :: ls, v :: vs, hl, h => by
    obtain ⟨c', t, e1, e2⟩ := h 0 v rfl
    cases e1
    subst e2
    exact .cons (TxsAre.of_items ls vs (by simpa using hl) fun j v hj => h (j + 1) v hj)
/-- 'map(fspath, l)' is made: what the walk asks stands -/
structure MapMade (h₀ : Heap) (l1 : Addr) (h : Heap) : Prop where
  st : MapSt h₀ l1 0 h
  size : h.objs.size = h₀.objs.size + 3
theorem r_map {w : World} {A : Around} {E Q : Value → Shared → Prop} {s : Shared} {l1 : Addr} {xs : Array Value} (hl1 : s.heap.IsList l1 xs)
    (h : ∀ h', MapMade s.heap l1 h' → Q (.ref (s.heap.objs.size + 2)) { s with heap := h' }) : wpAny (model PR w) A (call (.type "map") [.ref 94, .ref l1]) Q E s := by
  refine call_map hl1 ?_
  have z1 : (mH1 s.heap l1).objs.size = s.heap.objs.size + 1 := Heap.size_push ..
  have z2 : (mH2 s.heap l1).objs.size = s.heap.objs.size + 2 := by rw [Heap.size_push, z1]
  have g3 : (mH3 s.heap l1 (.ref 94)).get? (mH2 s.heap l1).objs.size = some _ := Heap.get?_push_size _ rfl
  have g2 : (mH3 s.heap l1 (.ref 94)).get? (mH1 s.heap l1).objs.size = some _ := Heap.get?_push_of_some _ (Heap.get?_push_size _ rfl)
  have g1 : (mH3 s.heap l1 (.ref 94)).get? s.heap.objs.size = some _ := Heap.get?_push_of_some _ (Heap.get?_push_of_some _ (Heap.get?_push_size _ rfl))
  rw [z2, z1] at g3
  rw [z1] at g2
  rw [z2]
  exact h _ ⟨⟨fun b o e => Heap.get?_push_of_some _ (Heap.get?_push_of_some _ (Heap.get?_push_of_some _ e)), ⟨_, g1, rfl, rfl⟩, g2, g3⟩, by rw [Heap.size_push, z2]⟩
theorem r_tupmap {w : World} {A : Around} {E Q : Value → Shared → Prop} {s : Shared} {h₀ : Heap} {l1 : Addr} {k : Kd} {vs : List Value} {ls : List (List Nat)} {mg mb : Str → Option Value} {loose : List Str} {mean : ExcName → Option Value}
    (Mk : MapMade h₀ l1 s.heap) (X : (Mine.hd.heap_1 w.params).In h₀) (T : Top PV loose mean mg mb h₀) (hh : A.handled = none) (hd : A.depth + 1 < recursionLimit) (hl : h₀.IsList l1 vs.toArray) (hv : TxsAre k vs ls) (hn : ls.length ≤ 1000)
    (h : ∀ D h' tk vs', TxsAre k vs' ls → (∀ b o, h₀.get? b = some o → h'.get? b = some o) → h₀.get? D = none → h'.get? D = some (tup vs') → Q (.ref D) { s with heap := h', toks := tk }) :
    wpAny (model PR w) A (call (.type "tuple") [.ref (h₀.objs.size + 2)]) Q E s := by
  have hlen := hv.length
  have W := map_walks (A := A.in1.in1.in1) X T hh hd hl hv
  refine map_tuple W.toS (fun i s st => ⟨_, st.2.2.2, rfl⟩) Mk.st (fun b hb => ?_) (List.mem_range.mpr (by omega)) (fun s' acc hm hacc => ?_) (by rw [sizeLine_eq]; omega)
  · rw [Mk.size]; exact List.mem_range.mp hb
  · have keep : ∀ b o, h₀.get? b = some o → s'.heap.get? b = some o := fun b o e => hm.heap b o (fun q => by have := Heap.lt_size e; rw [List.mem_singleton.mp q] at this; exact Nat.lt_irrefl _ this) (Mk.st.1 b o e)
    have hD : h₀.get? s'.heap.objs.size = none := by
      cases e : h₀.get? s'.heap.objs.size with
      | none => rfl
      | some o => exact absurd (Heap.lt_size (keep _ _ e)) (Nat.lt_irrefl _)
    have hv' : TxsAre k acc.toList ls := .of_items ls acc.toList (by rw [Array.length_toList, hacc.1, hlen]) fun j v hj => hacc.2 j v (by simpa using hj)
    have key := h s'.heap.objs.size (s'.heap.push { cls := .type "tuple", data := .seq acc }) s'.toks acc.toList hv' (fun b o e => Heap.get?_push_of_some _ (keep b o e)) hD (Heap.get?_push_size _ rfl)
    have e1 : s'.gens = s.gens := hm.gens
    have e2 := hm.drawn
    have e3 := hm.os
    obtain ⟨sh, sg, sd, st, so⟩ := s'
    subst e1 e2 e3
    exact key
end
section
def h01 (b : Bool) : Int := if b then 1 else 0
theorem typeIs_bool' (s : Shared) (b : Bool) : s.TypeIs (.bool b) "bool" := rfl
/-- a set of bools as it stands: in the table's order -/
abbrev setO (led : Bool) (bs : List Bool) (ep : Nat) : Obj := { cls := .type "set", dict := none, data := .set (bs.map fun b => (h01 b, Value.bool b)).toArray ep { mask := 7, place := (bs.map Bool.toNat).toArray, dummies := #[], finger := 0, led := led, moves := 0, plain := true } }
def insb (bs : List Bool) (b : Bool) : List Bool := if bs.contains b then bs else if b then bs ++ [true] else false :: bs
def Bs (bs : List Bool) : Prop := bs = [] ∨ bs = [false] ∨ bs = [true] ∨ bs = [false, true]
section
variable {prog : Program} {w : World} {A : Around} {E : Value → Shared → Prop} {s : Shared}
theorem hash_bool {b : Bool} {Q : Int → Shared → Prop} (h : Q (h01 b) { s with toks := s.toks + 1 }) : wpAny (model prog w) A (pyHash (.bool b)) Q E s := by
  unfold pyHash
  have hv : [Value.bool b].any Value.onHeap = false := rfl
  refine wpAny_bind ?_
  rw [cRoomFor, if_neg (by rw [hv]; exact Bool.false_ne_true)]; refine wpAny_pure ?_
  refine wpAny_bind (wpAny_specialOf (typeIs_bool' s b) F.slot_bool_hash.lookup ?_)
  show wpAny _ _ (if (some (Value.builtin "int.__hash__") == some Value.none) = true then _ else _) Q E s
  rw [if_neg (by rw [beq_builtin_none]; exact Bool.false_ne_true)]
  refine wpAny_bind (wpAny_specialOf (typeIs_bool' s b) F.slot_bool_hash.lookup ?_)
  show wpAny _ _ (callSpecialIfBoundUnlessNone? (.bool b) "__hash__" _ >>= _) Q E s
  refine wpAny_bind (wpAny_callSpecialIfBoundUnlessNone?_slot (typeIs_bool' s b) F.slot_bool_hash
    (wpAny_call_entry F.slot_bool_hash (typeIs_bool' s b) F.entry_int_hash
      ?_ (F.args_int_hash_1 _)))
  unfold Builtin.«int.__hash__»
  cases b
  · refine wpAny_bind (wpAny_of_eq (a := (Value.bool false, (0 : Int))) rfl ?_)
    show wpAny _ _ (retInt 0) _ _ _
    unfold retInt
    exact wpAny_ret_mkInt (wpAny_pure h)
  · refine wpAny_bind (wpAny_of_eq (a := (Value.bool true, (1 : Int))) rfl ?_)
    show wpAny _ _ (retInt 1) _ _ _
    unfold retInt
    exact wpAny_ret_mkInt (wpAny_pure h)
theorem state_set {a : Addr} {led : Bool} {bs : List Bool} {ep : Nat} {Q : (Array (Int × Value) × Nat × SetTable) → Shared → Prop} (hv : Bs bs) (ho : s.heap.get? a = some (setO led bs ep))
    (h : Q ((bs.map fun b => (h01 b, Value.bool b)).toArray, ep, { mask := 7, place := (bs.map Bool.toNat).toArray, dummies := #[], finger := 0, led := led, moves := 0, plain := true }) s) : wpAny (model prog w) A (setState a) Q E s := by
  refine wpAny_setState_of ho rfl ?_ h
  rcases hv with rfl | rfl | rfl | rfl <;> rfl
abbrev esO (bs : List Bool) : Array (Int × Value) := (bs.map fun b => (h01 b, Value.bool b)).toArray
abbrev tabO (led : Bool) (bs : List Bool) : SetTable := { mask := 7, place := (bs.map Bool.toNat).toArray, dummies := #[], finger := 0, led := led, moves := 0, plain := true }
theorem scan_hit {a : Addr} {led : Bool} {bs : List Bool} {ep : Nat} {b : Bool} {rest : List (Int × Value)} {i : Nat} {Q : ScanMet → Shared → Prop} (hv : Bs bs) (ho : s.heap.get? a = some (setO led bs ep)) (h : Q (.found i) s) :
    wpAny (model prog w) A (setScanFrom a (.bool b) (h01 b) true ((h01 b, .bool b) :: rest) i) Q E s := by
  unfold setScanFrom
  rw [if_pos (by simp)]
  refine wpAny_bind ?_
  unfold setEpoch
  refine wpAny_bind (state_set hv ho (wpAny_pure ?_))
  refine wpAny_bind ?_
  unfold eqBool
  refine wpAny_holding ?_
  rw [if_pos (by simp)]
  refine wpAny_bind (wpAny_rule (wpAny_pure ?_))
  simp only [Bool.and_self, if_true]
  exact wpAny_pure h
theorem scan_miss {a : Addr} {b c : Bool} {rest : List (Int × Value)} {i : Nat} {Q : ScanMet → Shared → Prop} (hc : c ≠ b) (h : wpAny (model prog w) A (setScanFrom a (.bool b) (h01 b) true rest (i + 1)) Q E s) :
    wpAny (model prog w) A (setScanFrom a (.bool b) (h01 b) true ((h01 c, .bool c) :: rest) i) Q E s := by
  rw [setScanFrom]
  rw [if_neg (by cases b <;> cases c <;> simp_all [h01])]
  exact h
theorem scan_nil {a : Addr} {b : Bool} {i : Nat} {Q : ScanMet → Shared → Prop} (h : Q .absent s) : wpAny (model prog w) A (setScanFrom a (.bool b) (h01 b) true [] i) Q E s := by
  unfold setScanFrom; exact wpAny_pure h
theorem byscan_old {a : Addr} {led : Bool} {bs : List Bool} {ep : Nat} {b : Bool} {Q : Option Bool → Shared → Prop} (hv : Bs bs) (hb : bs.contains b = true) (ho : s.heap.get? a = some (setO led bs ep)) (h : Q (some false) s) :
    wpAny (model prog w) A (setAddByScan a (.bool b) (h01 b) (esO bs) (tabO led bs)) Q E s := by
  unfold setAddByScan
  refine wpAny_bind (wpAny_rule (wpAny_bind (?_ : wpAny _ _ (setScanFrom a (.bool b) (h01 b) true (esO bs).toList 0) _ _ _)))
  have fin : Nat → wpAny (model prog w) A (pure (some false)) Q E s := fun _ => wpAny_pure h
  rcases id hv with rfl | rfl | rfl | rfl
  · cases hb
  · cases b
    · exact scan_hit hv ho (fin 0)
    · cases hb
  · cases b
    · cases hb
    · exact scan_hit hv ho (fin 0)
  · cases b
    · exact scan_hit hv ho (fin 0)
    · exact scan_miss (by decide) (scan_hit hv ho (fin 1))
theorem lay_nil (led b : Bool) : layNew (tabO led []) (esO []) (h01 b) (.bool b) = (esO (insb [] b), tabO led (insb [] b), false, false) := by cases b <;> cases led <;> kernel_rfl
theorem lay_f (led : Bool) : layNew (tabO led [false]) (esO [false]) (h01 true) (.bool true) = (esO (insb [false] true), tabO led (insb [false] true), false, false) := by cases led <;> kernel_rfl
theorem lay_t (led : Bool) : layNew (tabO led [true]) (esO [true]) (h01 false) (.bool false) = (esO (insb [true] false), tabO led (insb [true] false), false, false) := by cases led <;> kernel_rfl
theorem full_O (led : Bool) {bs : List Bool} (hv : Bs bs) : (tabO led bs).tooFull = false := by rcases hv with rfl | rfl | rfl | rfl <;> cases led <;> kernel_rfl
theorem byscan_new {a : Addr} {led : Bool} {bs : List Bool} {ep : Nat} {b : Bool} {Q : Option Bool → Shared → Prop} (hv : Bs bs) (hb : bs.contains b = false) (ho : s.heap.get? a = some (setO led bs ep))
    (h : ∀ h', h'.get? a = some (setO led (insb bs b) (ep + 1)) → Heap.SameBut a s.heap h' → Q (some true) { s with heap := h' }) :
    wpAny (model prog w) A (setAddByScan a (.bool b) (h01 b) (esO bs) (tabO led bs)) Q E s := by
  unfold setAddByScan
  refine wpAny_bind (wpAny_rule (wpAny_bind (?_ : wpAny _ _ (setScanFrom a (.bool b) (h01 b) true (esO bs).toList 0) _ _ _)))
  have fin : ∀ (g : Sem Unit), (g = pure ()) → Bs (insb bs b) → wpAny (model prog w) A (do
      g
      let byValue ← if (tabO led (insb bs b)).plain then hashByValue 8 (.bool b) else pure true
      let t := if byValue then tabO led (insb bs b) else { tabO led (insb bs b) with plain := false }
      storeSet a (esO (insb bs b)) t
      if !false && t.tooFull then
        let (es, t, gave) := relayAll t (esO (insb bs b)) (SetTable.grown (esO (insb bs b)).size)
        (match gave with | true => rule "set.scan.the-table-gave-way" | false => pure ())
        storeSet a es t
      return some true) Q E s := by
    intro g hg hv'
    rw [hg]
    refine wpAny_bind (wpAny_pure ?_)
    rw [if_pos rfl]
    refine wpAny_bind (wpAny_pure ?_)
    try dsimp only
    rw [if_pos rfl]
    refine wpAny_bind (wpAny_storeSet_of ho rfl ?_ (by rcases hv' with q | q | q | q <;> rw [q] <;> decide))
    rw [full_O led hv']
    refine wpAny_pure (h _ ?_ (Heap.SameBut.update s.heap a _))
    rw [Heap.get?_update_self (Obj.putSet (esO (insb bs b)) (tabO led (insb bs b))) ho rfl]
    rfl
  rcases id hv with rfl | rfl | rfl | rfl
  · refine scan_nil ?_
    dsimp only
    rw [lay_nil led b]
    refine fin _ rfl ?_
    cases b
    · exact .inr (.inl rfl)
    · exact .inr (.inr (.inl rfl))
  · cases b
    · cases hb
    · refine scan_miss (by decide) (scan_nil ?_)
      dsimp only
      rw [lay_f led]
      exact fin _ rfl (.inr (.inr (.inr rfl)))
  · cases b
    · refine scan_miss (by decide) (scan_nil ?_)
      dsimp only
      rw [lay_t led]
      exact fin _ rfl (.inr (.inr (.inr rfl)))
    · cases hb
  · cases b
    · cases hb
    · cases hb
theorem r_setadd {a : Addr} {led : Bool} {bs : List Bool} {ep : Nat} {b : Bool} {Q : Value → Shared → Prop} (hv : Bs bs) (ho : s.heap.get? a = some (setO led bs ep))
    (h : ∀ h' tk ep', h'.get? a = some (setO led (insb bs b) ep') → Heap.SameBut a s.heap h' → Q .none { s with heap := h', toks := tk }) : wpAny (model prog w) A (call (.builtin "set.add") [.ref a, .bool b]) Q E s := by
  have hT : s.TypeIs (.ref a) "set" := ⟨_, ho, rfl⟩
  refine wpAny_call_entry F.slot_set_add hT F.entry_set_add ?_ (F.args_set_add_2 _ _)
  unfold Builtin.«set.add» Builtin.Frozenset.oneOther
  simp only [List.isEmpty_nil, bind_assoc]
  unfold Builtin.Frozenset.addrOf setAdd
  refine wpAny_bind (wpAny_pure ?_)
  try dsimp only
  refine wpAny_bind (wpAny_pure ?_)
  try dsimp only
  refine wpAny_bind ?_
  refine wpAny_holding ?_
  refine wpAny_bind (hash_bool ?_)
  unfold setAddHashed setAddHashedIn
  refine wpAny_holding (wpAny_bind (state_set (s := { s with toks := s.toks + 1 }) hv ho ?_))
  dsimp only
  rw [if_pos (by rcases hv with rfl | rfl | rfl | rfl <;> simp [byScan, Value.scannable, scanBound])]
  refine wpAny_bind ?_
  cases hb : bs.contains b with
  | true =>
    have e : insb bs b = bs := by unfold insb; rw [hb]; rfl
    refine byscan_old (s := { s with toks := s.toks + 1 }) hv hb ho (wpAny_pure ?_)
    exact wpAny_pure ⟨_, rfl, h s.heap _ ep (by rw [e]; exact ho) (Heap.SameBut.refl _ _)⟩
  | false =>
    refine byscan_new (s := { s with toks := s.toks + 1 }) hv hb ho fun h' ho' hs' => wpAny_pure ?_
    exact wpAny_pure ⟨_, rfl, h h' _ _ ho' hs'⟩
end
end
section
theorem o_seti : Manifest.owners.lookup (String.ofList ['r', 'o', 't', 'a', 'r', 'e', 't', 'i', '_', 't', 'e', 's'].reverse) = some Manifest.sig_set_iterator := by kernel_rfl
theorem s_seti_next : Slot "set_iterator" "__next__" "set_iterator.__next__" :=
  .of (owner := "set_iterator") (n := "__next__") (by rw [typeLookup_type, builtinLookup_eq_fast]; kernel_rfl) (by decide +kernel) (by decide +kernel) (by decide +kernel)
    (by first | exact .inl (by decide +kernel) | exact .inr (by decide +kernel)) (by rw [isSubtype_type]; kernel_rfl)
theorem e_seti_next : entryFor table "set_iterator.__next__" = some Builtin.«set_iterator.__next__» := entryFor_of_tree (by kernel_rfl)
theorem a_seti_next (a : Value) : argsOk "set_iterator.__next__" ⟨[a], []⟩ := by
  unfold argsOk; rw [signature?_of (id := "set_iterator.__next__") (n := ['_', '_', 't', 'x', 'e', 'n', '_', '_']) (o := ['r', 'o', 't', 'a', 'r', 'e', 't', 'i', '_', 't', 'e', 's']) (by kernel_rfl) o_seti]; kernel_rfl
theorem e_set_iter : entryFor table "set.__iter__" = some Builtin.«frozenset.__iter__» :=
  entryFor_alias (id' := "frozenset.__iter__") (by kernel_rfl) rfl (by decide +kernel) (by kernel_rfl)
abbrev itO (sl i : Nat) (a : Addr) (n ep : Nat) : Obj := { cls := .type "set_iterator", data := .fields #[rawInt sl, rawInt i, .ref a, rawInt n, rawInt ep] }
abbrev ledW (w : World) : Bool := !(w.params.followText "set-order")
section
variable {prog : Program} {w : World} {A : Around} {E : Value → Shared → Prop} {s : Shared} {a : Addr} {ep : Nat}
theorem by_text {Q : Bool → Shared → Prop} (h : Q (w.params.followText "set-order") s) : wpAny (model prog w) A setsByText Q E s := by
  unfold setsByText; exact wpAny_bind (wpAny_askSetting (wpAny_pure h))
theorem set_iter {bs : List Bool} {Q : Value → Shared → Prop} (hv : Bs bs) (ho : s.heap.get? a = some (setO (ledW w) bs ep)) (h : Q (.ref s.heap.objs.size) { s with heap := s.heap.push (itO 0 0 a bs.length ep) }) : wpAny (model prog w) A (pyIter (.ref a)) Q E s := by
  have hT : s.TypeIs (.ref a) "set" := ⟨_, ho, rfl⟩
  refine wpAny_pyIter_slot hT F.slot_set_iter (wpAny_call_entry F.slot_set_iter hT e_set_iter ?_ (F.args_set_iter_1 _))
  unfold Builtin.«frozenset.__iter__» Builtin.Frozenset.slot0 slotArgs
  simp only [List.isEmpty_nil, Bool.not_true, Bool.false_eq_true, ↓reduceIte, bind_assoc, List.length_nil, bne_self_eq_false]
  unfold Builtin.Frozenset.addrOf Builtin.Frozenset.sizeOf
  refine wpAny_bind (wpAny_pure ?_)
  try dsimp only
  refine wpAny_bind (wpAny_pure ?_)
  refine wpAny_bind (wpAny_bind ?_)
  unfold setEntries
  refine wpAny_bind (state_set hv ho (wpAny_pure (wpAny_pure ?_)))
  refine wpAny_bind ?_
  unfold setDrawn
  refine wpAny_bind (state_set hv ho (wpAny_bind (by_text (wpAny_pure ?_))))
  split
  · rename_i e; exact Bool.noConfusion ((Bool.and_eq_true_iff.mp e).2 : false = true)
  refine wpAny_bind (wpAny_pure (wpAny_bind ?_))
  unfold setEpoch
  refine wpAny_bind (state_set hv ho (wpAny_pure ?_))
  refine wpAny_bind ?_
  unfold newFields
  refine wpAny_newObj_type ?_
  refine wpAny_pure ⟨_, rfl, "set_iterator", _, ⟨_, Heap.get?_push_size _ rfl, rfl⟩, s_seti_next.lookup, ?_⟩
  have e : (esO bs).size = bs.length := by simp
  rw [← e] at h
  exact h
theorem pick_one {α : Type} (f : Nat → Nat) (x : α) : pickOrder f #[x] = #[x] := by
  show pickOrder.go f 1 0 [x] #[] = #[x]
  rw [pickOrder.go]
  have e : ([x] : List α)[f 0 % [x].length]? = some x := by
    rw [show f 0 % [x].length = 0 from Nat.mod_one _]; rfl
  rw [e]
  rfl
theorem pick_two {α : Type} (f : Nat → Nat) (x y : α) : pickOrder f #[x, y] = #[x, y] ∨ pickOrder f #[x, y] = #[y, x] := by
  show pickOrder.go f 2 0 [x, y] #[] = _ ∨ pickOrder.go f 2 0 [x, y] #[] = _
  rw [pickOrder.go]
  have h : f 0 % [x, y].length < 2 := Nat.mod_lt _ (Nat.zero_lt_succ 1)
  generalize f 0 % [x, y].length = r at h
  match r, h with
  | 0, _ =>
    left
    show pickOrder.go f 1 1 [y] #[x] = _
    rw [pickOrder.go]
    have e : ([y] : List α)[f 1 % [y].length]? = some y := by
      rw [show f 1 % [y].length = 0 from Nat.mod_one _]; rfl
    rw [e]
    rfl
  | 1, _ =>
    right
    show pickOrder.go f 1 1 [x] #[y] = _
    rw [pickOrder.go]
    have e : ([x] : List α)[f 1 % [x].length]? = some x := by
      rw [show f 1 % [x].length = 0 from Nat.mod_one _]; rfl
    rw [e]
    rfl
theorem set_walk {bs : List Bool} {Q : Array (Int × Value) → Shared → Prop} (ht : w.params.followText "set-order" = true) (hv : Bs bs) (ho : s.heap.get? a = some (setO (ledW w) bs ep)) (h : ∀ f, Q (pickOrder f (esO bs)) s) : wpAny (model prog w) A (setWalk a) Q E s := by
  unfold setWalk
  refine wpAny_bind (state_set hv ho (wpAny_bind (by_text ?_)))
  rw [if_pos ht]
  exact wpAny_bind (wpAny_askSetting (wpAny_pure (h _)))
/-- what a set's next is: the first, the second, none -/
theorem set_next {bs : List Bool} {sl i : Nat} {Q : Option (Value × Nat) → Shared → Prop} (hv : Bs bs) (ho : s.heap.get? a = some (setO (ledW w) bs ep))
    (hi : i = 0 ∧ sl = 0 ∨ i = 1 ∧ (w.params.followText "set-order" = false → ∀ b, bs.head? = some b → sl = b.toNat + 1))
    (h : ∀ r, (∀ b, bs = [b] → (i = 0 → ∃ sl', r = some (.bool b, sl') ∧ (w.params.followText "set-order" = false → sl' = b.toNat + 1)) ∧ (i = 1 → r = none)) →
      (bs = [false, true] → ∃ c sl', r = some (.bool c, sl') ∧ (i = 0 → w.params.followText "set-order" = false → sl' = 1)) → Q r s) : wpAny (model prog w) A (setNext a sl i ep) Q E s := by
  unfold setNext
  refine wpAny_bind (state_set hv ho (wpAny_bind (by_text ?_)))
  by_cases ht : w.params.followText "set-order" = true
  · rw [if_pos ht, if_neg (by simp)]
    refine wpAny_bind (set_walk ht hv ho fun f => wpAny_pure (h _ ?_ ?_))
    · rintro b rfl
      rw [show esO [b] = #[(h01 b, Value.bool b)] from rfl, pick_one]
      refine ⟨fun e => ⟨sl, by subst e; rfl, fun q => by rw [ht] at q; cases q⟩, fun e => by subst e; rfl⟩
    · rintro rfl
      have key : ∃ c, ((pickOrder f (esO [false, true]))[i]?).map (fun e => (e.2, sl)) = some (Value.bool c, sl) := by
        rcases pick_two f ((h01 false, Value.bool false) : Int × Value) (h01 true, Value.bool true) with e | e
        all_goals
          rw [show esO [false, true] = #[(h01 false, Value.bool false), (h01 true, Value.bool true)] from rfl, e]
          rcases hi with ⟨rfl, _⟩ | ⟨rfl, _⟩
          all_goals exact ⟨_, rfl⟩
      obtain ⟨c, e⟩ := key
      exact ⟨c, sl, e, fun _ q => by rw [ht] at q; cases q⟩
  · have hf : w.params.followText "set-order" = false := by simpa using ht
    rw [if_neg ht]
    dsimp only
    split
    · rename_i e; exact Bool.noConfusion (e : false = true)
    refine wpAny_bind ?_
    show wpAny _ _ (if (!(ledW w) && !(esO bs).isEmpty) = true then _ else _) _ _ _
    rw [if_neg (by unfold ledW; rw [hf]; simp)]
    refine wpAny_pure (wpAny_pure (h _ ?_ ?_))
    · rintro b rfl
      rcases hi with ⟨rfl, rfl⟩ | ⟨rfl, hs⟩
      · exact ⟨fun _ => ⟨b.toNat + 1, by cases b <;> rfl, fun _ => rfl⟩, fun e => Nat.noConfusion e⟩
      · refine ⟨fun e => Nat.noConfusion e, fun _ => ?_⟩
        rw [hs hf b rfl]
        cases b <;> rfl
    · rintro rfl
      rcases hi with ⟨rfl, rfl⟩ | ⟨rfl, hs⟩
      · exact ⟨false, 1, rfl, fun _ _ => rfl⟩
      · rw [hs hf false rfl]
        exact ⟨true, 2, rfl, fun e => by cases e⟩
theorem seti_item {bs : List Bool} {sl i : Nat} {it : Addr} {Q : Option Value → Shared → Prop} (hv : Bs bs) (ho : s.heap.get? a = some (setO (ledW w) bs ep)) (hit : s.heap.get? it = some (itO sl i a bs.length ep))
    (hi : i = 0 ∧ sl = 0 ∨ i = 1 ∧ (w.params.followText "set-order" = false → ∀ b, bs.head? = some b → sl = b.toNat + 1)) (hh : A.handled = none) (hai : a ≠ it)
    (hne : i < bs.length)
    (h : ∀ v h' sl', (∃ c, v = Value.bool c) → (∀ b, bs = [b] → v = .bool b) → (i = 0 → w.params.followText "set-order" = false → ∀ b, bs.head? = some b → sl' = b.toNat + 1) → h'.get? it = some (itO sl' (i + 1) a bs.length ep) → Heap.SameBut it s.heap h' → Q (some v) { s with heap := h' }) :
    wpAny (model prog w) A (pyNext (.ref it)) Q E s := by
  have hT : s.TypeIs (.ref it) "set_iterator" := ⟨_, hit, rfl⟩
  unfold pyNext
  refine wpAny_bind (wpAny_attempt (wpAny_callSpecial?_slot (name := Str.ofString "__next__") hT s_seti_next
    (wpAny_call_entry s_seti_next hT e_seti_next ?_ (a_seti_next _))))
  unfold Builtin.«set_iterator.__next__»
  refine wpAny_bind (wpAny_pure ?_)
  refine wpAny_bind (wpAny_fieldsOf hit rfl ?_)
  show wpAny _ _ (setEntries a >>= _) _ _ _
  unfold setEntries
  refine wpAny_bind (wpAny_bind (state_set hv ho (wpAny_pure ?_)))
  rw [if_neg (by simp)]
  show wpAny _ _ (setNext a (((sl : Nat) : Int).toNat) (((i : Nat) : Int).toNat) (((ep : Nat) : Int).toNat) >>= _) _ _ _
  simp only [Int.toNat_natCast]
  refine wpAny_bind (set_next hv ho hi fun r h1 h2 => ?_)
  have key : ∃ c sl', r = some (Value.bool c, sl') ∧ (∀ b, bs = [b] → c = b) ∧ (i = 0 → w.params.followText "set-order" = false → ∀ b, bs.head? = some b → sl' = b.toNat + 1) := by
    have hi01 : i = 0 ∨ i = 1 := hi.elim (fun q => .inl q.1) fun q => .inr q.1
    have one : ∀ b, bs = [b] → ∃ c sl', r = some (Value.bool c, sl') ∧ (∀ b, bs = [b] → c = b) ∧ (i = 0 → w.params.followText "set-order" = false → ∀ b, bs.head? = some b → sl' = b.toNat + 1) := by
      intro b hb
      have i0 : i = 0 := by rw [hb] at hne; exact Nat.lt_one_iff.mp hne
      obtain ⟨sl', e1, e2⟩ := (h1 b hb).1 i0
      exact ⟨b, sl', e1, fun b' hb' => by rw [hb] at hb'; exact (List.cons.inj hb').1, fun _ hf b' hb' => by rw [hb] at hb'; rw [← Option.some.inj hb']; exact e2 hf⟩
    rcases id hv with q | q | q | q
    · rw [q] at hne; exact absurd hne (Nat.not_lt_zero _)
    · exact one _ q
    · exact one _ q
    · obtain ⟨c, sl', e1, e2⟩ := h2 q
      exact ⟨c, sl', e1, (fun b hb => by rw [q] at hb; cases hb), fun i0 hf b hb => by rw [q] at hb; rw [← Option.some.inj hb]; exact e2 i0 hf⟩
  obtain ⟨c, sl', rfl, k1, k2⟩ := key
  dsimp only
  refine wpAny_bind (wpAny_setField_rec hit (by simp) fun h₁ hit₁ hs₁ => ?_)
  refine wpAny_bind (wpAny_setField_rec hit₁ (by simp) fun h₂ hit₂ hs₂ => ?_)
  refine wpAny_pure ⟨_, rfl, wpAny_pure (h _ h₂ sl' ⟨c, rfl⟩ (fun b hb => by rw [k1 b hb]) k2 ?_ (hs₁.trans hs₂))⟩
  rw [hit₂]
  rfl
theorem seti_end {b : Bool} {sl : Nat} {it : Addr} {Q : Option Value → Shared → Prop} (ho : s.heap.get? a = some (setO (ledW w) [b] ep)) (hit : s.heap.get? it = some (itO sl 1 a 1 ep))
    (hi : w.params.followText "set-order" = false → sl = b.toNat + 1) (hh : A.handled = none)
    (h : ∀ h', Heap.ExtBut it s.heap h' → Q none { s with heap := h' }) : wpAny (model prog w) A (pyNext (.ref it)) Q E s := by
  have hv : Bs [b] := by cases b; exact .inr (.inl rfl); exact .inr (.inr (.inl rfl))
  have hT : s.TypeIs (.ref it) "set_iterator" := ⟨_, hit, rfl⟩
  unfold pyNext
  refine wpAny_bind (wpAny_attempt (wpAny_callSpecial?_slot (name := Str.ofString "__next__") hT s_seti_next
    (wpAny_call_entry s_seti_next hT e_seti_next ?_ (a_seti_next _))))
  unfold Builtin.«set_iterator.__next__»
  refine wpAny_bind (wpAny_pure ?_)
  refine wpAny_bind (wpAny_fieldsOf hit rfl ?_)
  show wpAny _ _ (setEntries a >>= _) _ _ _
  unfold setEntries
  refine wpAny_bind (wpAny_bind (state_set hv ho (wpAny_pure ?_)))
  rw [if_neg (by simp)]
  show wpAny _ _ (setNext a (((sl : Nat) : Int).toNat) 1 (((ep : Nat) : Int).toNat) >>= _) _ _ _
  simp only [Int.toNat_natCast]
  refine wpAny_bind (set_next hv ho (.inr ⟨rfl, fun hf b' hb' => by rw [← Option.some.inj hb']; exact hi hf⟩) fun r h1 _ => ?_)
  rw [(h1 b rfl).2 rfl]
  dsimp only
  refine wpAny_bind (wpAny_setField hit rfl (by simp) ?_)
  show wpAny _ _ (newExc (.type "StopIteration") [] >>= _) _ _ _
  refine wpAny_bind ?_
  simp only [newExc, newTuple]
  refine wpAny_bind (wpAny_newObj_type ?_ (by size_fits))
  refine wpAny_bind (m := firstArgMember _ _) (wpAny_of_eq (a := Value.none) (by first | rfl | (simp only [firstArgMember]; rfl)) ?_)
  refine wpAny_newObj_type ?_ (by size_fits)
  simp only [raiseNew]
  refine wpAny_bind (wpAny_handled ?_)
  rw [show A.in1.handled = none from hh]
  refine wpAny_bind (wpAny_pure (wpAny_throw ?_))
  refine wpAny_bind (wpAny_isInstance (T := "StopIteration") (b := true) ⟨_, Heap.get?_push_size _ rfl, rfl⟩ isSubtype_stop ?_)
  exact wpAny_pure (h _ (((Heap.SameBut.update ..).extBut.push _).push _))
/-- a set of one is unpacked -/
theorem unpack_one {b : Bool} {Q : List Value → Shared → Prop} (hh : A.handled = none) (ho : s.heap.get? a = some (setO (ledW w) [b] ep))
    (h : ∀ h', (∀ x o, s.heap.get? x = some o → h'.get? x = some o) → Q [.bool b] { s with heap := h' }) : wpAny (model prog w) A (unpackItems (.ref a) 1 none) Q E s := by
  have hv : Bs [b] := by cases b; exact .inr (.inl rfl); exact .inr (.inr (.inl rfl))
  have hT : s.TypeIs (.ref a) "set" := ⟨_, ho, rfl⟩
  have hlt : a ≠ s.heap.objs.size := Nat.ne_of_lt (Heap.lt_size ho)
  unfold unpackItems notIterableAtAll
  refine wpAny_bind (wpAny_bind (wpAny_specialOf hT F.slot_set_iter.lookup ?_))
  refine wpAny_pure ?_
  simp only [Bool.false_eq_true, if_false]
  refine wpAny_bind (wpAny_holding (set_iter hv ho ?_))
  refine wpAny_bind (wpAny_holding ?_)
  unfold draw
  refine wpAny_bind (seti_item hv (Heap.get?_push_of_some _ ho) (Heap.get?_push_size _ rfl) (.inl ⟨rfl, rfl⟩) hh hlt (Nat.zero_lt_succ _) fun v h₁ sl' _ k1 k2 hit₁ hs₁ => ?_)
  rw [k1 b rfl]
  dsimp only
  refine wpAny_bind (wpAny_holding ?_)
  unfold draw
  refine wpAny_pure (wpAny_pure ?_)
  rw [if_neg (by simp)]
  refine wpAny_bind (wpAny_holding (seti_end (hs₁.extBut _ _ hlt (Heap.get?_push_of_some _ ho)) hit₁ (fun hf => k2 rfl hf b rfl) hh fun h₂ he₂ => ?_))
  simp only [Option.isSome_none, Bool.false_eq_true, if_false]
  exact wpAny_pure (h h₂ fun x o e => he₂ x o (Nat.ne_of_lt (Heap.lt_size e)) (hs₁.extBut x o (Nat.ne_of_lt (Heap.lt_size e)) (Heap.get?_push_of_some _ e)))
/-- a set of two is too many: what is raised is as the text says -/
theorem unpack_two {Q : List Value → Shared → Prop} (hh : A.handled = none) (ho : s.heap.get? a = some (setO (ledW w) [false, true] ep))
    (h : ∀ h', (∀ x o, s.heap.get? x = some o → h'.get? x = some o) → wpAny (model prog w) A (raiseErrorMade "ValueError" (toString "too many values to unpack (expected " ++ toString 1 ++ toString ")") : Sem PUnit) (fun _ _ => False) E { s with heap := h' }) : wpAny (model prog w) A (unpackItems (.ref a) 1 none) Q E s := by
  have hv : Bs [false, true] := .inr (.inr (.inr rfl))
  have hT : s.TypeIs (.ref a) "set" := ⟨_, ho, rfl⟩
  have hlt : a ≠ s.heap.objs.size := Nat.ne_of_lt (Heap.lt_size ho)
  unfold unpackItems notIterableAtAll
  refine wpAny_bind (wpAny_bind (wpAny_specialOf hT F.slot_set_iter.lookup ?_))
  refine wpAny_pure ?_
  simp only [Bool.false_eq_true, if_false]
  refine wpAny_bind (wpAny_holding (set_iter hv ho ?_))
  refine wpAny_bind (wpAny_holding ?_)
  unfold draw
  refine wpAny_bind (seti_item hv (Heap.get?_push_of_some _ ho) (Heap.get?_push_size _ rfl) (.inl ⟨rfl, rfl⟩) hh hlt (Nat.zero_lt_succ _) fun v h₁ sl' _ _ k2 hit₁ hs₁ => ?_)
  dsimp only
  refine wpAny_bind (wpAny_holding ?_)
  unfold draw
  refine wpAny_pure (wpAny_pure ?_)
  rw [if_neg (by simp)]
  refine wpAny_bind (wpAny_holding (seti_item hv (hs₁.extBut _ _ hlt (Heap.get?_push_of_some _ ho)) hit₁ (.inr ⟨rfl, fun hf => k2 rfl hf⟩) hh hlt (by decide) fun v₂ h₂ _ _ _ _ _ hs₂ => ?_))
  simp only [Option.isSome_some, if_true]
  refine wpAny_bind (wpAny_rule (wpAny_bind (wpAny_mono (h h₂ fun x o e => ?_) (fun _ _ f => f.elim) fun _ _ e => e)))
  exact hs₂.extBut x o (Nat.ne_of_lt (Heap.lt_size e)) (hs₁.extBut x o (Nat.ne_of_lt (Heap.lt_size e)) (Heap.get?_push_of_some _ e))
end
theorem isL {h₀ h : Heap} {L D : Addr} {news : List (Addr × Obj)} {vs : List Value} {ep : Nat} (N : News h₀ L h news) (hm : (D, listOf vs.toArray ep) ∈ news) : h.IsList D vs.toArray := ⟨_, (N _ hm).1, rfl, _, rfl⟩
end
section
/-! order: of texts, of bytes, of lists of them -/
namespace FX
theorem slot_lt : Slot "bytes" (cmpInfo .Lt).2.1 "bytes.__lt__" :=
  .of (owner := "bytes") (n := "__lt__") (by rw [typeLookup_type, builtinLookup_eq_fast]; kernel_rfl) (by decide +kernel) (by decide +kernel) (by decide +kernel)
    (by first | exact .inl (by decide +kernel) | exact .inr (by decide +kernel)) (by rw [isSubtype_type]; kernel_rfl)
theorem entry_lt : entryFor table "bytes.__lt__" = some Builtin.«bytes.__lt__» := entryFor_of_tree (by kernel_rfl)
theorem args_lt (a b : Value) : argsOk "bytes.__lt__" ⟨[a, b], []⟩ := by
  unfold argsOk; rw [signature?_of (id := "bytes.__lt__") (n := ['_', '_', 't', 'l', '_', '_']) (o := ['s', 'e', 't', 'y', 'b']) (by kernel_rfl) FB.owner_bytes]; kernel_rfl
theorem slot_gt : Slot "bytes" (cmpInfo .Gt).2.1 "bytes.__gt__" :=
  .of (owner := "bytes") (n := "__gt__") (by rw [typeLookup_type, builtinLookup_eq_fast]; kernel_rfl) (by decide +kernel) (by decide +kernel) (by decide +kernel)
    (by first | exact .inl (by decide +kernel) | exact .inr (by decide +kernel)) (by rw [isSubtype_type]; kernel_rfl)
theorem entry_gt : entryFor table "bytes.__gt__" = some Builtin.«bytes.__gt__» := entryFor_of_tree (by kernel_rfl)
theorem args_gt (a b : Value) : argsOk "bytes.__gt__" ⟨[a, b], []⟩ := by
  unfold argsOk; rw [signature?_of (id := "bytes.__gt__") (n := ['_', '_', 't', 'g', '_', '_']) (o := ['s', 'e', 't', 'y', 'b']) (by kernel_rfl) FB.owner_bytes]; kernel_rfl
end FX
theorem order_lt : ∀ a b : List Nat, (∀ x ∈ a, x < 256) → (∀ x ∈ b, x < 256) → ((Builtin.Bytes.order (bys a) (bys b) == .lt) = decide (a < b) ∧ (Builtin.Bytes.order (bys a) (bys b) == .gt) = decide (b < a))
  | [], [], _, _ => by decide
  | [], y :: b, _, _ => ⟨by simp [bys, Builtin.Bytes.order], by simp [bys, Builtin.Bytes.order]⟩
  | x :: a, [], _, _ => ⟨by simp [bys, Builtin.Bytes.order], by simp [bys, Builtin.Bytes.order]⟩
  | x :: a, y :: b, ha, hb => by
    have hx := ha x (.head _)
    have hy := hb y (.head _)
    have ih := order_lt a b (fun z hz => ha z (.tail _ hz)) (fun z hz => hb z (.tail _ hz))
    have key : ∀ u v : Nat, u < 256 → v < 256 → (u.toUInt8 < v.toUInt8 ↔ u < v) := fun u v hu hv => by
      rw [UInt8.lt_iff_toNat_lt]; simp; omega
    show (Builtin.Bytes.order (x.toUInt8 :: bys a) (y.toUInt8 :: bys b) == .lt) = _ ∧ (Builtin.Bytes.order (x.toUInt8 :: bys a) (y.toUInt8 :: bys b) == .gt) = _
    rw [Builtin.Bytes.order]
    by_cases h1 : x < y
    · rw [if_pos ((key x y hx hy).mpr h1)]
      have n1 : ¬ y < x := by omega
      have n2 : ¬ y = x := by omega
      constructor <;> simp [List.cons_lt_cons_iff, h1, n1, n2]
    · rw [if_neg (fun e => h1 ((key x y hx hy).mp e))]
      by_cases h2 : y < x
      · rw [if_pos (show x.toUInt8 > y.toUInt8 from (key y x hy hx).mpr h2)]
        have n2 : ¬ x = y := by omega
        constructor <;> simp [List.cons_lt_cons_iff, h1, h2, n2]
      · rw [if_neg (fun e : y.toUInt8 < x.toUInt8 => h2 ((key y x hy hx).mp e))]
        have e : x = y := by omega
        subst e
        rw [ih.1, ih.2]
        constructor <;> simp [List.cons_lt_cons_iff]
theorem gives_lt {a b : List Nat} (ha : ∀ x ∈ a, x < 256) (hb : ∀ x ∈ b, x < 256) (t u : Tok) : Gives (Builtin.«bytes.__lt__» ⟨[.bytes (bys a).toArray t, .bytes (bys b).toArray u], []⟩) (.val (.bool (decide (a < b)))) := by
  refine .of_wp fun M A E s Q hq => ?_
  show wpAny M A (isInstance (.bytes (bys b).toArray u) (.type "bytes") >>= fun r => _) _ E s
  refine wpAny_bind (wpAny_isInstance (typeIs_bytes s _ u) F.sub_bytes_bytes ?_)
  exact wpAny_pure ⟨_, rfl, by rw [← (order_lt a b ha hb).1] at hq; exact hq⟩
theorem gives_gt {a b : List Nat} (ha : ∀ x ∈ a, x < 256) (hb : ∀ x ∈ b, x < 256) (t u : Tok) : Gives (Builtin.«bytes.__gt__» ⟨[.bytes (bys a).toArray t, .bytes (bys b).toArray u], []⟩) (.val (.bool (decide (b < a)))) := by
  refine .of_wp fun M A E s Q hq => ?_
  show wpAny M A (isInstance (.bytes (bys b).toArray u) (.type "bytes") >>= fun r => _) _ E s
  refine wpAny_bind (wpAny_isInstance (typeIs_bytes s _ u) F.sub_bytes_bytes ?_)
  exact wpAny_pure ⟨_, rfl, by rw [← (order_lt a b ha hb).2] at hq; exact hq⟩
section
variable {prog : Program} {w : World} {A : Around} {E : Value → Shared → Prop} {s : Shared} {k : Kd} {l l' : List Nat} {t u : Tok}
theorem r_lt {Q : Value → Shared → Prop} (ok : Ok l) (ok' : Ok l') (h : Q (.bool (decide (l < l'))) s) : wpAny (model prog w) A (richCompare .Lt (tx k l t) (tx k l' u)) Q E s := by
  cases k with
  | s => exact PySem.P.lt_str (x := ⟨l.toArray⟩) (y := ⟨l'.toArray⟩) h
  | b => exact richCompare_gives (op := .Lt) (typeIs_bytes s _ t) (typeIs_bytes s _ u) FX.slot_lt FX.entry_lt (FX.args_lt _ _) (gives_lt ok.lt ok'.lt t u) (fun e => nomatch e) h
theorem r_gt {Q : Value → Shared → Prop} (ok : Ok l) (ok' : Ok l') (h : Q (.bool (decide (l' < l))) s) : wpAny (model prog w) A (richCompare .Gt (tx k l t) (tx k l' u)) Q E s := by
  cases k with
  | s => exact PySem.P.gt_str (x := ⟨l.toArray⟩) (y := ⟨l'.toArray⟩) h
  | b => exact richCompare_gives (op := .Gt) (typeIs_bytes s _ t) (typeIs_bytes s _ u) FX.slot_gt FX.entry_gt (FX.args_gt _ _) (gives_gt ok.lt ok'.lt t u) (fun e => nomatch e) h
theorem r_eqb {Q : Bool → Shared → Prop} (ok : Ok l) (ok' : Ok l') (h : Q (l == l') s) : wpAny (model prog w) A (eqBool (tx k l t) (tx k l' u)) Q E s := by
  cases k with
  | s =>
    refine wpAny_eqBool_str (a := ⟨l.toArray⟩) (b := ⟨l'.toArray⟩) ?_
    rw [show decide ((⟨l.toArray⟩ : Str) = ⟨l'.toArray⟩) = (l == l') by rw [Bool.eq_iff_iff]; simp]
    exact h
  | b =>
    refine eqBool_bytes ?_
    rw [show decide ((bys l).toArray.toList = (bys l').toArray.toList) = (l == l') by rw [← bys_beq ok ok', Bool.eq_iff_iff]; simp]
    exact h
end
end
section
open PySem.AutoSeq1 (wpAny_loadPart')
/-- 'less' of two lists of texts, or 'greater' -/
def lg (g : Bool) (x y : List (List Nat)) : Bool := if g then decide (y < x) else decide (x < y)
theorem lg_nil (g : Bool) : lg g [] [] = false := by cases g <;> rfl
theorem lg_cons (g : Bool) (a b : List Nat) (x y : List (List Nat)) : lg g (a :: x) (b :: y) = if a == b then lg g x y else (if g then decide (b < a) else decide (a < b)) := by
  cases g
  · show decide (a :: x < b :: y) = if (a == b) = true then decide (x < y) else decide (a < b)
    by_cases e : a = b
    · subst e; simp [List.cons_lt_cons_iff, List.lt_irrefl]
    · rw [if_neg (by simpa using e)]; simp [List.cons_lt_cons_iff, e]
  · show decide (b :: y < a :: x) = if (a == b) = true then decide (y < x) else decide (b < a)
    by_cases e : a = b
    · subst e; simp [List.cons_lt_cons_iff, List.lt_irrefl]
    · rw [if_neg (by simpa using e)]; simp [List.cons_lt_cons_iff, Ne.symm e]
theorem lg_size (g : Bool) (x y : List (List Nat)) (h : x = [] ∨ y = []) : lg g x y = (if g then decide (x.length > y.length) else decide (x.length < y.length)) := by
  rcases h with rfl | rfl
  · cases g <;> cases y <;> simp [lg]
  · cases g <;> cases x <;> simp [lg]
abbrev opG (g : Bool) : CmpOp := if g then .Gt else .Lt
section
variable {prog : Program} {w : World} {A : Around} {E : Value → Shared → Prop} {s : Shared} {k : Kd}
theorem r_cmpG {g : Bool} {l l' : List Nat} {t u : Tok} {Q : Value → Shared → Prop} (ok : Ok l) (ok' : Ok l') (h : Q (.bool (if g then decide (l' < l) else decide (l < l'))) s) : wpAny (model prog w) A (richCompare (opG g) (tx k l t) (tx k l' u)) Q E s := by
  cases g
  · exact r_lt ok ok' h
  · exact r_gt ok ok' h
end
set_option maxHeartbeats 1000000 in
theorem lt_loop (g : Bool) (a b : Addr) {k : Kd} {vs1 vs2 : List Value} {ls1 ls2 : List (List Nat)} (e1 e2 : Nat) (h1 : TxsAre k vs1 ls1) (h2 : TxsAre k vs2 ls2) (ok1 : ∀ l ∈ ls1, Ok l) (ok2 : ∀ l ∈ ls2, Ok l) (m : Nat) :
    ∀ i : Nat, i ≤ ls1.length → i ≤ ls2.length → ls1.length - i = m → Meets (Builtin.«list.__eq__.loop» ⟨[.ref a, .ref b, rawInt i, rawInt (if g then 4 else 0)], []⟩)
      (fun _ R s => s.heap.get? a = some (listOf vs1.toArray e1) ∧ s.heap.get? b = some (listOf vs2.toArray e2) ∧ R (.ok (.ret (.bool (lg g (ls1.drop i) (ls2.drop i))))) s) := by
  have z1 := h1.length
  have z2 := h2.length
  induction m with
  | zero =>
    intro i hle1 hle2 hk prog w A R s h
    obtain ⟨hp, gg, d, tk, os⟩ := s; obtain ⟨hl, hb, h⟩ := h
    have hi1 : vs1.toArray[((i : Nat) : Int).toNat]? = none := by simp; omega
    rw [lg_size g _ _ (.inl (List.drop_of_length_le (by omega)))] at h
    cases g
    all_goals
      wp_walk using wpAny_loadPart' hl, wpAny_loadPart' hb
      rw [hi1]
      wp_walk using wpAny_loadPart' hl, wpAny_loadPart' hb
    · show R (.ok (.ret (.bool (decide (vs1.toArray.size < vs2.toArray.size))))) _
      rw [show decide (vs1.toArray.size < vs2.toArray.size) = decide ((ls1.drop i).length < (ls2.drop i).length) by rw [Bool.eq_iff_iff]; simp; omega]
      exact h
    · show R (.ok (.ret (.bool (decide (vs1.toArray.size > vs2.toArray.size))))) _
      rw [show decide (vs1.toArray.size > vs2.toArray.size) = decide ((ls1.drop i).length > (ls2.drop i).length) by rw [Bool.eq_iff_iff]; simp; omega]
      exact h
  | succ m ih =>
    intro i hle1 hle2 hk prog w A R s h
    obtain ⟨hp, gg, d, tk, os⟩ := s; obtain ⟨hl, hb, h⟩ := h
    obtain ⟨x, t, hx, hvx⟩ := h1.at_ i (by omega)
    have hi1 : vs1.toArray[((i : Nat) : Int).toNat]? = some (tx k x t) := by simpa using hvx
    by_cases hi : i = ls2.length
    · have hi2 : vs2.toArray[((i : Nat) : Int).toNat]? = none := by simp; omega
      rw [lg_size g _ _ (.inr (List.drop_of_length_le (by omega)))] at h
      cases g
      all_goals
        wp_walk using wpAny_loadPart' hl, wpAny_loadPart' hb
        rw [hi1, hi2]
        wp_walk using wpAny_loadPart' hl, wpAny_loadPart' hb
      · show R (.ok (.ret (.bool (decide (vs1.toArray.size < vs2.toArray.size))))) _
        rw [show decide (vs1.toArray.size < vs2.toArray.size) = decide ((ls1.drop i).length < (ls2.drop i).length) by rw [Bool.eq_iff_iff]; simp; omega]
        exact h
      · show R (.ok (.ret (.bool (decide (vs1.toArray.size > vs2.toArray.size))))) _
        rw [show decide (vs1.toArray.size > vs2.toArray.size) = decide ((ls1.drop i).length > (ls2.drop i).length) by rw [Bool.eq_iff_iff]; simp; omega]
        exact h
    · obtain ⟨y, u, hy, hvy⟩ := h2.at_ i (by omega)
      have hi2 : vs2.toArray[((i : Nat) : Int).toNat]? = some (tx k y u) := by simpa using hvy
      have okx := ok1 x (List.mem_of_getElem? hx)
      have oky := ok2 y (List.mem_of_getElem? hy)
      obtain ⟨l1, rfl⟩ := List.getElem?_eq_some_iff.mp hx
      obtain ⟨l2, rfl⟩ := List.getElem?_eq_some_iff.mp hy
      have hc : ((i : Int) + 1) = ((i + 1 : Nat) : Int) := by push_cast; rfl
      rw [List.drop_eq_getElem_cons l1, List.drop_eq_getElem_cons l2, lg_cons] at h
      cases g
      all_goals
        wp_walk using wpAny_loadPart' hl, wpAny_loadPart' hb
        rw [hi1, hi2]
        refine wpAny_bind (r_eqb okx oky ?_)
        cases he : (ls1[i] == ls2[i]) with
        | true =>
          rw [he] at h
          wp_walk
          rw [hc]
          exact ⟨plainId_quiet PySem.MeetsSeq3.plain_eq_loop _, codeAny_builtin PySem.MeetsSeq3.entry_eq_loop (by
            rw [Around.under_plainId PySem.MeetsSeq3.plain_eq_loop _]
            exact ih (i + 1) (by omega) (by omega) (by omega) prog w A R _ ⟨hl, hb, h⟩)⟩
        | false =>
          rw [he] at h
          wp_walk using wpAny_loadPart' hl, wpAny_loadPart' hb
          rw [hi1, hi2]
          first
            | (show wpAny _ _ (richCompare .Lt _ _ >>= _) _ _ _; exact wpAny_bind (r_lt okx oky (wpAny_pure h)))
            | (show wpAny _ _ (richCompare .Gt _ _ >>= _) _ _ _; exact wpAny_bind (r_gt okx oky (wpAny_pure h)))
theorem list_lg (g : Bool) (a b : Addr) {k : Kd} {vs1 vs2 : List Value} {ls1 ls2 : List (List Nat)} (e1 e2 : Nat) (h1 : TxsAre k vs1 ls1) (h2 : TxsAre k vs2 ls2) (ok1 : ∀ l ∈ ls1, Ok l) (ok2 : ∀ l ∈ ls2, Ok l) :
    Meets ((if g then Builtin.«list.__gt__» else Builtin.«list.__lt__») ⟨[.ref a, .ref b], []⟩)
      (fun _ R s => s.heap.get? a = some (listOf vs1.toArray e1) ∧ s.heap.get? b = some (listOf vs2.toArray e2) ∧ R (.ok (.ret (.bool (lg g ls1 ls2)))) s) := by
  intro prog w A R s h
  obtain ⟨hp, gg, d, tk, os⟩ := s; obtain ⟨hl, hb, h⟩ := h
  have f3 := AutoSeq1.sub_list_list
  have key := lt_loop g a b e1 e2 h1 h2 ok1 ok2 _ 0 (Nat.zero_le _) (Nat.zero_le _) rfl prog w A R ⟨hp, gg, d, tk, os⟩ ⟨hl, hb, by simpa using h⟩
  cases g
  · show wpAny _ _ (Builtin.«list.__lt__» _) _ _ _
    wp_walk using wpAny_loadPart' hl, wpAny_loadPart' hb
    exact ⟨plainId_quiet PySem.MeetsSeq3.plain_eq_loop _, codeAny_builtin PySem.MeetsSeq3.entry_eq_loop (by
      rw [Around.under_plainId PySem.MeetsSeq3.plain_eq_loop _]
      exact key)⟩
  · show wpAny _ _ (Builtin.«list.__gt__» _) _ _ _
    wp_walk using wpAny_loadPart' hl, wpAny_loadPart' hb
    exact ⟨plainId_quiet PySem.MeetsSeq3.plain_eq_loop _, codeAny_builtin PySem.MeetsSeq3.entry_eq_loop (by
      rw [Around.under_plainId PySem.MeetsSeq3.plain_eq_loop _]
      exact key)⟩
theorem r_list_lg {prog : Program} {w : World} {A : Around} {E : Value → Shared → Prop} {s : Shared} {k : Kd} (g : Bool) {a b : Addr} {vs1 vs2 : List Value} {ls1 ls2 : List (List Nat)} {e1 e2 : Nat} {Q : Value → Shared → Prop} (ha : s.heap.get? a = some (listOf vs1.toArray e1)) (hb : s.heap.get? b = some (listOf vs2.toArray e2))
    (h1 : TxsAre k vs1 ls1) (h2 : TxsAre k vs2 ls2) (ok1 : ∀ l ∈ ls1, Ok l) (ok2 : ∀ l ∈ ls2, Ok l) (hu : A.units < cLine) (h : Q (.bool (lg g ls1 ls2)) s) : wpAny (model prog w) A (richCompare (opG g) (.ref a) (.ref b)) Q E s := by
  have m := list_lg g a b e1 e2 h1 h2 ok1 ok2
  cases g
  · exact richCompare_meets_room (op := .Lt) ⟨_, ha, rfl⟩ ⟨_, hb, rfl⟩ F.slot_list_lt F.entry_list_lt (F.args_list_lt_2 _ _) m ⟨ha, hb, (fun x => nomatch x), h⟩ hu
  · exact richCompare_meets_room (op := .Gt) ⟨_, ha, rfl⟩ ⟨_, hb, rfl⟩ F.slot_list_gt F.entry_list_gt (F.args_list_gt_2 _ _) m ⟨ha, hb, (fun x => nomatch x), h⟩ hu
end
section
/-- the outer list's items: lists of texts that stand in the ground -/
inductive LLs (k : Kd) (h₀ : Heap) (own : List (Addr × Obj)) : List Value → List (List (List Nat)) → Prop
  | nil : LLs k h₀ own [] []
  | cons {a : Addr} {vs : List Value} {ls : List (List Nat)} {ep : Nat} {r lss} : (h₀.get? a = some (listOf vs.toArray ep) ∧ (a, listOf vs.toArray ep) ∈ own) → TxsAre k vs ls → (∀ l ∈ ls, Ok l) → LLs k h₀ own r lss → LLs k h₀ own (.ref a :: r) (ls :: lss)
theorem LLs.length {k : Kd} {h₀ : Heap} {own : List (Addr × Obj)} : ∀ {rs : List Value} {lss : List (List (List Nat))}, LLs k h₀ own rs lss → rs.length = lss.length
  | _, _, .nil => rfl
  | _, _, .cons _ _ _ r => by simp [r.length]
theorem LLs.at_ {k : Kd} {h₀ : Heap} {own : List (Addr × Obj)} : ∀ {rs : List Value} {lss : List (List (List Nat))}, LLs k h₀ own rs lss → ∀ i, i < lss.length → ∃ a vs ls ep, rs[i]? = some (.ref a) ∧ lss[i]? = some ls ∧ (h₀.get? a = some (listOf vs.toArray ep) ∧ (a, listOf vs.toArray ep) ∈ own) ∧ TxsAre k vs ls ∧ ∀ l ∈ ls, Ok l
  | _, _, .nil, i, h => absurd h (Nat.not_lt_zero _)
  | _, _, .cons e t o r, 0, _ => ⟨_, _, _, _, rfl, rfl, e, t, o⟩
  | _, _, .cons _ _ _ r, i + 1, h => r.at_ i (by simpa using h)
/-- the best of the first: none before it is better -/
def Best (g : Bool) (lss : List (List (List Nat))) (i : Nat) (ls : List (List Nat)) : Prop := ∀ j x, j < i → lss[j]? = some x → lg g x ls = false
theorem lg_irrefl (g : Bool) (x : List (List Nat)) : lg g x x = false := by cases g <;> simp [lg, List.lt_irrefl]
theorem lg_trans (g : Bool) {x y z : List (List Nat)} (h1 : lg g x y = true) (h2 : lg g y z = true) : lg g x z = true := by
  cases g
  · simp only [lg, Bool.false_eq_true, if_false, decide_eq_true_eq] at *; exact List.lt_trans h1 h2
  · simp only [lg, if_true, decide_eq_true_eq] at *; exact List.lt_trans h2 h1
theorem Best.keep {g : Bool} {lss : List (List (List Nat))} {i : Nat} {ls y : List (List Nat)} (b : Best g lss i ls) (hy : lss[i]? = some y) (h : lg g y ls = false) : Best g lss (i + 1) ls := fun j x hj hx => by
  rcases Nat.lt_succ_iff_lt_or_eq.mp hj with hj | rfl
  · exact b j x hj hx
  · rw [hy] at hx; cases hx; exact h
theorem Best.swap {g : Bool} {lss : List (List (List Nat))} {i : Nat} {ls y : List (List Nat)} (b : Best g lss i ls) (hy : lss[i]? = some y) (h : lg g y ls = true) : Best g lss (i + 1) y := fun j x hj hx => by
  rcases Nat.lt_succ_iff_lt_or_eq.mp hj with hj | rfl
  · cases e : lg g x y with
    | false => rfl
    | true => have := lg_trans g e h; rw [b j x hj hx] at this; cases this
  · rw [hy] at hx; cases hx; exact lg_irrefl g _
abbrev nmG (g : Bool) : String := if g then "max" else "min"
abbrev loG (g : Bool) : String := if g then "max.loop" else "min.loop"
section
variable {prog : Program} {w : World} {A : Around} {R : Result → Shared → Prop} {h₀ : Heap} {k : Kd} {D I S : Addr} {own : List (Addr × Obj)} {rs : List Value} {lss : List (List (List Nat))}
set_option maxHeartbeats 1000000
theorem mm_loop (g : Bool) (hh : A.handled = none) (hu : A.units + 1 < cLine) (hv : LLs k h₀ own rs lss) (hD : h₀.IsList D rs.toArray) (hI : h₀.get? I = none) (hS : h₀.get? S = none) (hIS : S ≠ I) (m : Nat) :
    ∀ (i : Nat) (s : Shared) (a : Addr) (vs : List Value) (ls : List (List Nat)) (ep c : Nat), lss.length - i = m → i ≤ lss.length → (∀ b o, h₀.get? b = some o → s.heap.get? b = some o) → s.heap.IsListIter I D i →
    s.heap.get? S = some { cls := .type "list", dict := none, data := .seq #[.ref a, .ref a] c, slots := #[] } → (h₀.get? a = some (listOf vs.toArray ep) ∧ (a, listOf vs.toArray ep) ∈ own) → TxsAre k vs ls → (∀ l ∈ ls, Ok l) → Best g lss i ls → ls ∈ lss →
    (∀ a vs ls ep h' tk, (h₀.get? a = some (listOf vs.toArray ep) ∧ (a, listOf vs.toArray ep) ∈ own) → TxsAre k vs ls → (∀ l ∈ ls, Ok l) → ls ∈ lss → Best g lss lss.length ls → (∀ b o, h₀.get? b = some o → h'.get? b = some o) → R (.ok (.ret (.ref a))) { s with heap := h', toks := tk }) →
    codeAny (model prog w) A (.builtin (loG g) ⟨[.ref I, .none, .ref S], []⟩) R s := by
  have hname : (toString "min" ++ toString ".loop" : String) = "min.loop" := by decide
  have hname' : (toString "max" ++ toString ".loop" : String) = "max.loop" := by decide
  have hlen := hv.length
  induction m with
  | zero =>
    intro i s a vs ls ep c hk hi hK hit hbest ha hvs hok hB hmem hR
    have hin : i = lss.length := by omega
    subst hin
    have hD' : s.heap.IsList D rs.toArray := by obtain ⟨o, e, r⟩ := hD; exact ⟨o, hK _ _ e, r⟩
    cases g
    all_goals
      first
        | (show codeAny _ _ (.builtin "min.loop" _) _ _; refine codeAny_builtin F.entry_min_loop ?_; rw [Around.under_plainId F.plain_min_loop _])
        | (show codeAny _ _ (.builtin "max.loop" _) _ _; refine codeAny_builtin F.entry_max_loop ?_; rw [Around.under_plainId F.plain_max_loop _])
      show wpAny _ A.in1 (seqItems? (.ref S) >>= _) _ _ s
      refine wpAny_bind (wpAny_seqItems hbest rfl ?_)
      show wpAny _ A.in1 (tryCatch (pyNext (.ref I)) _ >>= _) _ _ s
      refine wpAny_bind (wpAny_tryCatch (wpAny_pyNext_list_end hh hit hD' (by simp; omega) fun h' hs' => ?_))
      have hbest' := hs' _ _ hIS hbest
      show wpAny _ A.in1 (updateSeq S (fun _ => #[]) >>= _) _ _ _
      refine wpAny_bind ?_
      refine wpAny_updateSeq hbest' rfl (wpAny_bind (wpAny_letGo (wpAny_pure ?_)))
      refine hR a vs ls ep _ s.toks ha hvs hok hmem hB fun b o e => ?_
      exact (Heap.get?_update_other _ _ (fun h : S = b => by rw [← h, hS] at e; cases e)).trans (hs' b o (fun h => by rw [h, hI] at e; cases e) (hK b o e))
  | succ m ih =>
    intro i s a vs ls ep c hk hi hK hit hbest ha hvs hok hB hmem hR
    have hlt : i < lss.length := by omega
    obtain ⟨a2, vs2, ls2, ep2, hr, hl2, ha2, hvs2, hok2⟩ := hv.at_ i hlt
    have hmem2 := List.mem_of_getElem? hl2
    have hD' : s.heap.IsList D rs.toArray := by obtain ⟨o, e, r⟩ := hD; exact ⟨o, hK _ _ e, r⟩
    cases g
    all_goals
      first
        | (show codeAny _ _ (.builtin "min.loop" _) _ _; refine codeAny_builtin F.entry_min_loop ?_; rw [Around.under_plainId F.plain_min_loop _])
        | (show codeAny _ _ (.builtin "max.loop" _) _ _; refine codeAny_builtin F.entry_max_loop ?_; rw [Around.under_plainId F.plain_max_loop _])
      show wpAny _ A.in1 (seqItems? (.ref S) >>= _) _ _ s
      refine wpAny_bind (wpAny_seqItems hbest rfl ?_)
      show wpAny _ A.in1 (tryCatch (pyNext (.ref I)) _ >>= _) _ _ s
      refine wpAny_bind (wpAny_tryCatch (wpAny_pyNext_list_item hit hD' (x := .ref a2) (by simpa using hr) fun h' hit' hs' => ?_))
      have hbest' := hs'.extBut _ _ hIS hbest
      have hK' : ∀ b o, h₀.get? b = some o → h'.get? b = some o := fun b o e => hs'.extBut b o (fun h => by rw [h, hI] at e; cases e) (hK b o e)
      first
        | (show wpAny _ A.in1 (tryCatch (holding [.ref a2, .ref a2] (richCompare .Lt (.ref a2) (.ref a) >>= _)) _ >>= _) _ _ _
           refine wpAny_bind (wpAny_tryCatch (wpAny_holding (wpAny_bind (r_list_lg false (hK' _ _ ha2.1) (hK' _ _ ha.1) hvs2 hvs hok2 hok hu ?_)))))
        | (show wpAny _ A.in1 (tryCatch (holding [.ref a2, .ref a2] (richCompare .Gt (.ref a2) (.ref a) >>= _)) _ >>= _) _ _ _
           refine wpAny_bind (wpAny_tryCatch (wpAny_holding (wpAny_bind (r_list_lg true (hK' _ _ ha2.1) (hK' _ _ ha.1) hvs2 hvs hok2 hok hu ?_)))))
      refine wpAny_bind (wpAny_holding (wpAny_truthy_bool ?_))
      refine wpAny_bind (wpAny_letGo (wpAny_pure ?_))
      cases hb : lg _ ls2 ls with
      | true =>
        simp only [if_true]
        refine wpAny_bind ?_
        refine wpAny_updateSeq hbest' rfl (wpAny_bind (wpAny_letGo ?_))
        first | rw [hname] | rw [hname']
        refine wpAny_pure ⟨by first | exact plainId_quiet F.plain_min_loop _ | exact plainId_quiet F.plain_max_loop _, ih (i + 1) _ a2 vs2 ls2 ep2 _ (by omega) hlt (fun b o e => ?_) ?_ (Heap.get?_update_self _ hbest' rfl) ha2 hvs2 hok2 (hB.swap hl2 hb) hmem2 hR⟩
        · exact (Heap.get?_update_other _ _ (fun h : S = b => by rw [← h, hS] at e; cases e)).trans (hK' b o e)
        · exact hit'.at fun o e => (Heap.get?_update_other _ _ hIS).trans e
      | false =>
        simp only [Bool.false_eq_true, if_false]
        refine wpAny_bind (wpAny_letGo ?_)
        first | rw [hname] | rw [hname']
        exact wpAny_pure ⟨by first | exact plainId_quiet F.plain_min_loop _ | exact plainId_quiet F.plain_max_loop _, ih (i + 1) _ a vs ls ep _ (by omega) hlt hK' hit' hbest' ha hvs hok (hB.keep hl2 hb) hmem hR⟩
end
section
variable {prog : Program} {w : World} {A : Around} {E : Value → Shared → Prop} {s : Shared} {k : Kd} {D : Addr} {own : List (Addr × Obj)} {rs : List Value} {lss : List (List (List Nat))}
set_option maxHeartbeats 1000000
theorem r_mm (g : Bool) {Q : Value → Shared → Prop} (hh : A.handled = none) (hu : A.units + 2 < cLine) (hD : s.heap.IsList D rs.toArray) (hv : LLs k s.heap own rs lss) (hne : 0 < lss.length)
    (h : ∀ a vs ls ep h' tk, (s.heap.get? a = some (listOf vs.toArray ep) ∧ (a, listOf vs.toArray ep) ∈ own) → TxsAre k vs ls → (∀ l ∈ ls, Ok l) → ls ∈ lss → Best g lss lss.length ls → Kp s.heap h' → Q (.ref a) { s with heap := h', toks := tk }) :
    wpAny (model prog w) A (call (.builtin (nmG g)) [.ref D]) Q E s := by
  have hname : (toString "min" ++ toString ".loop" : String) = "min.loop" := by decide
  have hname' : (toString "max" ++ toString ".loop" : String) = "max.loop" := by decide
  obtain ⟨a2, vs2, ls2, ep2, hr, hl2, ha2, hvs2, hok2⟩ := hv.at_ 0 hne
  have hmem2 := List.mem_of_getElem? hl2
  have fresh : ∀ x, s.heap.objs.size ≤ x → s.heap.get? x = none := fun x hx => by
    cases e : s.heap.get? x with
    | none => rfl
    | some o => exact absurd (Heap.lt_size e) (Nat.not_lt.mpr hx)
  have hB0 : Best g lss 1 ls2 := fun j x hj hx => by
    have : j = 0 := by omega
    subst this
    rw [hl2] at hx; cases hx; exact lg_irrefl g _
  have hI₁ : (s.heap.push { cls := .type "list_iterator", data := .fields #[.ref D, .int 0 0] }).IsListIter s.heap.objs.size D 0 := ⟨_, Heap.get?_push_size _ rfl, rfl, rfl⟩
  generalize hH1 : s.heap.push { cls := .type "list_iterator", data := .fields #[.ref D, .int 0 0] } = H1 at hI₁
  have k1 : ∀ b o, s.heap.get? b = some o → H1.get? b = some o := fun b o e => hH1 ▸ Heap.get?_push_of_some _ e
  have hz1 : s.heap.objs.size < H1.objs.size := by rw [← hH1, Heap.size_push]; exact Nat.lt_succ_self _
  have hIS : H1.objs.size ≠ s.heap.objs.size := Nat.ne_of_gt hz1
  have hS₂ : (H1.push { cls := .type "list", data := .seq ([] : List Value).toArray }).get? H1.objs.size = some { cls := .type "list", data := .seq ([] : List Value).toArray } := Heap.get?_push_size _ rfl
  have hI₂ : (H1.push { cls := .type "list", data := .seq ([] : List Value).toArray }).IsListIter s.heap.objs.size D 0 := hI₁.at fun o e => Heap.get?_push_of_some _ e
  have k2 : ∀ b o, s.heap.get? b = some o → (H1.push { cls := .type "list", data := .seq ([] : List Value).toArray }).get? b = some o := fun b o e => Heap.get?_push_of_some _ (k1 b o e)
  have first : ∀ (B : Builtin) (hB : entryFor table (loG g) = some B) (hP : plainId (loG g) = true)
      (hrun : ∀ s' (Q' : Fin → Shared → Prop) (E' : Value → Shared → Prop), s'.heap.get? H1.objs.size = some { cls := .type "list", data := .seq ([] : List Value).toArray } → s'.heap.IsListIter s.heap.objs.size D 0 → (∀ b o, s.heap.get? b = some o → s'.heap.get? b = some o) →
        (∀ h' c, h'.get? H1.objs.size = some { cls := .type "list", dict := none, data := .seq #[.ref a2, .ref a2] c, slots := #[] } → h'.IsListIter s.heap.objs.size D 1 → (∀ b o, s.heap.get? b = some o → h'.get? b = some o) → Q' (.again (.builtin (loG g) ⟨[.ref s.heap.objs.size, .none, .ref H1.objs.size], []⟩)) { s' with heap := h' }) →
        wpAny (model prog w) A.in1 (B ⟨[.ref s.heap.objs.size, .none, .ref H1.objs.size], []⟩) Q' E' s'),
      codeAny (model prog w) A (.builtin (loG g) ⟨[.ref s.heap.objs.size, .none, .ref H1.objs.size], []⟩) (fun r s' => match r with | .ok (.ret v) => Q v s' | .ok _ => False | .error e => E e s') { s with heap := H1.push { cls := .type "list", data := .seq ([] : List Value).toArray } } := by
    intro B hB hP hrun
    refine codeAny_builtin hB ?_
    rw [Around.under_plainId hP _]
    refine hrun _ _ _ hS₂ hI₂ k2 fun h' c hb hi hk => ⟨plainId_quiet hP _, ?_⟩
    exact mm_loop g hh (by omega) hv hD (fresh _ (Nat.le_refl _)) (fresh _ (Nat.le_of_lt hz1)) hIS _ 1 _ a2 vs2 ls2 ep2 c rfl hne hk hi hb ha2 hvs2 hok2 hB0 hmem2 fun a vs ls ep h' tk e1 e2 e3 e4 e5 e6 => h a vs ls ep h' tk e1 e2 e3 e4 e5 e6
  cases g
  · show wpAny _ _ (call (.builtin "min") [.ref D]) _ _ _
    refine call_function_tree F.kind_min F.plain_min F.entry_min (F.args_min1 _) ?_
    show wpAny _ A.in1 (Builtin.Builtins.bindParams "min" ["key", "default"] 0 ⟨[], []⟩ >>= _) _ _ s
    refine wpAny_bind (wpAny_of_eq (show Builtin.Builtins.bindParams "min" ["key", "default"] 0 ⟨[], []⟩ = pure [none, none] from rfl) ?_)
    refine wpAny_bind (wpAny_pure ?_)
    refine wpAny_bind (wpAny_pyIter_list hD ?_)
    rw [hH1]
    refine wpAny_bind (wpAny_newObj_type ?_)
    rw [hname]
    refine wpAny_pure ⟨plainId_quiet F.plain_min_loop _, first _ F.entry_min_loop F.plain_min_loop fun s' Q' E' hb hi hk fin => ?_⟩
    show wpAny _ _ (seqItems? (.ref H1.objs.size) >>= _) _ _ s'
    refine wpAny_bind (wpAny_seqItems hb rfl ?_)
    show wpAny _ _ (tryCatch (pyNext (.ref s.heap.objs.size)) _ >>= _) _ _ s'
    refine wpAny_bind (wpAny_tryCatch (wpAny_pyNext_list_item hi (by obtain ⟨o, e, r⟩ := hD; exact ⟨o, hk _ _ e, r⟩) (x := .ref a2) (by simpa using hr) fun h' hit' hs' => ?_))
    have hb' := hs'.extBut _ _ hIS hb
    show wpAny _ _ (updateSeq H1.objs.size (fun _ => #[.ref a2, .ref a2]) >>= _) _ _ _
    refine wpAny_bind ?_
    refine wpAny_updateSeq hb' rfl ?_
    rw [hname]
    refine wpAny_pure (fin _ _ (Heap.get?_update_self _ hb' rfl) (hit'.at fun o e => (Heap.get?_update_other _ _ hIS).trans e) fun b o e => ?_)
    exact (Heap.get?_update_other _ _ (Nat.ne_of_gt (Nat.lt_trans (Heap.lt_size e) hz1))).trans (hs'.extBut b o (Nat.ne_of_lt (Heap.lt_size e)) (hk b o e))
  · show wpAny _ _ (call (.builtin "max") [.ref D]) _ _ _
    refine call_function_tree F.kind_max F.plain_max F.entry_max (F.args_max1 _) ?_
    show wpAny _ A.in1 (Builtin.Builtins.bindParams "max" ["key", "default"] 0 ⟨[], []⟩ >>= _) _ _ s
    refine wpAny_bind (wpAny_of_eq (show Builtin.Builtins.bindParams "max" ["key", "default"] 0 ⟨[], []⟩ = pure [none, none] from rfl) ?_)
    refine wpAny_bind (wpAny_pure ?_)
    refine wpAny_bind (wpAny_pyIter_list hD ?_)
    rw [hH1]
    refine wpAny_bind (wpAny_newObj_type ?_)
    rw [hname']
    refine wpAny_pure ⟨plainId_quiet F.plain_max_loop _, first _ F.entry_max_loop F.plain_max_loop fun s' Q' E' hb hi hk fin => ?_⟩
    show wpAny _ _ (seqItems? (.ref H1.objs.size) >>= _) _ _ s'
    refine wpAny_bind (wpAny_seqItems hb rfl ?_)
    show wpAny _ _ (tryCatch (pyNext (.ref s.heap.objs.size)) _ >>= _) _ _ s'
    refine wpAny_bind (wpAny_tryCatch (wpAny_pyNext_list_item hi (by obtain ⟨o, e, r⟩ := hD; exact ⟨o, hk _ _ e, r⟩) (x := .ref a2) (by simpa using hr) fun h' hit' hs' => ?_))
    have hb' := hs'.extBut _ _ hIS hb
    show wpAny _ _ (updateSeq H1.objs.size (fun _ => #[.ref a2, .ref a2]) >>= _) _ _ _
    refine wpAny_bind ?_
    refine wpAny_updateSeq hb' rfl ?_
    rw [hname']
    refine wpAny_pure (fin _ _ (Heap.get?_update_self _ hb' rfl) (hit'.at fun o e => (Heap.get?_update_other _ _ hIS).trans e) fun b o e => ?_)
    exact (Heap.get?_update_other _ _ (Nat.ne_of_gt (Nat.lt_trans (Heap.lt_size e) hz1))).trans (hs'.extBut b o (Nat.ne_of_lt (Heap.lt_size e)) (hk b o e))
end
end
section
theorem isT {h₀ h : Heap} {L D : Addr} {news : List (Addr × Obj)} {vs : List Value} (N : News h₀ L h news) (hm : (D, tup vs) ∈ news) : IsTup h D vs.toArray := ⟨_, (N _ hm).1, rfl, _, rfl⟩
section
variable {prog : Program} {w : World} {A : Around} {E : Value → Shared → Prop} {s : Shared} {h₀ : Heap} {L D : Addr} {m : Str → Option Value} {news : List (Addr × Obj)} {vs : List Value}
theorem r_tup_truth {c : Bool} {Q : Bool → Shared → Prop} (N : News h₀ L s.heap news) (hm : (D, tup vs) ∈ news) (hz : vs.length ≤ 5000) (hc : (!vs.isEmpty) = c) (h : ∀ tk, Q c { s with toks := tk }) : wpAny (model prog w) A (truthy (.ref D)) Q E s := by
  refine truthy_tuple (isT N hm) (by simp; omega) ?_
  rw [show (!vs.toArray.isEmpty) = c by rw [← hc]; simp]
  exact h _
theorem r_tup_item {value slice : Expr} {i : Int} {u : Tok} {j : Nat} {x : Value} {Q : Value → Shared → Prop} (N : News h₀ L s.heap news) (hm : (D, tup vs) ∈ news) (hlo : -(2 ^ 63) ≤ i) (hhi : i < 2 ^ 63) (hj : seqIndex? i vs.length = some j) (hx : vs[j]? = some x) (h : Q x s)
    (hs : subscripted slice false (.ref D) (.int i u) = operate [.ref D, .int i u] (getItem (.ref D) (.int i u)) := by with_unfolding_all rfl) (ht : ∀ r, letTemporaryGo value (.ref D) r = pure () := by intro _; with_unfolding_all rfl) :
    wpAny (model prog w) A (subscriptTail value slice (.ref D) (.int i u)) Q E s :=
  subscriptTail_builtin (IsTup.typeIs (isT N hm)) slot_tuple_getitem.lookup (getItem_tuple (isT N hm) hlo hhi (by simpa using hj) (by simpa using hx) h) hs ht
end
/-- new lists of texts, on a ledger's tail -/
inductive LLn (k : Kd) (own : List (Addr × Obj)) : List Value → List (List (List Nat)) → Prop
  | nil : LLn k own [] []
  | cons {a : Addr} {vs : List Value} {ls : List (List Nat)} {ep : Nat} {r lss} : (a, listOf vs.toArray ep) ∈ own → TxsAre k vs ls → LLn k own r lss → LLn k own (.ref a :: r) (ls :: lss)
theorem LLn.mono {k : Kd} {own own' : List (Addr × Obj)} (hs : ∀ p ∈ own, p ∈ own') : ∀ {rs : List Value} {lss : List (List (List Nat))}, LLn k own rs lss → LLn k own' rs lss
  | _, _, .nil => .nil
  | _, _, .cons m t r => .cons (hs _ m) t (r.mono hs)
theorem LLn.snoc {k : Kd} {own : List (Addr × Obj)} {a : Addr} {vs : List Value} {ls : List (List Nat)} {ep : Nat} (m : (a, listOf vs.toArray ep) ∈ own) (t : TxsAre k vs ls) : ∀ {rs : List Value} {lss : List (List (List Nat))}, LLn k own rs lss → LLn k own (rs ++ [.ref a]) (lss ++ [ls])
  | _, _, .nil => .cons m t .nil
  | _, _, .cons m' t' r => .cons m' t' (r.snoc m t)
theorem LLn.at_ {k : Kd} {own : List (Addr × Obj)} : ∀ {rs : List Value} {lss : List (List (List Nat))}, LLn k own rs lss → ∀ i, i < rs.length → ∃ a vs ls ep, rs[i]? = some (.ref a) ∧ lss[i]? = some ls ∧ (a, listOf vs.toArray ep) ∈ own ∧ TxsAre k vs ls
  | _, _, .nil, i, h => absurd h (Nat.not_lt_zero _)
  | _, _, .cons e t r, 0, _ => ⟨_, _, _, _, rfl, rfl, e, t⟩
  | _, _, .cons _ _ r, i + 1, h => r.at_ i (by simpa using h)
theorem LLn.lls {k : Kd} {own : List (Addr × Obj)} {h : Heap} (hN : ∀ p ∈ own, h.get? p.1 = some p.2) : ∀ {rs : List Value} {lss : List (List (List Nat))}, LLn k own rs lss → (∀ ls ∈ lss, ∀ l ∈ ls, Ok l) → LLs k h own rs lss
  | _, _, .nil, _ => .nil
  | _, _, .cons m t r, ok => .cons ⟨hN _ m, m⟩ t (ok _ (.head _)) (r.lls hN fun ls hl => ok ls (.tail _ hl))
theorem LLn.length {k : Kd} {own : List (Addr × Obj)} : ∀ {rs : List Value} {lss : List (List (List Nat))}, LLn k own rs lss → rs.length = lss.length
  | _, _, .nil => rfl
  | _, _, .cons _ _ r => by simp [r.length]
theorem cons_inv {k : Kd} {vs : List Value} {l : List Nat} {ls : List (List Nat)} (h : TxsAre k vs (l :: ls)) : ∃ t vr, vs = tx k l t :: vr ∧ TxsAre k vr ls := by cases h with | cons r => exact ⟨_, _, rfl, r⟩
theorem r_tup_item0 {prog : Program} {w : World} {A : Around} {E : Value → Shared → Prop} {s : Shared} {h₀ : Heap} {L D : Addr} {news : List (Addr × Obj)} {x : Value} {vr : List Value} {value slice : Expr} {u : Tok} {Q : Value → Shared → Prop} (N : News h₀ L s.heap news) (hm : (D, tup (x :: vr)) ∈ news) (h : Q x s)
    (hs : subscripted slice false (.ref D) (.int 0 u) = operate [.ref D, .int 0 u] (getItem (.ref D) (.int 0 u)) := by with_unfolding_all rfl) (ht : ∀ r, letTemporaryGo value (.ref D) r = pure () := by intro _; with_unfolding_all rfl) :
    wpAny (model prog w) A (subscriptTail value slice (.ref D) (.int 0 u)) Q E s :=
  r_tup_item N hm (by decide) (by decide) (j := 0) (by simp [seqIndex?]) rfl h hs ht
theorem paths_map {g h : Heap} {L : Addr} {env : Env} {v : Value} (F : Fr g L h (bindL env.kindOf [("paths", v)] fun _ => none)) (hk : env.kindOf "paths" = some .local := by rfl) : Fr g L h (fun y => if y = "paths" then some v else none) := by
  unfold bindL bindL at F
  rw [if_pos hk] at F
  exact F
section
variable {prog : Program} {w : World} {A A₀ : Around} {s : Shared} {K : Frag} {L : Addr} {h₀ base : Heap} {m mg mb : Str → Option Value} {news : List (Addr × Obj)} {p : Program} {loose : List Str} {mean : ExcName → Option Value}
theorem code_paths {env : Env} {outer : List Env} {R : Result → Shared → Prop} {name qual : Str} {params : Arguments} {body : List Stmt} {scope : Scope} {dV kV doc pm cdv ct oc : Value} {an od : Option Addr} {osl : Array (Option Value)} {f D : Addr}
    (B : Below A₀ base outer h₀) (F : Fr h₀ L s.heap m) (X₀ : K.In h₀) (N : News h₀ L s.heap news) (T : Top p loose mean mg mb h₀) (hA : A.frames = some (env :: outer)) (hf : env.frame = some L) (hke : env.scope.kind = .function)
    (ho : K.lookup f = some ⟨oc, od, .func (fnOf name qual params body scope dV kV doc pm an cdv ct), osl⟩) (hcd : codeIn K cdv qual = true) (hroom : A.depth < recursionLimit)
    (hbind : BindsTo s (fnOf name qual params body scope dV kV doc pm an cdv ct) ⟨[.ref D], []⟩ [("paths", .ref D)]) (hkp : scope.names.lookup (Str.ofString "paths") = some .local)
    (hnd : ((cellsFrom 0 scope.names []).map (·.1)).Nodup)
    (h : ∀ g L' h₁ tk cells, Fr h₀ L g m → Fr g L' h₁ (fun y => if y = "paths" then some (.ref D) else none) → News g L' h₁ (cells ++ news) →
      CellsAre (bindC (envOfC qual scope L' f cdv).kindOf [("paths", .ref D)] fun _ => none) (cellsFrom (L' + 1) scope.names []) cells → Below A base (env :: outer) g → K.In g → Top p loose mean mg mb g → (∀ p ∈ news, p.1 < L') →
      wpAny (model prog w) (A.deeper (envOfC qual scope L' f cdv)) (execs body (envOfC qual scope L' f cdv))
        (fun fl s' => LeaveK h₀ L m g R (match fl with | .ret v => v | _ => .none) s')
        (fun e s' => wpAny (model prog w) (A.deeper (envOfC qual scope L' f cdv)) (leaving (envOfC qual scope L' f cdv) e) (fun _ s'' => R (.error e) s'') (fun e' s'' => R (.error e') s'') s')
        { s with heap := h₁, toks := tk })
    (hco : scope.isCoroutine = false) (hgen : scope.isGenerator = false) (hk : scope.kind = .function) : codeAny (model prog w) A (.call (.ref f) ⟨[.ref D], []⟩) R s :=
  code_defC B F X₀ N T hA hf hke ho hcd hroom hbind (by rw [List.all_cons, List.all_nil]; simp only [hkp]; rfl) hnd (fun g L' h₁ tk cells FG F' N' Y B' X' T' l => h g L' h₁ tk cells FG (paths_map F' hkp) N' Y B' X' T' l) hco hgen hk
end
theorem cutC {prog : Program} {w : World} {A : Around} {E : Value → Shared → Prop} {s : Shared} {h₀ : Heap} {L c1 c2 : Addr} {m : Str → Option Value} {o1 o2 : Obj} {p : Addr × Obj} {rest : List (Addr × Obj)} {Q : Flow → Shared → Prop} {t : Sem Flow} (k : Kd) (_F : Fr h₀ L s.heap m) (_N : News h₀ L s.heap (p :: (c1, o1) :: (c2, o2) :: rest))
    (h1 : ∀ Q' : Flow → Shared → Prop, (∀ h' tk o1 o2 t1 t2, Fr h₀ L h' m → News h₀ L h' (p :: (c1, o1) :: (c2, o2) :: rest) → o1.data = .cell (some (tx k [46] t1)) → o2.data = .cell (some (tx k [47] t2)) → Q' .next { s with heap := h', toks := tk }) → wpAny (model prog w) A t Q' E s)
    (h2 : ∀ h' tk o1 o2 t1 t2, Fr h₀ L h' m → News h₀ L h' (p :: (c1, o1) :: (c2, o2) :: rest) → o1.data = .cell (some (tx k [46] t1)) → o2.data = .cell (some (tx k [47] t2)) → Q .next { s with heap := h', toks := tk }) : wpAny (model prog w) A t Q E s := h1 Q h2
def Apart2 (c1 c2 : Addr) (l : List (Addr × Obj)) : Prop := (@Ne Nat c1 c2) ∧ ∀ q ∈ l, (@Ne Nat q.1 c1) ∧ (@Ne Nat q.1 c2)
theorem Apart2.mk' {L D : Addr} {o : Obj} {rest news : List (Addr × Obj)} (l1 : ∀ p ∈ rest, p.1 < L) (P : ∀ p ∈ news, p.1 ≠ D) (h1 : ∃ o, (L + 1 + 1, o) ∈ news) (h2 : ∃ o, (L + 1, o) ∈ news) : Apart2 (L + 1 + 1) (L + 1) ((D, o) :: rest) := by
  refine ⟨Nat.succ_ne_self _, fun q hq => ?_⟩
  rcases List.mem_cons.mp hq with rfl | hq
  · obtain ⟨_, m1⟩ := h1
    obtain ⟨_, m2⟩ := h2
    exact ⟨fun e => P _ m1 e.symm, fun e => P _ m2 e.symm⟩
  · have h : @LT.lt Nat _ q.1 L := l1 q hq
    exact ⟨Nat.ne_of_lt (Nat.lt_of_lt_of_le h (Nat.le_add_right L 2)), Nat.ne_of_lt (Nat.lt_of_lt_of_le h (Nat.le_add_right L 1))⟩
section
variable {M : Model} {A : Around} {E : Value → Shared → Prop} {s : Shared} {h₀ : Heap} {L a : Addr} {m : Str → Option Value} {cn : Str} {cs : Scope} {ccd : Value} {cl : List (Str × Addr)}
  {x : Str} {v : Value} {Q : Unit → Shared → Prop} {c1 c2 : Addr} {o1 o2 : Obj} {v₀ : Option Value} {p : Addr × Obj} {rest : List (Addr × Obj)}
theorem storeC_b (F : Fr h₀ L s.heap m) (N : News h₀ L s.heap (p :: (c1, o1) :: (c2, o2) :: rest)) (ap : Apart2 c1 c2 (p :: rest)) (hc : cl.lookup x = some c2) (hd : o2.data = .cell v₀)
    (h : ∀ h' o', Fr h₀ L h' m → News h₀ L h' (p :: (c1, o1) :: (c2, o') :: rest) → o'.data = .cell (some v) → Q () { s with heap := h' })
    (hk : cs.kind = .function) (hx : (envX cn cs L a ccd cl).kindOf x = some .cell) : wpAny M A (storeName (envX cn cs L a ccd cl) x v) Q E s :=
  storeX_C F N hc (.tail (ap.2 _ (.head _)).2 (.tail ap.1 (.head fun q hq => (ap.2 _ (.tail _ hq)).2))) hd h hk hx
theorem storeC_a (F : Fr h₀ L s.heap m) (N : News h₀ L s.heap (p :: (c1, o1) :: (c2, o2) :: rest)) (ap : Apart2 c1 c2 (p :: rest)) (hc : cl.lookup x = some c1) (hd : o1.data = .cell v₀)
    (h : ∀ h' o', Fr h₀ L h' m → News h₀ L h' (p :: (c1, o') :: (c2, o2) :: rest) → o'.data = .cell (some v) → Q () { s with heap := h' })
    (hk : cs.kind = .function) (hx : (envX cn cs L a ccd cl).kindOf x = some .cell) : wpAny M A (storeName (envX cn cs L a ccd cl) x v) Q E s :=
  storeX_C F N hc (.tail (ap.2 _ (.head _)).1 (.head fun q hq => by
    rcases List.mem_cons.mp hq with rfl | hq
    · exact Ne.symm ap.1
    · exact (ap.2 _ (.tail _ hq)).1)) hd h hk hx
end
end
section
/-- a block whose elements are new lists of texts: what stands after `i` turns -/
def GJ (k : Kd) (news : List (Addr × Obj)) (f : Nat → List (List Nat)) (i : Nat) (oA : Obj) (nw : List (Addr × Obj)) : Prop := ∃ rs own, oA = listOf rs.toArray rs.length ∧ nw = news ++ own ∧ LLn k own rs ((List.range i).map f)
inductive EltNew (h₀ : Heap) (L : Addr) (m : Str → Option Value) (s₁ : Shared) (k : Kd) (all : List (Addr × Obj)) (ls : List (List Nat)) : Value → Shared → Prop
  | mk {h' tk a vs ep} : Fr h₀ L h' m → News h₀ L h' ((a, listOf vs.toArray ep) :: all) → (∀ p ∈ all, p.1 ≠ a) → TxsAre k vs ls → EltNew h₀ L m s₁ k all ls (.ref a) { s₁ with heap := h', toks := tk }
theorem grow_turn {prog : Program} {w : World} {A : Around} {h₀ : Heap} {L : Addr} {m : Str → Option Value} {env : Env} {elt : Expr} {x : Str} {scope : Scope} {cl : List (Str × Addr)} {n : Nat} {P : Nat → Value → Prop} {k : Kd} {news : List (Addr × Obj)} {f : Nat → List (List Nat)} {s₂ : Shared} (hsz : n ≤ 5000)
    (helt : ∀ i v I oI C oC Dd oA own m₂ h tk (E' : Value → Shared → Prop), i < n → P i v → LCg.NsObj oC m₂ → m₂ x = some v → Fr h₀ L h m → News h₀ L h ((I, oI) :: (C, oC) :: (Dd, oA) :: (news ++ own)) → LCg.Off3 I C Dd (news ++ own) →
      wpAny (model prog w) A (eval elt (compEnvC scope cl C env)) (EltNew h₀ L m { s₂ with heap := h, toks := tk } k ((I, oI) :: (C, oC) :: (Dd, oA) :: (news ++ own)) (f i)) E' { s₂ with heap := h, toks := tk }) :
    CTurn prog w A h₀ L m env elt x [] scope cl "list.append" n P (GJ k news f) s₂ := by
  rintro i v I oI C oC Dd oA m₂ news₁ h tk E' hi hv ⟨rs, own, rfl, rfl, hl⟩ hC hx F N off ne
  have hlen : rs.length = i := by rw [hl.length]; simp
  refine wpAny_tests_nil ?_
  rw [if_pos rfl]
  refine wpAny_mono (helt i v I oI C oC Dd _ own m₂ h tk E' hi hv hC hx F N off) (fun y s₄ h₄ => ?_) fun _ _ e => e
  cases h₄ with
  | @mk h' tk' a vs ep F' N' fresh hvs =>
    have fa : ∀ b o, (b, o) ∈ (I, oI) :: (C, oC) :: (Dd, listOf rs.toArray rs.length) :: (news ++ own) → (@Ne Nat b a) := fun b o hm => fresh (b, o) hm
    have U : Upd Dd (listOf rs.toArray rs.length) (listOf (rs ++ [Value.ref a]).toArray (rs.length + 1)) ((a, listOf vs.toArray ep) :: (I, oI) :: (C, oC) :: (Dd, listOf rs.toArray rs.length) :: (news ++ own)) ((a, listOf vs.toArray ep) :: (I, oI) :: (C, oC) :: (Dd, listOf (rs ++ [Value.ref a]).toArray (rs.length + 1)) :: (news ++ own)) :=
      .tail (Ne.symm (fa Dd _ (.tail _ (.tail _ (.head _))))) (.tail ne.2.1 (.tail ne.2.2 (.head fun p hp => (off.mem p hp).2.2)))
    refine r_append F' N' U (by omega) fun h₅ F₅ N₅ => ?_
    refine .mk (news' := news ++ (own ++ [(a, listOf vs.toArray ep)])) F₅ (fun p hp => N₅ p ?_) (.of fun p hp => ?_) ⟨rs ++ [Value.ref a], own ++ [(a, listOf vs.toArray ep)], by rw [List.length_append, List.length_singleton], rfl, ?_⟩
    · simp only [List.mem_cons, List.mem_append, List.not_mem_nil, or_false] at hp ⊢
      rcases hp with q | q | q | q | q | q
      · exact .inr (.inl q)
      · exact .inr (.inr (.inl q))
      · exact .inr (.inr (.inr (.inl q)))
      · exact .inr (.inr (.inr (.inr (.inl q))))
      · exact .inr (.inr (.inr (.inr (.inr q))))
      · exact .inl q
    · rw [← List.append_assoc] at hp
      rcases List.mem_append.mp hp with hp | hp
      · exact off.mem p hp
      · rw [List.mem_singleton.mp hp]
        exact ⟨Ne.symm (fa I _ (.head _)), Ne.symm (fa C _ (.tail _ (.head _))), Ne.symm (fa Dd _ (.tail _ (.tail _ (.head _))))⟩
    · rw [List.range_succ, List.map_append]
      exact (hl.mono fun p hp => List.mem_append_left _ hp).snoc (List.mem_append_right _ (.head _)) hvs
section
variable {prog : Program} {w : World} {A : Around} {E : Value → Shared → Prop} {s : Shared} {h₀ : Heap} {L : Addr} {m : Str → Option Value} {env : Env}
theorem grow_tup {elt : Expr} {x : Str} {scope : Scope} {cl : List (Str × Addr)} {K : Shared → Addr → Obj → List (Addr × Obj) → Prop} {D : Addr} {vs : List Value} {news : List (Addr × Obj)} {k : Kd} {ls : List (List Nat)} (f : List Nat → List (List Nat))
    (hh : A.handled = none) (F : Fr h₀ L s.heap m) (N : News h₀ L s.heap news) (hm : (D, tup vs) ∈ news) (hv : TxsAre k vs ls) (hsz : vs.length ≤ 5000)
    (helt : ∀ c t I oI C oC Dd oA own m₂ h tk (E' : Value → Shared → Prop), c ∈ ls → LCg.NsObj oC m₂ → m₂ x = some (tx k c t) → Fr h₀ L h m → News h₀ L h ((I, oI) :: (C, oC) :: (Dd, oA) :: (news ++ own)) → LCg.Off3 I C Dd (news ++ own) →
      wpAny (model prog w) A (eval elt (compEnvC scope cl C env)) (EltNew h₀ L m { s with heap := h, toks := tk } k ((I, oI) :: (C, oC) :: (Dd, oA) :: (news ++ own)) (f c)) E' { s with heap := h, toks := tk })
    (done : ∀ h D' rs own, LLn k own rs (ls.map f) → LCg.Off1 D' (news ++ own) → K { s with heap := h } D' (listOf rs.toArray rs.length) (news ++ own)) :
    wpAny (model prog w) A (pyIter (.ref D)) (CompAt prog w A h₀ L m env elt x [] scope cl "list.append" (fun o => o = lst []) K) E s := by
  refine at_tup (GJ k news fun i => f (ls.getD i [])) hh F N hm ?_ ?_ (fun g => grow_turn hsz fun i v I oI C oC Dd oA own m₂ h tk E' hi hvi hC hx F N off => ?_) ?_
  · rintro i oA nw ⟨rs, own, rfl, rfl, _⟩; exact List.mem_append_left _ hm
  · rintro o rfl; exact ⟨[], [], rfl, by simp, .nil⟩
  · obtain ⟨c, t, hc, hvi'⟩ := hv.at_ i hi
    rw [hvi] at hvi'
    cases hvi'
    rw [show ls.getD i [] = c by rw [List.getD_eq_getElem?_getD, hc]; rfl]
    exact helt c t I oI C oC Dd oA own m₂ h tk E' (List.mem_of_getElem? hc) hC hx F N off
  · rintro h D' oA nw ⟨rs, own, rfl, rfl, hl⟩ o1
    refine done h D' rs own ?_ o1
    rw [show ls.map f = (List.range vs.length).map fun i => f (ls.getD i []) from ?_]
    · exact hl
    · rw [hv.length]
      apply List.ext_getElem
      · simp
      · intro i h1 h2
        have h1' : i < ls.length := by simpa using h1
        simp [List.getD_eq_getElem?_getD, List.getElem?_eq_getElem h1']
theorem grow_lst {elt : Expr} {x : Str} {scope : Scope} {cl : List (Str × Addr)} {K : Shared → Addr → Obj → List (Addr × Obj) → Prop} {D : Addr} {rs0 : List Value} {ep0 : Nat} {news own0 : List (Addr × Obj)} {k : Kd} {lss : List (List (List Nat))} (f : List (List Nat) → List (List Nat))
    (hh : A.handled = none) (F : Fr h₀ L s.heap m) (N : News h₀ L s.heap news) (hm : (D, listOf rs0.toArray ep0) ∈ news) (hs : ∀ p ∈ own0, p ∈ news) (hv : LLn k own0 rs0 lss) (hsz : rs0.length ≤ 5000)
    (helt : ∀ a vs ls ep I oI C oC Dd oA own m₂ h tk (E' : Value → Shared → Prop), ls ∈ lss → (a, listOf vs.toArray ep) ∈ news → TxsAre k vs ls → LCg.NsObj oC m₂ → m₂ x = some (.ref a) → Fr h₀ L h m → News h₀ L h ((I, oI) :: (C, oC) :: (Dd, oA) :: (news ++ own)) → LCg.Off3 I C Dd (news ++ own) →
      wpAny (model prog w) A (eval elt (compEnvC scope cl C env)) (EltNew h₀ L m { s with heap := h, toks := tk } k ((I, oI) :: (C, oC) :: (Dd, oA) :: (news ++ own)) (f ls)) E' { s with heap := h, toks := tk })
    (done : ∀ h D' rs own, LLn k own rs (lss.map f) → LCg.Off1 D' (news ++ own) → K { s with heap := h } D' (listOf rs.toArray rs.length) (news ++ own)) :
    wpAny (model prog w) A (pyIter (.ref D)) (CompAt prog w A h₀ L m env elt x [] scope cl "list.append" (fun o => o = lst []) K) E s := by
  refine at_lst (GJ k news fun i => f (lss.getD i [])) hh F N hm ?_ ?_ (fun g => grow_turn hsz fun i v I oI C oC Dd oA own m₂ h tk E' hi hvi hC hx F N off => ?_) ?_
  · rintro i oA nw ⟨rs, own, rfl, rfl, _⟩; exact List.mem_append_left _ hm
  · rintro o rfl; exact ⟨[], [], rfl, by simp, .nil⟩
  · obtain ⟨a, vs, ls, ep, hr, hl, hmo, hvs⟩ := hv.at_ i hi
    rw [hvi] at hr
    cases hr
    rw [show lss.getD i [] = ls by rw [List.getD_eq_getElem?_getD, hl]; rfl]
    exact helt a vs ls ep I oI C oC Dd oA own m₂ h tk E' (List.mem_of_getElem? hl) (hs _ hmo) hvs hC hx F N off
  · rintro h D' oA nw ⟨rs, own, rfl, rfl, hl⟩ o1
    refine done h D' rs own ?_ o1
    rw [show lss.map f = (List.range rs0.length).map fun i => f (lss.getD i []) from ?_]
    · exact hl
    · rw [hv.length]
      apply List.ext_getElem
      · simp
      · intro i h1 h2
        have h1' : i < lss.length := by simpa using h1
        simp [List.getD_eq_getElem?_getD, List.getElem?_eq_getElem h1']
end
inductive EltBool (h₀ : Heap) (L : Addr) (m : Str → Option Value) (s₁ : Shared) (all : List (Addr × Obj)) (b : Bool) : Value → Shared → Prop
  | mk {h' tk} : Fr h₀ L h' m → News h₀ L h' all → EltBool h₀ L m s₁ all b (.bool b) { s₁ with heap := h', toks := tk }
theorem insb_Bs {bs : List Bool} {b : Bool} (h : Bs bs) : Bs (insb bs b) := by
  rcases h with rfl | rfl | rfl | rfl <;> cases b <;> simp [Bs, insb]
theorem set_tup {prog : Program} {w : World} {A : Around} {E : Value → Shared → Prop} {s : Shared} {h₀ : Heap} {L : Addr} {m : Str → Option Value} {env : Env} {elt : Expr} {x : Str} {scope : Scope} {cl : List (Str × Addr)} {K : Shared → Addr → Obj → List (Addr × Obj) → Prop} {D : Addr} {vs : List Value} {news : List (Addr × Obj)} {k : Kd} {ls : List (List Nat)} (f : List Nat → Bool)
    (hh : A.handled = none) (F : Fr h₀ L s.heap m) (N : News h₀ L s.heap news) (hm : (D, tup vs) ∈ news) (hv : TxsAre k vs ls)
    (helt : ∀ c t I oI C oC Dd oA m₂ h tk (E' : Value → Shared → Prop), c ∈ ls → LCg.NsObj oC m₂ → m₂ x = some (tx k c t) → Fr h₀ L h m → News h₀ L h ((I, oI) :: (C, oC) :: (Dd, oA) :: news) → LCg.Off3 I C Dd news →
      wpAny (model prog w) A (eval elt (compEnvC scope cl C env)) (EltBool h₀ L m { s with heap := h, toks := tk } ((I, oI) :: (C, oC) :: (Dd, oA) :: news) (f c)) E' { s with heap := h, toks := tk })
    (done : ∀ h D' bs ep, Bs bs → bs = (ls.map f).foldl insb [] → LCg.Off1 D' news → K { s with heap := h } D' (setO (ledW w) bs ep) news) :
    wpAny (model prog w) A (pyIter (.ref D)) (CompAt prog w A h₀ L m env elt x [] scope cl "set.add" (fun o => o = { cls := .type "set", dict := none, data := .set #[] 0 (.fresh 0 0 !(w.params.followText "set-order")) }) K) E s := by
  refine at_tup (fun i oA nw => nw = news ∧ ∃ bs ep, oA = setO (ledW w) bs ep ∧ Bs bs ∧ bs = ((ls.take i).map f).foldl insb []) hh F N hm ?_ ?_ (fun g => ?_) ?_
  · rintro i oA nw ⟨rfl, _⟩; exact hm
  · rintro o rfl; exact ⟨rfl, [], 0, rfl, .inl rfl, by simp⟩
  · rintro i v I oI C oC Dd oA m₂ news₁ h tk E' hi hvi ⟨rfl, bs, ep, rfl, hB, hbs⟩ hC hx F N off ne
    obtain ⟨c, t, hc, hvi'⟩ := hv.at_ i hi
    rw [hvi] at hvi'
    cases hvi'
    refine wpAny_tests_nil ?_
    rw [if_pos rfl]
    refine wpAny_mono (helt c t I oI C oC Dd _ m₂ h tk E' (List.mem_of_getElem? hc) hC hx F N off) (fun y s₄ h₄ => ?_) fun _ _ e => e
    cases h₄ with
    | @mk h' tk' F' N' =>
      have z := N' (Dd, setO (ledW w) bs ep) (.tail _ (.tail _ (.head _)))
      refine r_setadd hB z.1 fun h₅ tk₅ ep' ho hs => ?_
      refine .mk (F'.change hs z.2.1 z.2.2) (fun p hp => ?_) off ⟨rfl, insb bs (f c), ep', rfl, insb_Bs hB, by rw [List.take_add_one, hc, List.map_append, List.foldl_append, ← hbs]; rfl⟩
      rcases List.mem_cons.mp hp with rfl | hp
      · exact ⟨hs.extBut _ _ ne.2.1 (N' _ (.head _)).1, (N' _ (.head _)).2⟩
      · rcases List.mem_cons.mp hp with rfl | hp
        · exact ⟨hs.extBut _ _ ne.2.2 (N' _ (.tail _ (.head _))).1, (N' _ (.tail _ (.head _))).2⟩
        · rcases List.mem_cons.mp hp with rfl | hp
          · exact ⟨ho, z.2⟩
          · have q := N' p (.tail _ (.tail _ (.tail _ hp)))
            exact ⟨hs.extBut _ _ (off.mem p hp).2.2 q.1, q.2⟩
  · rintro h D' oA nw ⟨rfl, bs, ep, rfl, hB, hbs⟩ o1
    exact done h D' bs ep hB (by rw [hbs, hv.length, List.take_length]) o1
section
variable {prog : Program} {w : World} {A : Around} {E : Value → Shared → Prop} {s : Shared} {h₀ : Heap} {L D : Addr} {news : List (Addr × Obj)} {env : Env} {x : Str} {px pos : Pos} {x1 : Nat} {ep : Nat} {Q : Unit → Shared → Prop}
theorem assign_one {b : Bool} (hh : A.handled = none) (N : News h₀ L s.heap news) (hm : (D, setO (ledW w) [b] ep) ∈ news)
    (h : ∀ h', Kp s.heap h' → wpAny (model prog w) A (assign (.Name x px) env (.bool b)) Q E { s with heap := h' }) : wpAny (model prog w) A (assign (.Tuple [.Name x px] x1 pos) env (.ref D)) Q E s := by
  rw [arm_assign_Tuple]
  refine wpAny_bind (wpAny_standAt ?_)
  show wpAny _ _ (unpack (.ref D) [(false, assign (.Name x px) env)]) _ _ _
  unfold unpack
  refine wpAny_bind (wpAny_holding (unpack_one hh (N.get hm) fun h' hk => ?_))
  show wpAny _ _ (assignInOrder [assign (.Name x px) env] [.bool b]) _ _ _
  unfold assignInOrder
  refine wpAny_bind (wpAny_holding (wpAny_mono (h h' hk) (fun _ s' hq => ?_) fun _ _ e => e))
  unfold assignInOrder
  exact wpAny_pure hq
theorem assign_two (hh : A.handled = none) (N : News h₀ L s.heap news) (hm : (D, setO (ledW w) [false, true] ep) ∈ news)
    (h : ∀ h', Kp s.heap h' → wpAny (model prog w) A (raiseErrorMade "ValueError" (toString "too many values to unpack (expected " ++ toString 1 ++ toString ")") : Sem PUnit) (fun _ _ => False) E { s with heap := h' }) : wpAny (model prog w) A (assign (.Tuple [.Name x px] x1 pos) env (.ref D)) Q E s := by
  rw [arm_assign_Tuple]
  refine wpAny_bind (wpAny_standAt ?_)
  show wpAny _ _ (unpack (.ref D) [(false, assign (.Name x px) env)]) _ _ _
  unfold unpack
  exact wpAny_bind (wpAny_holding (unpack_two hh (N.get hm) fun h' hk => h h' hk))
end
inductive TestEnd (h₀ : Heap) (L : Addr) (m : Str → Option Value) (s₁ : Shared) (all : List (Addr × Obj)) (b : Bool) : Bool → Shared → Prop
  | mk {h' tk} : Fr h₀ L h' m → News h₀ L h' all → TestEnd h₀ L m s₁ all b b { s₁ with heap := h', toks := tk }
inductive EltTx (h₀ : Heap) (L : Addr) (m : Str → Option Value) (s₁ : Shared) (k : Kd) (all : List (Addr × Obj)) (c : List Nat) : Value → Shared → Prop
  | mk {h' tk t'} : Fr h₀ L h' m → News h₀ L h' all → EltTx h₀ L m s₁ k all c (tx k c t') { s₁ with heap := h', toks := tk }
/-- a block over a list of texts, with one test -/
theorem filt_lst {prog : Program} {w : World} {A : Around} {E : Value → Shared → Prop} {s : Shared} {h₀ : Heap} {L : Addr} {m : Str → Option Value} {env : Env} {elt tst : Expr} {x : Str} {scope : Scope} {cl : List (Str × Addr)} {K : Shared → Addr → Obj → List (Addr × Obj) → Prop} {D : Addr} {vs : List Value} {ep : Nat} {news : List (Addr × Obj)} {k : Kd} {ls : List (List Nat)} (p : List Nat → Bool)
    (hh : A.handled = none) (F : Fr h₀ L s.heap m) (N : News h₀ L s.heap news) (hm : (D, listOf vs.toArray ep) ∈ news) (hv : TxsAre k vs ls) (hsz : ls.length ≤ 5000)
    (htest : ∀ c t I oI C oC Dd oA m₂ h tk (E' : Value → Shared → Prop), c ∈ ls → LCg.NsObj oC m₂ → m₂ x = some (tx k c t) → Fr h₀ L h m → News h₀ L h ((I, oI) :: (C, oC) :: (Dd, oA) :: news) →
      wpAny (model prog w) A (isTrue tst (compEnvC scope cl C env) (eval tst (compEnvC scope cl C env))) (TestEnd h₀ L m { s with heap := h, toks := tk } ((I, oI) :: (C, oC) :: (Dd, oA) :: news) (p c)) E' { s with heap := h, toks := tk })
    (helt : ∀ c t I oI C oC Dd oA m₂ h tk (E' : Value → Shared → Prop), c ∈ ls → LCg.NsObj oC m₂ → m₂ x = some (tx k c t) → Fr h₀ L h m → News h₀ L h ((I, oI) :: (C, oC) :: (Dd, oA) :: news) →
      wpAny (model prog w) A (eval elt (compEnvC scope cl C env)) (EltTx h₀ L m { s with heap := h, toks := tk } k ((I, oI) :: (C, oC) :: (Dd, oA) :: news) c) E' { s with heap := h, toks := tk })
    (done : ∀ h D' us n, TxsAre k us (ls.filter p) → LCg.Off1 D' news → K { s with heap := h } D' (listOf us.toArray n) news) :
    wpAny (model prog w) A (pyIter (.ref D)) (CompAt prog w A h₀ L m env elt x [tst] scope cl "list.append" (fun o => o = lst []) K) E s := by
  refine at_lst (fun i oA nw => nw = news ∧ ∃ us n, oA = listOf us.toArray n ∧ TxsAre k us ((ls.take i).filter p)) hh F N hm ?_ ?_ (fun g => ?_) ?_
  · rintro i oA nw ⟨rfl, _⟩; exact hm
  · rintro o rfl; exact ⟨rfl, [], 0, rfl, by simp; exact .nil⟩
  · rintro i v I oI C oC Dd oA m₂ news₁ h tk E' hi hvi ⟨rfl, us, n, rfl, hus⟩ hC hx F N off ne
    obtain ⟨c, t, hc, hvi'⟩ := hv.at_ i hi
    rw [hvi] at hvi'
    cases hvi'
    have hcm := List.mem_of_getElem? hc
    have et : ls.take (i + 1) = ls.take i ++ [c] := by rw [List.take_add_one, hc]; rfl
    have hlen : us.length ≤ 5000 := by
      rw [hus.length]
      exact Nat.le_trans (List.length_filter_le _ _) (by rw [List.length_take]; omega)
    refine wpAny_tests_one (wpAny_mono (htest c t I oI C oC Dd _ m₂ h tk E' hcm hC hx F N) (fun b s₃ h₃ => ?_) fun _ _ e => e)
    generalize hp : p c = b' at h₃
    cases h₃ with
    | @mk h' tk' F' N' =>
      cases b with
      | false =>
        rw [if_neg Bool.false_ne_true]
        exact .mk F' N' off ⟨rfl, us, n, rfl, by rw [et, List.filter_append, List.filter_cons, hp]; simpa using hus⟩
      | true =>
        rw [if_pos rfl]
        refine wpAny_mono (helt c t I oI C oC Dd _ m₂ h' tk' E' hcm hC hx F' N') (fun y s₄ h₄ => ?_) fun _ _ e => e
        cases h₄ with
        | @mk h₂ tk₂ t' F₂ N₂ =>
          have U : Upd Dd (listOf us.toArray n) (listOf (us ++ [tx k c t']).toArray (n + 1)) ((I, oI) :: (C, oC) :: (Dd, listOf us.toArray n) :: news₁) ((I, oI) :: (C, oC) :: (Dd, listOf (us ++ [tx k c t']).toArray (n + 1)) :: news₁) :=
            .tail ne.2.1 (.tail ne.2.2 (.head fun p hp => (off.mem p hp).2.2))
          refine r_append F₂ N₂ U hlen fun h₅ F₅ N₅ => ?_
          exact .mk F₅ N₅ off ⟨rfl, _, _, rfl, by rw [et, List.filter_append, List.filter_cons, hp]; exact hus.app (.cons .nil)⟩
  · rintro h D' oA nw ⟨rfl, us, n, rfl, hus⟩ o1
    exact done h D' us n (by rw [hv.length, List.take_length] at hus; exact hus) o1
theorem off1_mem {D : Addr} {l : List (Addr × Obj)} (x : LCg.Off1 D l) : ∀ p ∈ l, p.1 ≠ D := by
  induction l with
  | nil => intro p h; cases h
  | cons q r ih =>
    intro p h
    rcases List.mem_cons.mp h with rfl | h
    · exact x.1
    · exact ih x.2 p h
end
section
/-! enumerate over a list of the call's own; items and prefixes of a list -/
section
variable {prog : Program} {w : World} {A : Around} {E : Value → Shared → Prop} {s : Shared} {env : Env} {h₀ : Heap} {target : Expr} {body : List Stmt} {Q : Flow → Shared → Prop}
abbrev mIC (m : Str → Option Value) (u1 u2 : Option Value) : Str → Option Value := fun y => if y = "c" then u2 else if y = "i" then u1 else m y
inductive EnEnd (h₀ : Heap) (L : Addr) (m : Str → Option Value) (its news : List (Addr × Obj)) (s : Shared) (Q : Flow → Shared → Prop) (Jn : Prop) : Flow → Shared → Prop
  | next {h' tk u1 u2} : Jn → Fr h₀ L h' (mIC m u1 u2) → News h₀ L h' (its ++ news) → EnEnd h₀ L m its news s Q Jn .next { s with heap := h', toks := tk }
  | brk {s'} : Q .next s' → EnEnd h₀ L m its news s Q Jn .brk s'
theorem en_rest {l : Addr} {lo : Obj} {vs : List Value} {m : Str → Option Value} {news : List (Addr × Obj)} {I : Addr} (J : Nat → Prop) (hlt : ∀ p ∈ news, p.1 < I) (hm : (l, lo) ∈ news)
    (turn : ∀ i v, vs[i]? = some v → J i → ∀ u1 u2 T t h tk oE oI, IsTup h T #[.int (i : Int) t, v] → Fr h₀ env.locals h (mIC m u1 u2) → News h₀ env.locals h ((I + 1, oE) :: (I, oI) :: news) →
      wpAny (model prog w) A (assign target env (.ref T)) (fun _ s₂ => wpAny (model prog w) A (execs body env) (EnEnd h₀ env.locals m [(I + 1, oE), (I, oI)] news { s with heap := h, toks := tk } Q (J (i + 1))) E s₂) E { s with heap := h, toks := tk })
    (done : ∀ u1 u2 h tk, J vs.length → Fr h₀ env.locals h (mIC m u1 u2) → News h₀ env.locals h news → Q .next { s with heap := h, toks := tk }) :
    ∀ (r : List Value) (j : Nat) (u1 u2 : Option Value), r = vs.drop j → j ≤ vs.length → J j →
      ItemsRest prog w A E h₀ env target body Q s [(I + 1, "enumerate"), (I, "list_iterator")] [(l, lo)] (enumItems j r) (mIC m u1 u2) news
  | [], j, u1, u2, hr, hj, hJ => by
    have e : j = vs.length := by
      have := congrArg List.length hr
      rw [List.length_nil, List.length_drop] at this
      omega
    subst e
    exact fun h tk F N => done u1 u2 h tk hJ F N
  | v :: r, j, u1, u2, hr, hj, hJ => by
    have hv : vs[j]? = some v := by
      have := congrArg (fun l => l[0]?) hr
      simpa [List.getElem?_drop] using this.symm
    have hr' : r = vs.drop (j + 1) := by
      have := congrArg (List.drop 1) hr
      simpa [List.drop_drop] using this
    have hj' : j + 1 ≤ vs.length := (List.getElem?_eq_some_iff.mp hv).1
    show ∀ v' h tk, (Itm.pair (fun t => Value.int (j : Int) t) v).Is v' h → _
    rintro v' h tk ⟨T, t, rfl, hT⟩ F
    refine AllObj.cons (fun oE hE => AllObj.cons fun oI hI => AllObj.nil fun N => ?_)
    refine wpAny_mono (turn j v hv hJ u1 u2 T t h tk oE oI hT F N) (fun _ s₂ h₂ => wpAny_mono h₂ (fun f s₃ h₃ => ?_) fun _ _ e => e) fun _ _ e => e
    cases h₃ with
    | brk hq => exact hq
    | next hJ' F' N' =>
      refine ⟨_, _, _, news, rfl, F', N', ?_, ⟨hm, trivial⟩, en_rest J hlt hm turn done r (j + 1) _ _ hr' hj' hJ'⟩
      intro p hp q hq e
      have hp' := hlt p hp
      rcases List.mem_cons.mp hq with rfl | hq
      · have e : p.1 = I + 1 := e
        rw [e] at hp'
        exact Nat.not_succ_lt_self hp'
      · rw [List.mem_singleton.mp hq] at e
        have e : p.1 = I := e
        rw [e] at hp'
        exact Nat.lt_irrefl _ hp'

theorem r_enum {elts : List Expr} {n : Nat} {pos : Pos} {l : Addr} {vs : List Value} {ep : Nat} {m : Str → Option Value} {news : List (Addr × Obj)} (J : Nat → Prop)
    (hh : A.handled = none) (F : Fr h₀ env.locals s.heap m) (N : News h₀ env.locals s.heap news) (hm : (l, listOf vs.toArray ep) ∈ news) (h0 : J 0)
    (turn : ∀ I i v, (∀ p ∈ news, p.1 < I) → vs[i]? = some v → J i → ∀ u1 u2 T t h tk oE oI, IsTup h T #[.int (i : Int) t, v] → Fr h₀ env.locals h (mIC m u1 u2) → News h₀ env.locals h ((I + 1, oE) :: (I, oI) :: news) →
      wpAny (model prog w) A (assign (.Tuple elts n pos) env (.ref T)) (fun _ s₂ => wpAny (model prog w) A (execs body env) (EnEnd h₀ env.locals m [(I + 1, oE), (I, oI)] news { s with heap := h, toks := tk } Q (J (i + 1))) E s₂) E { s with heap := h, toks := tk })
    (done : ∀ u1 u2 h tk, J vs.length → Fr h₀ env.locals h (mIC m u1 u2) → News h₀ env.locals h news → Q .next { s with heap := h, toks := tk }) :
    wpAny (model prog w) A (call (.type "enumerate") [.ref l]) (fun xv s₁ => wpAny (model prog w) A (pyIter xv) (fun it s₂ => TurnsAt prog w A h₀ env (.Tuple elts n pos) body Q E it s₂) E s₁) E s := by
  refine ktu_enum (lo := listOf vs.toArray ep) (vs := vs) hh F N hm rfl rfl rfl fun I hlt => ?_
  have em : m = mIC m (m "i") (m "c") := by
    funext y
    by_cases e1 : y = "c"
    · simp only [mIC, if_pos e1]; rw [e1]
    · by_cases e2 : y = "i"
      · simp only [mIC, if_neg e1, if_pos e2]; rw [e2]
      · simp only [mIC, if_neg e1, if_neg e2]
  have := en_rest (prog := prog) (w := w) (A := A) (E := E) (s := s) (env := env) (h₀ := h₀) (target := .Tuple elts n pos) (body := body) (Q := Q) (m := m) (lo := listOf vs.toArray ep) (l := l) (vs := vs) J hlt hm (fun i v hv hj => turn I i v hlt hv hj) done vs 0 (m "i") (m "c") (by simp) (Nat.zero_le _) h0
  rw [← em] at this
  exact this
end
section
variable {prog : Program} {w : World} {A : Around} {E Q : Value → Shared → Prop} {s : Shared} {h₀ : Heap} {L l : Addr} {m : Str → Option Value} {news : List (Addr × Obj)} {value slice : PySem.Expr} {vs : List Value} {ep : Nat}
theorem q_item {i : Nat} {u : Tok} {v : Value} (N : News h₀ L s.heap news) (hm : (l, listOf vs.toArray ep) ∈ news) (hx : vs[i]? = some v) (hz : vs.length ≤ 5000) (h : Q v s)
    (hs : subscripted slice false (.ref l) (.int (i : Int) u) = operate [.ref l, .int (i : Int) u] (getItem (.ref l) (.int (i : Int) u)) := by with_unfolding_all rfl) :
    wpAny (model prog w) A (subscriptTail value slice (.ref l) (.int (i : Int) u)) Q E s := by
  have hi : i < vs.length := (List.getElem?_eq_some_iff.mp hx).1
  exact tail_any (isL N hm).typeIs slot_list_getitem.lookup (wpAny_getItem_list (isL N hm) (by omega) (by omega) (by simpa using hx) h) hs
theorem q_upto {i : Nat} {u : Tok} (F : Fr h₀ L s.heap m) (N : News h₀ L s.heap news) (hm : (l, listOf vs.toArray ep) ∈ news) (hz : vs.length ≤ 5000)
    (h : ∀ D h', Fr h₀ L h' m → News h₀ L h' ((D, lst (vs.take i)) :: news) → (∀ p ∈ news, p.1 < D) → Q (.ref D) { s with heap := h' })
    (hs : subscripted slice false (.ref l) (.ref s.heap.objs.size) = operate [.ref s.heap.objs.size, .ref l] (getItem (.ref l) (.ref s.heap.objs.size)) := by with_unfolding_all rfl) (ht : ∀ r, letTemporaryGo value (.ref l) r = pure () := by intro _; with_unfolding_all rfl) :
    wpAny (model prog w) A (subscriptTail value slice (.ref l) (.ref s.heap.objs.size)) Q E { s with heap := s.heap.push { cls := .type "slice", data := .fields #[.none, .int (i : Int) u, .none] } } :=
  kmk_slice_lit F N (isL N hm) .none (.int _ _) (by rw [slicePick_upto']) h hs ht (by rw [sizeLine_eq, List.size_toArray]; omega)
end
/-! what two lists have in common ahead -/
def lcp : List (List Nat) → List (List Nat) → List (List Nat)
  | a :: x, b :: y => if a = b then a :: lcp x y else []
  | _, _ => []
theorem lcp_cut : ∀ (x y : List (List Nat)) (i : Nat) (c d : List Nat), (∀ j, j < i → x[j]? = y[j]?) → x[i]? = some c → y[i]? = some d → c ≠ d → lcp x y = x.take i
  | [], _, _, _, _, _, h, _, _ => by simp at h
  | _ :: _, [], _, _, _, _, _, h, _ => by simp at h
  | a :: x, b :: y, 0, c, d, _, h1, h2, hn => by
    simp at h1 h2
    subst h1 h2
    simp [lcp, hn]
  | a :: x, b :: y, i + 1, c, d, hJ, h1, h2, hn => by
    have e : a = b := by simpa using hJ 0 (Nat.zero_lt_succ _)
    subst e
    have := lcp_cut x y i c d (fun j hj => by simpa using hJ (j + 1) (Nat.succ_lt_succ hj)) (by simpa using h1) (by simpa using h2) hn
    simp [lcp, this]
theorem lcp_all : ∀ (x y : List (List Nat)), (∀ j, j < x.length → x[j]? = y[j]?) → lcp x y = x
  | [], y, _ => by cases y <;> rfl
  | a :: x, [], h => by have := h 0 (Nat.zero_lt_succ _); simp at this
  | a :: x, b :: y, h => by
    have e : a = b := by simpa using h 0 (Nat.zero_lt_succ _)
    subst e
    simp [lcp, lcp_all x y fun j hj => by simpa using h (j + 1) (Nat.succ_lt_succ hj)]
theorem lcp_sub : ∀ (x y : List (List Nat)), ∃ i, lcp x y = x.take i
  | [], y => ⟨0, by cases y <;> rfl⟩
  | a :: x, [] => ⟨0, rfl⟩
  | a :: x, b :: y => by
    by_cases e : a = b
    · obtain ⟨i, h⟩ := lcp_sub x y
      exact ⟨i + 1, by simp [lcp, e, h]⟩
    · exact ⟨0, by simp [lcp, e]⟩
theorem least_long : ∀ (x y : List (List Nat)) (i : Nat) (c : List Nat), (∀ j, j < i → x[j]? = y[j]?) → x[i]? = some c → y[i]? = none → lg false y x = true
  | [], _, _, _, _, h, _ => by simp at h
  | a :: x, [], i, c, hJ, _, _ => by rw [lg_size _ _ _ (.inl rfl)]; simp
  | a :: x, b :: y, 0, c, _, _, h => by simp at h
  | a :: x, b :: y, i + 1, c, hJ, h1, h2 => by
    have e : a = b := by simpa using hJ 0 (Nat.zero_lt_succ _)
    subst e
    rw [lg_cons, beq_self_eq_true, if_pos rfl]
    exact least_long x y i c (fun j hj => by simpa using hJ (j + 1) (Nat.succ_lt_succ hj)) (by simpa using h1) (by simpa using h2)
section
variable {prog : Program} {w : World} {A : Around} {E : Value → Shared → Prop} {s : Shared} {h₀ : Heap} {L : Addr} {m : Str → Option Value} {news : List (Addr × Obj)} {Q : Flow → Shared → Prop} {t : Sem Flow}
theorem cutE (k : Kd) (ls : List (List Nat)) (_F : Fr h₀ L s.heap m) (_N : News h₀ L s.heap news)
    (h1 : ∀ Q' : Flow → Shared → Prop, (∀ h' tk u1 u2 ac us ep, TxsAre k us ls → Fr h₀ L h' (fun y => if y = "common" then some (.ref ac) else mIC m u1 u2 y) → News h₀ L h' ((ac, listOf us.toArray ep) :: news) → Q' .next { s with heap := h', toks := tk }) → wpAny (model prog w) A t Q' E s)
    (h2 : ∀ h' tk u1 u2 ac us ep, TxsAre k us ls → Fr h₀ L h' (fun y => if y = "common" then some (.ref ac) else mIC m u1 u2 y) → News h₀ L h' ((ac, listOf us.toArray ep) :: news) → Q .next { s with heap := h', toks := tk }) : wpAny (model prog w) A t Q E s := h1 Q h2
theorem cut1 (k : Kd) (a : Str) (va : List Nat) (_F : Fr h₀ L s.heap m) (_N : News h₀ L s.heap news)
    (h1 : ∀ Q' : Flow → Shared → Prop, (∀ h' tk t1, Fr h₀ L h' (fun y => if y = a then some (tx k va t1) else m y) → News h₀ L h' news → Q' .next { s with heap := h', toks := tk }) → wpAny (model prog w) A t Q' E s)
    (h2 : ∀ h' tk t1, Fr h₀ L h' (fun y => if y = a then some (tx k va t1) else m y) → News h₀ L h' news → Q .next { s with heap := h', toks := tk }) : wpAny (model prog w) A t Q E s := h1 Q h2
end
theorem mIC_set {h₀ h' : Heap} {L : Addr} {m : Str → Option Value} {u1 u2 v1 v2 : Option Value} (F : Fr h₀ L h' (fun y => if y = "c" then v2 else if y = "i" then v1 else mIC m u1 u2 y)) : Fr h₀ L h' (mIC m v1 v2) := by
  have e : (fun y => if y = Str.ofString "c" then v2 else if y = Str.ofString "i" then v1 else mIC m u1 u2 y) = mIC m v1 v2 := by
    funext y
    simp only [mIC]
    split
    · rfl
    · split <;> rfl
  rw [← e]; exact F
theorem mIC_com {h₀ h' : Heap} {L : Addr} {m : Str → Option Value} {u1 u2 v v1 v2 : Option Value} (F : Fr h₀ L h' (fun y => if y = "common" then v else if y = "c" then v2 else if y = "i" then v1 else mIC m u1 u2 y)) : Fr h₀ L h' (fun y => if y = "common" then v else mIC m v1 v2 y) := by
  have e : (fun y => if y = Str.ofString "common" then v else if y = Str.ofString "c" then v2 else if y = Str.ofString "i" then v1 else mIC m u1 u2 y) = (fun y => if y = Str.ofString "common" then v else mIC m v1 v2 y) := by
    funext y
    simp only [mIC]
    split
    · rfl
    · split
      · rfl
      · split <;> rfl
  rw [← e]; exact F
theorem mIC_same {h₀ h' : Heap} {L : Addr} {m : Str → Option Value} {u1 u2 v : Option Value} (hm : m "common" = v) (F : Fr h₀ L h' (mIC m u1 u2)) : Fr h₀ L h' (fun y => if y = "common" then v else mIC m u1 u2 y) := by
  have e : mIC m u1 u2 = (fun y => if y = Str.ofString "common" then v else mIC m u1 u2 y) := by
    funext y
    by_cases h : y = Str.ofString "common"
    · subst h
      rw [if_pos rfl]
      simp only [mIC]
      rw [if_neg (by decide), if_neg (by decide)]
      exact hm
    · rw [if_neg h]
  rw [← e]; exact F
end
section
/-! exceptions: the first look, 'raise .. from None' within a handler -/
section
variable {M : Model} {A : Around} {E : Value → Shared → Prop} {s : Shared}
theorem look_first {base : Heap} {env : Env} {outer : List Env} {L e : Addr} {oe : Obj} {vs : Array Value} {a0 : Value} {Q : Unit → Shared → Prop}
    (hfr : A.frames = some (env :: outer)) (hl : s.heap.FunFrames base (env :: outer)) (hf : env.frame = some L)
    (he : s.heap.get? e = some oe) (hkb : base.StaysIn s.heap) (hen : base.get? e = none) (hd : oe.data = .fields vs) (h1 : vs[1]? = some .none) (h0 : vs[0]? = some a0)
    (h : ∀ h', Heap.HeldW base (env :: outer) e oe.cls a0 L h' → s.heap.UpToSlots h' → Q () { s with heap := h' }) : wpAny M A (noteFrame (.ref e) env) Q E s := by
  unfold noteFrame
  simp only [hf]
  refine wpAny_bind (wpAny_field he hd h1 ?_)
  rw [if_neg (by decide)]
  refine wpAny_entryW hfr hl hf he hkb hen hd (Array.getElem?_eq_some_iff.mp h1).1 h0 fun h' ⟨k1, k2, k3, k4⟩ => h h' ⟨k1, hen, k2, k3⟩ k4
end
section
variable {prog : Program} {w : World} {A : Around} {E : Value → Shared → Prop} {s : Shared} {env : Env}
theorem entry_unchain : entryFor table "proto.unchain" = some Builtin.«proto.unchain» := entryFor_of_tree (by kernel_rfl)
theorem unchain {e : Value} {h : Addr} {o : Obj} {vs : Array Value} {Q : Value → Shared → Prop} (ho : s.heap.get? h = some o) (hd : o.data = .fields vs) (h2 : vs[2]? = some .none) (hQ : Q .none s) :
    wpAny (model prog w) A (runValue (.builtin "proto.unchain" ⟨[e, .ref h, .ref h, .bool false], []⟩)) Q E s := by
  refine wpAny_runValue (codeAny_builtin entry_unchain ?_)
  unfold Builtin.«proto.unchain»
  dsimp only
  refine wpAny_bind (wpAny_field ho hd h2 ?_)
  rw [if_pos (by decide)]
  exact wpAny_bind (m := ret Value.none) (wpAny_pure (wpAny_pure hQ))
theorem raise_from {cls : String} (F : ExcRaiseFacts cls) {x : Sem Value} {c : Sem Value} {e1 : Addr} {o1 : Obj} {vs1 : Array Value} {Q : Flow → Shared → Prop} (hh : A.handled = some (.ref e1))
    (hc : ∀ Q' s₁, Q' Value.none s₁ → wpAny (model prog w) A c Q' E s₁)
    (h : wpAny (model prog w) A x (fun v s₁ => ∃ e t, v = .ref e ∧ e ≠ e1 ∧ s₁.heap.get? e1 = some o1 ∧ o1.data = .fields vs1 ∧ vs1[2]? = some .none ∧ s₁.heap.get? e = some { cls := .type cls, data := .fields #[.ref t, .none, .none, .none, .bool false, .none] } ∧
      ∀ h', (∀ b, b ≠ e → h'.get? b = s₁.heap.get? b) → h'.get? e = some { cls := .type cls, data := .fields #[.ref t, .none, .ref e1, .none, .bool true, .none] } → E (.ref e) { s₁ with heap := h' }) E s) :
    wpAny (model prog w) A (raiseStmt env (some x) (some c)) Q E s := by
  unfold raiseStmt
  refine wpAny_bind (wpAny_mono h (fun v s₁ h₁ => ?_) fun _ _ x => x)
  obtain ⟨e, t, rfl, hne, ho1, hd1, hc1, he, hE⟩ := h₁
  obtain ⟨hp, g, d, tk, os⟩ := s₁
  have hsub := F.isExc
  have hmeta := F.plainMeta
  refine wpAny_bind (wpAny_holding (hc _ _ ?_))
  refine wpAny_bind (wpAny_pure ?_)
  dsimp only
  have ex : ∀ {Q' : Value → Shared → Prop}, Q' (.ref e) ⟨hp, g, d, tk, os⟩ → wpAny (model prog w) A (excFromValue (Value.ref e) "exceptions must derive from BaseException") Q' E ⟨hp, g, d, tk, os⟩ := by
    intro Q' hq
    unfold excFromValue
    repeat (any_goals (first | exact hq | refine wpAny_loadPart he ?_ | wp_step))
  refine wpAny_bind (wpAny_holding (ex ?_))
  rw [if_pos (show (Value.none == Value.none) = true by decide)]
  refine wpAny_bind (wpAny_pure ?_)
  refine wpAny_bind (wpAny_setField he rfl (by show 3 < 6; omega) ?_)
  have he2 := Heap.get?_update_self (Obj.mapFields (·.setIfInBounds 3 Value.none)) he rfl
  refine wpAny_bind (wpAny_setField he2 rfl (by show 4 < 6; omega) ?_)
  have he3 := Heap.get?_update_self (Obj.mapFields (·.setIfInBounds 4 (Value.bool true))) he2 rfl
  have e3 := he3
  rw [show Obj.mapFields (·.setIfInBounds 4 (Value.bool true)) (Obj.mapFields (·.setIfInBounds 3 Value.none) { cls := .type cls, data := .fields #[.ref t, .none, .none, .none, .bool false, .none] }) = ({ cls := .type cls, data := .fields #[.ref t, .none, .none, .none, .bool true, .none] } : Obj) from rfl] at e3
  have k3 : ∀ b, b ≠ e → ((hp.update e (Obj.mapFields (·.setIfInBounds 3 Value.none))).update e (Obj.mapFields (·.setIfInBounds 4 (Value.bool true)))).get? b = hp.get? b := fun b hb => by
    rw [Heap.get?_update_other _ _ (Ne.symm hb), Heap.get?_update_other _ _ (Ne.symm hb)]
  generalize (hp.update e (Obj.mapFields (·.setIfInBounds 3 Value.none))).update e (Obj.mapFields (·.setIfInBounds 4 (Value.bool true))) = hq at e3 k3 ⊢
  repeat (first | refine wpAny_loadPart e3 ?_ | wp_step)
  have o1' : hq.get? e1 = some o1 := (k3 e1 (Ne.symm hne)).trans ho1
  unfold raiseNew
  refine wpAny_bind (wpAny_handled ?_)
  rw [hh]
  dsimp only
  rw [if_pos (show (Value.ref e1 != Value.ref e) = true from bne_iff_ne.mpr fun q => hne (Value.ref.inj q).symm)]
  refine wpAny_bind (wpAny_holding (unchain (s := ⟨hq, g, d, tk, os⟩) o1' hd1 hc1 ?_))
  refine wpAny_bind (m := updateField e 2 (.ref e1)) (wpAny_setField (s := ⟨hq, g, d, tk, os⟩) e3 rfl (by show 2 < 6; omega) ?_)
  refine wpAny_throw (hE _ (fun b hb => ?_) ?_)
  · show (hq.update e _).get? b = _
    rw [Heap.get?_update_other _ _ (Ne.symm hb)]
    exact k3 b hb
  · exact Heap.get?_update_self (Obj.mapFields (·.setIfInBounds 2 (Value.ref e1))) e3 rfl
end
section
variable {prog : Program} {w : World} {A : Around} {E : Value → Shared → Prop} {s : Shared} {env : Env}
theorem exec_raise_from {x msg : Str} {np cpos cp p0 pos : Pos} {kk kk' : Nat} {e1 : Addr} {o1 : Obj} {vs1 : Array Value} {Q : Flow → Shared → Prop} (hh : A.handled = some (.ref e1))
    (hname : ∀ Q' : Value → Shared → Prop, Q' (.type "ValueError") s → wpAny (model prog w) A (eval (.Name x np) env) Q' E s)
    (ho : s.heap.get? e1 = some o1) (hd1 : o1.data = .fields vs1) (h2 : vs1[2]? = some .none) (hmsg : msg.length ≤ sizeLine)
    (h : ∀ h' e t tk tm, (∀ b o, s.heap.get? b = some o → h'.get? b = some o) → s.heap.get? e = none → s.heap.get? t = none → h'.get? e = some { cls := .type "ValueError", data := .fields #[.ref t, .none, .ref e1, .none, .bool true, .none] } →
      h'.get? t = some { cls := .type "tuple", data := .seq #[.str msg tm] } → E (.ref e) { s with heap := h', toks := tk }) :
    wpAny (model prog w) A (exec (.Raise (some (.Call (.Name x np) [.Constant (.str msg) kk cp] [] cpos)) (some (.Constant .none kk' p0)) pos) env) Q E s := by
  rw [arm_exec_Raise]
  refine wpAny_bind (wpAny_standAt ?_)
  show wpAny _ _ (raiseStmt env (some (do let v ← eval (.Call (.Name x np) [.Constant (.str msg) kk cp] [] cpos) env; standAt pos; pure v)) (some (do let v ← eval (.Constant .none kk' p0) env; standAt pos; pure v))) _ _ _
  refine raise_from (o1 := o1) (vs1 := vs1) PySem.F.excRaise_ValueError hh ?_ ?_
  · intro Q' s₁ hq
    repeat (first | exact hq | wp_step)
  · refine wpAny_bind (wpAny_Call_ofName (hname _ ?_))
    refine callWith_excType rfl ?_
    repeat (first | ((fail_if_success (show wpAny _ _ (call _ _ _) _ _ _)); wp_step) | fail "stop")
    refine wpAny_call_exc PySem.F.excCall_ValueError (hp := s.heap) (rest := [.str msg s.toks]) (fun h' e hm => ?_) (by rw [sizeLine_eq]; show 1 ≤ 16777216; decide)
    refine wpAny_bind (wpAny_standAt (wpAny_pure ?_))
    obtain ⟨t, he, htn, ht⟩ := hm.there
    have hne : e ≠ e1 := fun q => by
      have := hm.new
      rw [q, ho] at this
      cases this
    refine ⟨e, t, rfl, hne, hm.keeps _ _ ho, hd1, h2, he, fun h'' kb ke => ?_⟩
    have kt : t ≠ e := fun q => by
      rw [q] at ht
      have ht' : h'.get? e = _ := ht
      have he' : h'.get? e = _ := he
      rw [he'] at ht'
      exact absurd (Value.type.inj (congrArg Obj.cls (Option.some.inj ht'))) (by decide)
    exact h h'' e t _ _ (fun b o hb => (kb b (fun q => by rw [q, hm.new] at hb; cases hb)).trans (hm.keeps b o hb)) hm.new htn ke ((kb t kt).trans ht)
end
/-! an exception that is raised in a frame with cells, caught there, and another raised from none: out of the frame -/
section
variable {M : Model} {A : Around} {E : Value → Shared → Prop} {s : Shared}
/-- a field of the exception's, kept from look to look -/
def FieldIs (h : Heap) (e : Addr) (i : Nat) (v : Value) : Prop := ∃ o vs, h.get? e = some o ∧ o.data = .fields vs ∧ vs[i]? = some v
theorem FieldIs.other {h : Heap} {e T : Addr} {i : Nat} {v : Value} {f : Obj → Obj} (x : FieldIs h e i v) (hne : T ≠ e) : FieldIs (h.update T f) e i v := by
  obtain ⟨o, vs, a, b, c⟩ := x
  exact ⟨o, vs, (Heap.get?_update_other _ _ hne).trans a, b, c⟩
theorem lands2 {base : Heap} {l : List Env} {e : Addr} {cls a0 fl : Value} {Q : Unit → Shared → Prop} {v : Value} {i : Nat} (f1 : base.StaysIn s.heap) (f2 : base.get? e = none) (f3 : s.heap.FunFrames base l) (f4 : s.heap.TracedAtW base e cls a0 fl) (hv : FieldIs s.heap e i v)
    (hQ : ∀ h', Heap.FlyingW base l e cls a0 h' → s.heap.UpToSlots h' → FieldIs h' e i v → Q () { s with heap := h' }) : wpAny M A (setFlight (.ref e) none) Q E s := by
  obtain ⟨oe, vs, T, oT, ts, he, hcls, hd, h1, hnT, hTe, hT, hdT, h3⟩ := f4
  have hsz : 3 < ts.size := (Array.getElem?_eq_some_iff.mp h3).1
  have noRecord : ∀ b o, s.heap.get? b = some o → (∀ vs, o.data ≠ .fields vs) → b ≠ T := fun b o hb hnf q => by
    rw [q, hT] at hb; injection hb with hb; subst hb; exact hnf ts hdT
  have keep : ∀ b, b ≠ T → (s.heap.update T (Obj.mapFields (·.setIfInBounds 3 Value.none))).get? b = s.heap.get? b := fun b hb => Heap.get?_update_other _ _ (Ne.symm hb)
  unfold setFlight
  refine wpAny_bind (wpAny_field he hd h1 ?_)
  rw [if_pos (show (Value.ref T != Value.none) = true from by simp)]
  refine wpAny_setField hT hdT hsz (hQ _ ⟨fun b o hb => (keep b fun q => by rw [q, hnT] at hb; cases hb).trans (f1 b o hb), f2, f3.of_keeps fun b o hb hnf => ⟨o, (keep b (noRecord b o hb hnf)).trans hb, rfl⟩, ?_⟩
    (fun b o hb hnf => ⟨o.slots, (keep b (noRecord b o hb hnf)).trans hb⟩) (hv.other hTe))
  exact ⟨oe, vs, T, _, _, (keep e (Ne.symm hTe)).trans he, hcls, hd, h1, hnT, hTe, Heap.get?_update_self _ hT (Obj.isFreed_of_fields (Obj.data_mapFields hdT _)), Obj.data_mapFields hdT _, by simp [hsz]⟩
/-- the first look at an exception keeps its other fields -/
theorem look2 {base : Heap} {env : Env} {outer : List Env} {L e : Addr} {oe : Obj} {vs : Array Value} {a0 v : Value} {i : Nat} {Q : Unit → Shared → Prop} (hi : i ≠ 1)
    (hfr : A.frames = some (env :: outer)) (hl : s.heap.FunFrames base (env :: outer)) (hf : env.frame = some L)
    (he : s.heap.get? e = some oe) (hkb : base.StaysIn s.heap) (hen : base.get? e = none) (hd : oe.data = .fields vs) (h1 : vs[1]? = some .none) (h0 : vs[0]? = some a0) (hv : vs[i]? = some v)
    (h : ∀ h', Heap.HeldW base (env :: outer) e oe.cls a0 L h' → s.heap.UpToSlots h' → FieldIs h' e i v → Q () { s with heap := h' }) : wpAny M A (noteFrame (.ref e) env) Q E s := by
  unfold noteFrame
  simp only [hf]
  refine wpAny_bind (wpAny_field he hd h1 ?_)
  rw [if_neg (by decide)]
  have hsz : 1 < vs.size := (Array.getElem?_eq_some_iff.mp h1).1
  have hene : e ∉ (env :: outer).filterMap (·.frame) := fun hm => by
    obtain ⟨_, o, ho, hnf⟩ := hl.mem hm
    rw [he] at ho; injection ho with ho; subst ho; exact hnf vs hd
  refine wpAny_bind (wpAny_frameOf_fun hfr hl hf fun h₁ hs₁ => ?_)
  refine wpAny_bind (wpAny_entryPlaceOf fun pl hpl => ?_)
  unfold EntryCells.newEntry newFields
  refine wpAny_bind (wpAny_newObj_type ?_ (hpl.sizeOk5 _ _ _ _ _))
  have he₁ : h₁.get? e = some oe := (hs₁.2.1 e hene).trans he
  generalize hO : ({ cls := .type "traceback", dict := none, data := .fields ([.none, .ref L, .none, rawInt L, .none] ++ (if pl.isEmpty then List.replicate 6 Value.none else pl)).toArray } : Obj) = O
  have hOd : ∃ ts, O.data = .fields ts ∧ ts[3]? = some (rawInt L) := ⟨_, by rw [← hO], by first | (simp; done) | (rcases hpl with rfl | ⟨_, _, _, _, _, _, _, rfl⟩ <;> simp)⟩
  obtain ⟨ts, hts, ht3⟩ := hOd
  have hOf : O.isFreed = false := Obj.isFreed_of_fields hts
  have he₂ := Heap.get?_push_of_some O he₁
  refine wpAny_setField he₂ hd hsz ?_
  have hTe : h₁.objs.size ≠ e := Nat.ne_of_gt (Heap.lt_size he₁)
  have hd₃ := Obj.data_mapFields hd (·.setIfInBounds 1 (Value.ref h₁.objs.size))
  have he₃ := Heap.get?_update_self (Obj.mapFields (·.setIfInBounds 1 (Value.ref h₁.objs.size))) he₂ (Obj.isFreed_of_fields hd₃)
  have hT₃ := (Heap.get?_update_other (h₁.push O) (Obj.mapFields (·.setIfInBounds 1 (Value.ref h₁.objs.size))) (Ne.symm hTe)).trans (Heap.get?_push_size h₁ hOf)
  have keep : ∀ b o, b ≠ e → h₁.get? b = some o → ((h₁.push O).update e (Obj.mapFields (·.setIfInBounds 1 (Value.ref h₁.objs.size)))).get? b = some o := fun b o hbe hb => by
    rw [Heap.get?_update_other _ _ (Ne.symm hbe)]
    exact Heap.get?_push_of_some _ hb
  have kb₁ : base.StaysIn h₁ := fun b o hbo => (hs₁.2.1 b fun hm => by rw [(hl.mem hm).1] at hbo; cases hbo).trans (hkb b o hbo)
  have noRecord : ∀ b o, s.heap.get? b = some o → (∀ vs, o.data ≠ .fields vs) → b ≠ e := fun b o hb hnf q => by
    rw [q, he] at hb; injection hb with hb; subst hb; exact hnf vs hd
  refine h _ ⟨fun b o hbo => keep b o (fun q => by rw [q, hen] at hbo; cases hbo) (kb₁ b o hbo), hen, hl.of_keeps fun b o hb hnf => ?_, ?_⟩ (fun b o hb hnf => ?_) ⟨_, _, he₃, hd₃, by rw [Array.getElem?_setIfInBounds_ne (Ne.symm hi)]; exact hv⟩
  · obtain ⟨sl, hs⟩ := hs₁.2.2 b o hb
    exact ⟨_, keep b _ (noRecord b o hb hnf) hs, rfl⟩
  · exact ⟨_, _, h₁.objs.size, _, _, he₃, ⟨Obj.cls_mapFields _ _, by rw [Array.getElem?_setIfInBounds_ne (by decide)]; exact h0⟩, hd₃, by simp [hsz], kb₁.fresh, hTe, hT₃, hts, ht3⟩
  · obtain ⟨sl, hs⟩ := hs₁.2.2 b o hb
    exact ⟨sl, keep b _ (noRecord b o hb hnf) hs⟩
end
section
variable {M : Model} {A : Around} {E : Value → Shared → Prop} {s : Shared}
theorem pass_on {α : Type} {what : String} {base : Heap} {env : Env} {l : List Env} {L e : Addr} {cls a0 : Value} {Q : α → Shared → Prop} (hf : env.frame = some L) (hfl : Heap.FlyingW base l e cls a0 s.heap)
    (h : ∀ h', Heap.HeldW base l e cls a0 L h' → s.heap.UpToSlots h' → E (.ref e) { s with heap := h' }) : wpAny M A (PySem.passOn what (.ref e) env : Sem α) Q E s := by
  obtain ⟨f1, f2, f3, oe, vs, T, oT, ts, he, hcls, hd, h1, hnT, hTe, hT, hdT, h3⟩ := hfl
  have hsz : 3 < ts.size := (Array.getElem?_eq_some_iff.mp h3).1
  have noRecord : ∀ b o, s.heap.get? b = some o → (∀ vs, o.data ≠ .fields vs) → b ≠ T := fun b o hb hnf q => by
    rw [q, hT] at hb; injection hb with hb; subst hb; exact hnf ts hdT
  have keep : ∀ b, b ≠ T → (s.heap.update T (Obj.mapFields (·.setIfInBounds 3 (rawInt L)))).get? b = s.heap.get? b := fun b hb => Heap.get?_update_other _ _ (Ne.symm hb)
  unfold PySem.passOn
  refine wpAny_bind (wpAny_field he hd h1 ?_)
  rw [if_neg (show ¬ ((Value.ref T == Value.none) = true) from by simp)]
  unfold setFlight
  refine wpAny_bind (wpAny_bind (wpAny_field he hd h1 ?_))
  rw [if_pos (show (Value.ref T != Value.none) = true from by simp), hf]
  refine wpAny_setField hT hdT hsz (wpAny_throw (h _ ⟨fun b o hb => (keep b fun q => by rw [q, hnT] at hb; cases hb).trans (f1 b o hb), f2, f3.of_keeps fun b o hb hnf => ⟨o, (keep b (noRecord b o hb hnf)).trans hb, rfl⟩, ?_⟩
    (fun b o hb hnf => ⟨o.slots, (keep b (noRecord b o hb hnf)).trans hb⟩)))
  exact ⟨oe, vs, T, _, _, (keep e (Ne.symm hTe)).trans he, hcls, hd, h1, hnT, hTe, Heap.get?_update_self _ hT (Obj.isFreed_of_fields (Obj.data_mapFields hdT _)), Obj.data_mapFields hdT _, by simp [hsz]⟩
end
section
variable {w : World} {A A₁ : Around} {E₁ E₂ : Value → Shared → Prop} {s : Shared} {base g G B : Heap} {outer : List Env} {L a : Addr} {m mg mb : Str → Option Value} {cn : Str} {sc : Scope} {cd : Value} {cl : List (Str × Addr)} {loose : List Str} {mean : ExcName → Option Value} {news : List (Addr × Obj)}
/-- what stands in a frame from which an exception goes -/
structure Sit (A₁ : Around) (w : World) (loose : List Str) (mean : ExcName → Option Value) (mg mb : Str → Option Value) (base g G B : Heap) (outer : List Env) (L : Addr) (m : Str → Option Value) (news : List (Addr × Obj)) : Prop where
  F : Fr g L G m
  K : Below A₁ base outer g
  X : (Mine.hd.heap_1 w.params).In base
  T : Top PV loose mean mg mb base
  st : base.StaysIn B
  sg : ∀ b o, G.get? b = some o → b ∉ L :: outer.filterMap (·.frame) → B.get? b = some o
  sB : B.StaysIn G
  hl : ∀ q ∈ news, B.get? q.1 = some q.2 ∧ g.get? q.1 = none ∧ base.get? q.1 = none
theorem Sit.mk' (K : Below A₁ base outer g) (F : Fr g L G m) (N : News g L G news) (X : (Mine.hd.heap_1 w.params).In base) (T : Top PV loose mean mg mb base) :
    Sit A₁ w loose mean mg mb base g G (hideAll G (L :: outer.filterMap (·.frame))) outer L m news := by
  have hmem : ∀ b, b ∈ outer.filterMap (·.frame) → base.get? b = none ∧ ∃ o, g.get? b = some o := fun b hb => by
    obtain ⟨h1, o, h2, _⟩ := K.frames.mem hb
    exact ⟨h1, o, h2⟩
  have hL : g.get? L = none := kts_self F
  refine ⟨F, K, X, T, fun b o q => hideAll_get _ (F.keep b o (K.stays b o q)) fun hm => ?_, fun b o e n => hideAll_get _ e n, fun b o e => of_hideAll _ e, fun q hq => ⟨hideAll_get _ (N q hq).1 fun hm => ?_, (N q hq).2.2, fresh_of_stays K.stays (N q hq).2.2⟩⟩
  · rcases List.mem_cons.mp hm with rfl | hm
    · have := K.stays _ _ q
      rw [hL] at this
      cases this
    · rw [(hmem b hm).1] at q
      cases q
  · rcases List.mem_cons.mp hm with e | hm
    · exact (N q hq).2.1 e
    · obtain ⟨_, o, ho⟩ := hmem _ hm
      rw [(N q hq).2.2] at ho
      cases ho
theorem Sit.ground (S : Sit A₁ w loose mean mg mb base g G B outer L m news) {h : Heap} (hB : B.StaysIn h) (hsm : G.UpToSlots h) : ∃ g', Fr g' L h m ∧ (Mine.hd.heap_1 w.params).In g' ∧ TopRead PV loose mg mb g' := by
  obtain ⟨g', _, F', K'⟩ := kts_ground (name := "") (scope := { kind := .function, names := [], isGenerator := false, isCoroutine := false }) (a := 0) (cd := .none) S.K S.F S.sg hB hsm
  exact ⟨g', F', S.X.keeps K'.stays, topRead_of (S.T.keeps K'.stays)⟩
theorem Sit.name (S : Sit A₁ w loose mean mg mb base g G B outer L m news) {x : Str} {pos : Pos} {v : Value} {Q E : Value → Shared → Prop} (hB : B.StaysIn s.heap) (hsm : G.UpToSlots s.heap) (ex : nsIn (Mine.hd.heap_1 w.params) mainGlobals x = some none) (hv : bootBuiltins x = some v) (hn : x ≠ "__name__") (h : Q v s)
    (hk : sc.kind = .function) (hx : (envX cn sc L a cd cl).kindOf x = some .globalImplicit) (hd : (x == ("__debug__" : Str)) = false) :
    wpAny (model PR w) A (eval (.Name x pos) (envX cn sc L a cd cl)) Q E s := by
  obtain ⟨g', F', X', T'⟩ := S.ground hB hsm
  exact nameX_B F' X' T' ex hv hn h hk hx hd
theorem Sit.frames (S : Sit A₁ w loose mean mg mb base g G B outer L m news) (hk : sc.kind = .function) (hBe : B = hideAll G (L :: outer.filterMap (·.frame))) : G.FunFrames B (envX cn sc L a cd cl :: outer) := by
  rw [hBe]
  exact funFrames_hide (pushX (env := envX cn sc L a cd cl) S.K S.F rfl hk).frames fun env he b hb => by
    rcases List.mem_cons.mp he with rfl | he
    · exact Option.some.inj hb ▸ .head _
    · exact .tail _ (List.mem_filterMap.mpr ⟨env, he, hb⟩)
end
theorem fly_push {base h : Heap} {l : List Env} {e : Addr} {cls a0 : Value} (o : Obj) (x : Heap.FlyingW base l e cls a0 h) : Heap.FlyingW base l e cls a0 (h.push o) := by
  obtain ⟨f1, f2, f3, oe, vs, T, oT, ts, he, hcls, hd, h1, hnT, hTe, hT, hdT, h3⟩ := x
  exact ⟨fun b o' e => Heap.get?_push_of_some _ (f1 b o' e), f2, f3.of_keeps fun b o' hb _ => ⟨o', Heap.get?_push_of_some _ hb, rfl⟩, oe, vs, T, oT, ts, Heap.get?_push_of_some _ he, hcls, hd, h1, hnT, hTe, Heap.get?_push_of_some _ hT, hdT, h3⟩
theorem isExc_AttrErr : isSubtype (.type "AttributeError") (.type "BaseException") = pure true := by rw [isSubtype_type]; kernel_rfl
theorem notTuple_AttrErr : isSubtype (.type ((Manifest.find? "AttributeError").elim "type" fun x => x.metatype)) (.type "tuple") = pure false := by
  rw [show ((Manifest.find? "AttributeError").elim "type" fun x => x.metatype) = "type" from by kernel_rfl, isSubtype_type]; kernel_rfl
section
variable {w : World} {A A₁ : Around} {E₁ E₂ : Value → Shared → Prop} {s : Shared} {base g G : Heap} {outer : List Env} {L a : Addr} {m mg mb : Str → Option Value} {cn : Str} {sc : Scope} {cd : Value} {cl : List (Str × Addr)} {loose : List Str} {mean : ExcName → Option Value} {news : List (Addr × Obj)}
theorem mix_flow {B : Heap} {e1 : Addr} {p1 p2 p3 p4 p5 p6 p7 p8 p9 p10 p11 : Pos} {k1 k2 k3 : Nat} {b₀ : Stmt} {suite : List Stmt} {Q Q₂ : Flow → Shared → Prop} {Eo : Value → Shared → Prop}
    (S : Sit A₁ w loose mean mg mb base g G B outer L m news) (hBe : B = hideAll G (L :: outer.filterMap (·.frame))) (hk : sc.kind = .function)
    (n1 : (envX cn sc L a cd cl).kindOf "ValueError" = some .globalImplicit) (n2 : (envX cn sc L a cd cl).kindOf "TypeError" = some .globalImplicit) (n3 : (envX cn sc L a cd cl).kindOf "AttributeError" = some .globalImplicit)
    (x1 : nsIn (Mine.hd.heap_1 w.params) mainGlobals "ValueError" = some none) (x2 : nsIn (Mine.hd.heap_1 w.params) mainGlobals "TypeError" = some none) (x3 : nsIn (Mine.hd.heap_1 w.params) mainGlobals "AttributeError" = some none)
    (hx : Heap.NewExc G s.heap e1 "ValueError")
    (hpass : PassesOwnAt (model PR w) ((A₁.deeper (envX cn sc L a cd cl)).mark (some (.ref e1))) (A₁.deeper (envX cn sc L a cd cl)) (envX cn sc L a cd cl) Eo)
    (hEo : ∀ e s', wpAny (model PR w) (A₁.deeper (envX cn sc L a cd cl)) (noteFrame e (envX cn sc L a cd cl)) (fun _ s₂ => wpAny (model PR w) (A₁.deeper (envX cn sc L a cd cl)) (setFlight e none) (fun _ s₃ =>
        wpAny (model PR w) (A₁.deeper (envX cn sc L a cd cl)) (handleBy e (envX cn sc L a cd cl) [.ExceptHandler (some (.Tuple [.Name "TypeError" p1, .Name "AttributeError" p2] k1 p3)) none (b₀ :: suite) p4]) Q₂
          (fun e s' => wpAny (model PR w) (A₁.deeper (envX cn sc L a cd cl)) (leaving (envX cn sc L a cd cl) e) (fun _ s'' => E₁ e s'') E₂ s') s₃)
          (fun e s' => wpAny (model PR w) (A₁.deeper (envX cn sc L a cd cl)) (leaving (envX cn sc L a cd cl) e) (fun _ s'' => E₁ e s'') E₂ s') s₂)
          (fun e s' => wpAny (model PR w) (A₁.deeper (envX cn sc L a cd cl)) (leaving (envX cn sc L a cd cl) e) (fun _ s'' => E₁ e s'') E₂ s') s' → Eo e s')
    (hE : ∀ h' e t tk tm, Heap.FlyingW B outer e (.type "ValueError") (.ref t) h' → B.get? t = none → h'.TupAt t [.str "Can't mix absolute and relative paths" tm] → G.UpToSlots h' → E₁ (.ref e) { s with heap := h', toks := tk }) :
    wpAny (model PR w) (A₁.deeper (envX cn sc L a cd cl)) (noteFrame (.ref e1) (envX cn sc L a cd cl)) (fun _ s₂ => wpAny (model PR w) (A₁.deeper (envX cn sc L a cd cl)) (setFlight (.ref e1) none) (fun _ s₃ =>
        wpAny (model PR w) (A₁.deeper (envX cn sc L a cd cl)) (handleBy (.ref e1) (envX cn sc L a cd cl) [.ExceptHandler (some (.Name "ValueError" p5)) none [.Raise (some (.Call (.Name "ValueError" p6) [.Constant (.str "Can't mix absolute and relative paths") k2 p7] [] p8)) (some (.Constant .none k3 p9)) p10] p11]) Q Eo s₃) Eo s₂) Eo s := by
  have hfr : (A₁.deeper (envX cn sc L a cd cl)).frames = some (envX cn sc L a cd cl :: outer) := Around.frames_deeper S.K.stack
  have FG := S.frames (cn := cn) (sc := sc) (a := a) (cd := cd) (cl := cl) hk hBe
  have sub : isSubtype (.type "ValueError") (.type "ValueError") = pure true := by rw [isSubtype_type]; kernel_rfl
  have sub2 : isSubtype (.type "ValueError") (.type "TypeError") = pure false := by rw [isSubtype_type]; kernel_rfl
  have sub3 : isSubtype (.type "ValueError") (.type "AttributeError") = pure false := by rw [isSubtype_type]; kernel_rfl
  obtain ⟨ob, tp, he, hcls, hd⟩ := hx.there
  have none_of : ∀ {h : Heap} {b : Addr}, B.StaysIn h → h.get? b = none → B.get? b = none := fun hB e => by
    cases q : B.get? _ with
    | none => rfl
    | some o => have := hB _ _ q; rw [e] at this; cases this
  have hen : B.get? e1 = none := none_of S.sB hx.new
  have hkB : B.StaysIn s.heap := fun b o e => hx.keeps b o (S.sB b o e)
  have u0 : G.UpToSlots s.heap := Heap.UpToSlots.of_keeps hx.keeps
  refine look2 (a0 := tp) (v := .none) (i := 2) (by decide) hfr (FG.of_keeps fun b o hb _ => ⟨o, hx.keeps b o hb, rfl⟩) rfl he hkB hen hd rfl rfl rfl fun h1 hh1 u1 c1 => ?_
  refine lands2 hh1.1 hh1.2.1 hh1.2.2.1 hh1.2.2.2 c1 fun h2 fl2 u2 c2 => ?_
  have u02 : G.UpToSlots h2 := (u0.trans u1).trans u2
  rw [hcls] at fl2
  refine wpAny_handleBy_builtin (X := "ValueError") (T := "ValueError") (b := true) PySem.F.isExc_ValueError PySem.F.notTuple_ValueError sub
    (S.name (s := { s with heap := h2 }) fl2.1 u02 x1 PyProof.Rows.Boot.«ValueError» (by decide) ⟨rfl, fl2.there, ?_⟩ hk n1 (by decide))
  rw [if_pos rfl]
  refine lands2 (s := { s with heap := h2 }) fl2.1 fl2.2.1 fl2.2.2.1 fl2.2.2.2.at c2 fun h3 fl3 u3 c3 => ?_
  have u03 : G.UpToSlots h3 := u02.trans u3
  refine wpAny_passesOwnAt hpass (wpAny_execs_cons ?_)
  obtain ⟨o1, vs1, ho1, hd1, hc1⟩ := c3
  refine exec_raise_from (s := { s with heap := h3 }) (e1 := e1) (o1 := o1) (vs1 := vs1) rfl (fun Q' hq => S.name (s := { s with heap := h3 }) fl3.1 u03 x1 PyProof.Rows.Boot.«ValueError» (by decide) hq hk n1 (by decide)) ho1 hd1 hc1 (by rw [PySem.ofString_length, sizeLine_eq]; decide +kernel) fun h4 e2 t2 tk4 tm k4 ne2 nt2 he2 ht2 => ?_
  have hB4 : B.StaysIn h4 := fun b o e => k4 b o (fl3.1 b o e)
  have be2 : B.get? e2 = none := none_of fl3.1 ne2
  have bt2 : B.get? t2 = none := none_of fl3.1 nt2
  refine hEo _ _ ?_
  refine look_first (s := { s with heap := h4, toks := tk4 }) (a0 := .ref t2) hfr (fl3.2.2.1.of_keeps fun b o hb _ => ⟨o, k4 b o hb, rfl⟩) rfl he2 hB4 be2 rfl rfl rfl fun h5 hh5 u5 => ?_
  refine wpAny_landsW (s := { s with heap := h5, toks := tk4 }) hh5 fun h6 fl6 u6 => ?_
  have u46 : h4.UpToSlots h6 := u5.trans u6
  have u06 : G.UpToSlots h6 := (u03.trans (Heap.UpToSlots.of_keeps k4)).trans u46
  have tup6 : h6.TupAt t2 [.str "Can't mix absolute and relative paths" tm] := Heap.TupAt.of_slots ⟨_, _, ht2, rfl, rfl⟩ u46
  refine wpAny_handleBy_tup2 (X := "ValueError") (T1 := "TypeError") (T2 := "AttributeError") (b1 := false) (b2 := false) PySem.F.isExc_TypeError PySem.F.notTuple_TypeError isExc_AttrErr notTuple_AttrErr sub2 sub3 ?_
  refine wpAny_Tuple ?_
  have nT : ∀ {s' : Shared} {Q' E' : Value → Shared → Prop}, s'.heap = h6 → Q' (.type "TypeError") s' → wpAny (model PR w) ((A₁.deeper (envX cn sc L a cd cl)).mark (some (.ref e2))) (eval (.Name "TypeError" p1) (envX cn sc L a cd cl)) Q' E' s' := fun eh hq =>
    S.name (eh ▸ fl6.1) (eh ▸ u06) x2 PyProof.Rows.Boot.«TypeError» (by decide) hq hk n2 (by decide)
  have nA : ∀ {s' : Shared} {Q' E' : Value → Shared → Prop}, s'.heap = h6 → Q' (.type "AttributeError") s' → wpAny (model PR w) ((A₁.deeper (envX cn sc L a cd cl)).mark (some (.ref e2))) (eval (.Name "AttributeError" p2) (envX cn sc L a cd cl)) Q' E' s' := fun eh hq =>
    S.name (eh ▸ fl6.1) (eh ▸ u06) x3 PyProof.Rows.Boot.«AttributeError» (by decide) hq hk n3 (by decide)
  show wpAny _ _ (spliced [(false, eval _ _), (false, eval _ _)]) _ _ _
  repeat (first | refine nT rfl ?_ | refine nA rfl ?_ | wp_step)
  refine ⟨by rw [sizeLine_eq]; show 2 ≤ 16777216; decide, _, rfl, ⟨_, Heap.get?_push_size _ rfl, rfl, _, rfl⟩, ?_, ?_⟩
  · obtain ⟨o, ho, hc⟩ := fl6.there
    exact ⟨o, Heap.get?_push_of_some _ ho, hc⟩
  rw [if_neg (by decide)]
  have fl7 := fly_push { cls := .type "tuple", data := .seq ([Value.type "TypeError"] ++ ([Value.type "AttributeError"] ++ [])).toArray } fl6
  have u67 : h6.UpToSlots (h6.push { cls := .type "tuple", data := .seq ([Value.type "TypeError"] ++ ([Value.type "AttributeError"] ++ [])).toArray }) := Heap.UpToSlots.of_keeps fun b o e => Heap.get?_push_of_some _ e
  refine wpAny_handleBy_nil ?_
  refine pass_on (s := ⟨_, _, _, _, _⟩) rfl fl7 fun h8 hh8 u8 => ?_
  unfold leaving
  refine wpAny_bind (wpAny_noteFrame_againW rfl hh8.2.2.2 ?_)
  refine wpAny_landsW (s := ⟨h8, _, _, _, _⟩) hh8 fun h9 fl9 u9 => ?_
  have u69 := (u67.trans u8).trans u9
  exact hE h9 e2 t2 _ tm ⟨fl9.1, fl9.2.1, fl9.2.2.1.2.2, fl9.2.2.2⟩ bt2 (tup6.of_slots u69) (u06.trans u69)
end
end
section
section
variable {w : World} {A A₀ : Around} {s : Shared} {base h₀ : Heap} {L : Addr} {m mg mb : Str → Option Value} {news : List (Addr × Obj)} {p : Program} {K : Frag} {loose : List Str} {mean : ExcName → Option Value}
    {R : Result → Shared → Prop} {name qual : Str} {params : Arguments} {body : List Stmt} {scope : Scope} {dV kV doc pm cdv ct oc : Value} {an od : Option Addr} {osl : Array (Option Value)} {f : Addr} {args : Args} {binds : List (Str × Value)} {cn : Str} {sc : Scope} {a : Addr} {cd : Value} {cl : List (Str × Addr)} {prog : Program}
/-- into a def that may catch, from the law's own frame (with cells) -/
theorem code_s0 (B : Below A₀ base [] h₀) (F : Fr h₀ L s.heap m) (X₀ : K.In h₀) (N : News h₀ L s.heap news) (T : Top p loose mean mg mb h₀) (hA : A.frames = some [envX cn sc L a cd cl]) (hke : sc.kind = .function)
    (ho : K.lookup f = some ⟨oc, od, .func (fnOf name qual params body scope dV kV doc pm an cdv ct), osl⟩) (hcd : codeIn K cdv qual = true) (hroom : A.depth < recursionLimit)
    (hbind : BindsTo s (fnOf name qual params body scope dV kV doc pm an cdv ct) args binds) (hloc : ∀ y ∈ binds, scope.names.lookup y.1 = some .local)
    (h : ∀ g L' h₁, Fr h₀ L g m → Fr g L' h₁ (fun y => binds.reverse.lookup y) → News g L' h₁ news → Below A base [envX cn sc L a cd cl] g → K.In g → Top p loose mean mg mb g → KtsDicts ([envX cn sc L a cd cl].filterMap (·.frame)) g →
      wpAny (model prog w) (A.deeper (envOf qual scope L' f cdv)) (execs body (envOf qual scope L' f cdv))
        (fun fl s' => LeaveS0 ([envX cn sc L a cd cl].filterMap (·.frame)) h₀ L m g R (match fl with | .ret v => v | _ => .none) s')
        (fun e s' => wpAny (model prog w) (A.deeper (envOf qual scope L' f cdv)) (leaving (envOf qual scope L' f cdv) e) (fun _ s'' => R (.error e) s'') (fun e' s'' => R (.error e') s'') s')
        { s with heap := h₁, toks := s.toks + binds.length })
    (hco : scope.isCoroutine = false) (hgen : scope.isGenerator = false) (hk : scope.kind = .function)
    (hcell : ∀ x ∈ scope.names, x.2 ≠ .cell) : codeAny (model prog w) A (.call (.ref f) args) R s := by
  have X := X₀.keeps F.keep
  refine codeAny_call_def (fd := fnOf name qual params body scope dV kV doc pm an cdv ct) (body := body) (binds := binds) hroom (X _ _ ho) rfl (T.nolimit.keeps F.keep) (codeRec_of X hcd) rfl hbind hcell hloc (fun h₁ hns hk₁ => ?_) hco hgen hk
  obtain ⟨FG, BG, st, _⟩ := groundX (R := R) (env := envX cn sc L a cd cl) B F N hA rfl hke
  have nL₀ : h₀.get? L = none := kts_self F
  obtain ⟨oL, es, ep, hLg, hLd, hLk, hLf⟩ := FG.ns
  have hLg : (hideAll s.heap (news.map (·.1))).get? L = some oL := hLg
  refine wpAny_mono (h _ s.heap.objs.size h₁ FG ⟨hns, fun b o e => hk₁ b o (of_hideAll _ e), Nat.le_of_eq (hideAll_size _ _)⟩
    (fun q hq => ⟨hk₁ _ _ (N q hq).1, Nat.ne_of_lt (Heap.lt_size (N q hq).1), hideAll_none _ (List.mem_map_of_mem hq)⟩) BG (X₀.keeps st) (T.keeps st) (fun b hb => ?_)) (fun fl s' hl => ?_) fun _ _ y => y
  · rw [List.mem_singleton.mp (hb : b ∈ [L])]
    exact ⟨oL, es, ep, hLg, hLd⟩
  obtain ⟨g', L', m', news', T', F', N', k⟩ := hl
  obtain ⟨sl, hs⟩ := T'.up hLg
  refine k ⟨⟨_, es, ep, F'.keep _ _ hs, hLd, hLk, hLf⟩, fun b o e => F'.keep b o (T'.other b o (st b o e) (fun q => ?_)), F.above⟩ fun q hq => ⟨(N' q hq).1, fun e => ?_, ?_⟩
  · rw [List.mem_singleton.mp (q : b ∈ [L]), nL₀] at e
    cases e
  · have := (N' q hq).2.2; rw [e, hs] at this; cases this
  · cases e : h₀.get? q.1 with
    | none => rfl
    | some o =>
      obtain ⟨sl', hs'⟩ := T'.up (st _ _ e)
      have := (N' q hq).2.2
      rw [hs'] at this
      cases this
end
section
variable {A₁ : Around} {w : World} {loose : List Str} {mean : ExcName → Option Value} {mg mb : Str → Option Value} {base g G B h' : Heap} {outer : List Env} {L e t : Addr} {m : Str → Option Value} {news : List (Addr × Obj)} {cls : Value} {vs : List Value}
theorem Sit.raised (S : Sit A₁ w loose mean mg mb base g G B outer L m news) (fl : Heap.FlyingW B outer e cls (.ref t) h') (bt : B.get? t = none) (tup : h'.TupAt t vs) : RaisedS base g outer e cls t vs news h' :=
  ⟨⟨B, S.st, fun b o eb nm => S.sg b o (S.F.keep b o eb) fun hm => by
    rcases List.mem_cons.mp hm with rfl | hm
    · rw [kts_self S.F] at eb; cases eb
    · exact nm hm, S.hl, fl, bt⟩, tup⟩
end
end
section
section
variable {w : World} {s : Shared} {Q E : Value → Shared → Prop} {mg mb : Str → Option Value} {loose : List Str} {mean : ExcName → Option Value} {k : Kd} {cn : Str} {sc : Scope} {L a : Addr} {ccd : Value} {cl : List (Str × Addr)} {h₀ : Heap} {m : Str → Option Value} {news : List (Addr × Obj)}
set_option maxHeartbeats 8000000
theorem c_common (hsc : sc.kind = .function) {D : Addr} {vs : List Value} {l0 : List Nat} {ls : List (List Nat)} {ep : Nat} (X : (Mine.hd.heap_1 w.params).In h₀) (T : Top PV loose mean mg mb h₀) (F : Fr h₀ L s.heap m) (N : News h₀ L s.heap ((D, listOf vs.toArray ep) :: news))
    (hv : TxsAre k vs (l0 :: ls)) (okp : ∀ c ∈ l0 :: ls, Ok c) (hmix : (∃ b : Bool, ((l0 :: ls).map fun l => l.head? == some 47).foldl insb [] = [b]) ∨ ((l0 :: ls).map fun l => l.head? == some 47).foldl insb [] = [false, true]) (hn : (l0 :: ls).length ≤ 1000)
    (okJ : ∀ x ∈ ((l0 :: ls).map sp).map (fun l => l.filter good), ∀ y ∈ ((l0 :: ls).map sp).map (fun l => l.filter good), Ok (J (lcp x y)))
    (h : ∀ b x y, ((l0 :: ls).map fun l => l.head? == some 47).foldl insb [] = [b] → x ∈ ((l0 :: ls).map sp).map (fun l => l.filter good) → y ∈ ((l0 :: ls).map sp).map (fun l => l.filter good) →
      Best false (((l0 :: ls).map sp).map (fun l => l.filter good)) (((l0 :: ls).map sp).map (fun l => l.filter good)).length x → Best true (((l0 :: ls).map sp).map (fun l => l.filter good)) (((l0 :: ls).map sp).map (fun l => l.filter good)).length y →
      ∀ t h' tk, Fr h₀ L h' m → News h₀ L h' ((D, listOf vs.toArray ep) :: news) → Q (tx k ((if b then [47] else []) ++ J (lcp x y)) t) { s with heap := h', toks := tk })
    (hM : ((l0 :: ls).map fun l => l.head? == some 47).foldl insb [] = [false, true] → ∀ q tm h' tk, Fr h₀ L h' m → News h₀ L h' ((q, lst [.str "Can't mix absolute and relative paths" tm]) :: (D, listOf vs.toArray ep) :: news) → Q (.ref q) { s with heap := h', toks := tk })
    : wpAny (model PR w) (callerA.deeper (envX cn sc L a ccd cl)) (call (.ref 153) [.ref D]) Q E s := by
  walk_at "mine fill"
  have B := below_caller h₀
  refine wpAny_call ?_
  refine' code_s0 (binds := [("paths", .ref D)]) ?k1 ?k2 ?k3 ?k4 ?k5 ?kA ?kK ?k6 ?k7 ?k8 ?k9 ?kB ?_ ?c2 ?c3 ?c4 ?c5
  walk_at "mine def0"
  intro g' L' h' FG' F' N' B' X' T' D'
  try dsimp only
  try k_lift B'
  try k_fold
  walk_at "mine to map"
  walk_at "mine past map"
  rename TxsAre _ _ _ => hv9
  obtain ⟨t9, vr9, rfl, hvr9⟩ := cons_inv hv9
  have hz9 : (tx k l0 t9 :: vr9).length ≤ 5000 := by have := hv9.length; omega
  walk_at "mine to comp"
  rename ∀ p ∈ _, (_ : Addr) < _ => l1
  rename ∀ p ∈ _, (_ : Addr) ≠ _ => P9
  have ap := Apart2.mk' (o := tup (tx k l0 t9 :: vr9)) l1 P9 ⟨_, .head _⟩ ⟨_, .tail _ (.head _)⟩
  refine cutC k (by assumption) (by assumption) (fun Q' hq => ?_) (fun h' tk o1 o2 t1 t2 F' N' d1 d2 => ?_)
  · cases k
    all_goals (k_steps; exact hq _ _ _ _ _ _ (by assumption) (by assumption) (by assumption) (by assumption))
  k_sweep
  walk_at "mine to comp"
  rename Fr _ _ _ _ => Fa
  refine asg_comp Fa rfl (by with_unfolding_all rfl) (by with_unfolding_all rfl) (by decide) (by rfl) (by decide) (by rfl) (by rfl) (by rfl) (by intro _; rfl) ?_
  walk1
  rename Fr _ _ _ _ => Fb
  rename News _ _ _ _ => Nb
  refine grow_tup (ls := l0 :: ls) (k := k) sp rfl Fb Nb (.head _) hv9 (by simpa using hz9) ?_ ?_
  · intro c t I oI C oC Dd oA own m₂ h tk E' hc hC hx F9 N9 off
    have okc := okp c hc
    try simp only [List.cons_append] at N9
    k_steps
    exact .mk (by assumption) (by assumption) (by assumption) (by assumption)
  · intro g3 D3 rs own hl o1 h3 tk3 F3 N3
    try simp only [List.cons_append] at N3
    k_steps
    rename Fr _ _ _ _ => Fc
    refine eval_comp Fc .set rfl rfl (fun s' Q' => new_set) (by with_unfolding_all rfl) (by decide) (by rfl) (by decide) (by rfl) (by intro _; rfl) ?_
    walk1
    rename Fr _ _ _ _ => Fd
    rename News _ _ _ _ => Nd
    refine set_tup (ls := l0 :: ls) (k := k) (fun l => l.head? == some 47) rfl Fd Nd (by k_mem) hv9 ?_ ?_
    · intro c t I oI C oC Dd oA m₂ h tk E' hc hC hx F9 N9 off
      have okc := okp c hc
      k_steps
      exact .mk (by assumption) (by assumption)
    · intro g4 D4 bs ep4 hB hbs o4 h4 tk4 F4 N4
      k_steps
      rename News _ _ _ _ => Ne
      rename Fr _ _ _ _ => Fe
      rcases hmix with ⟨b, hb⟩ | hmix
      · rw [hb] at hbs
        subst hbs
        k_dflt (refine assign_one rfl Ne (by k_mem) fun h5 K5 => ?_)
        have F5 := Fr.keeps Fe K5
        have N5 := News.grown Ne K5
        clear Fe Ne K5
        k_sweep
        walk_at "mine to comp"
        rename Fr _ _ _ _ => Fg
        refine asg_comp Fg rfl (by with_unfolding_all rfl) (by with_unfolding_all rfl) (by decide) (by rfl) (by decide) (by rfl) (by rfl) (by rfl) (by intro _; rfl) ?_
        walk1
        rename Fr _ _ _ _ => Fi
        rename News _ _ _ _ => Ni
        refine grow_lst (own0 := own) (lss := (l0 :: ls).map sp) (fun l => l.filter good) rfl Fi Ni (by k_mem) (fun p hp => by simp [hp]) hl (by rw [hl.length, List.length_map]; omega) ?_ ?_
        · intro a5 vs5 ls5 ep5 I oI C oC Dd oA own5 m₂ h tk E' hls hma hvs5 hC hx F9 N9 off
          obtain ⟨c5, hc5, rfl⟩ := List.mem_map.mp hls
          have ok5 := (okp c5 hc5).sp
          refine eval_comp F9 .list rfl rfl (fun s' Q' => new_list) (by with_unfolding_all rfl) (by decide) (by rfl) (by decide) (by rfl) (by intro _; rfl) ?_
          walk1
          rename Fr _ _ _ _ => Fj
          rename News _ _ _ _ => Nj
          refine filt_lst (ls := sp c5) (k := k) good rfl Fj Nj (.tail _ (.tail _ (.tail _ (List.mem_append_left _ hma)))) hvs5 (by have := sp_count c5; have := (okp c5 hc5).len; omega) ?_ ?_ ?_
          · intro c t I1 oI1 C1 oC1 Dd1 oA1 m₃ h6 tk6 E6 hc hC1 hx1 F6 N6
            have okc := ok5 c hc
            try simp only [List.cons_append] at N6
            by_cases h0 : c = []
            · subst h0
              have e0 : (([] : List Nat) != []) = false := rfl
              rw [show good [] = false from rfl]
              k_steps
              exact .mk (by assumption) (by assumption)
            · have e0 : (c != []) = true := bne_iff_ne.mpr h0
              by_cases h1 : c = [46]
              · subst h1
                have e1 : (([46] : List Nat) != [46]) = false := rfl
                rw [show good [46] = false from rfl]
                k_steps
                exact .mk (by assumption) (by assumption)
              · have e1 : (c != [46]) = true := bne_iff_ne.mpr h1
                rw [show good c = true by unfold good; rw [e0, e1]; rfl]
                k_steps
                exact .mk (by assumption) (by assumption)
          · intro c t I1 oI1 C1 oC1 Dd1 oA1 m₃ h6 tk6 E6 hc hC1 hx1 F6 N6
            try simp only [List.cons_append] at N6
            k_steps
            exact .mk (by assumption) (by assumption)
          · intro g6 D6 us6 n6 hus6 o6 h6 tk6 F6 N6
            exact .mk F6 N6 (off1_mem o6) hus6
        · intro g6 D6 rs6 own6 hl6 o6 h6 tk6 F6 N6
          try simp only [List.cons_append] at N6
          k_steps
          have okm : ∀ x ∈ ((l0 :: ls).map sp).map (fun l => l.filter good), ∀ l ∈ x, Ok l := by
            intro x hx l hlx
            obtain ⟨y, hy, rfl⟩ := List.mem_map.mp hx
            obtain ⟨z, hz, rfl⟩ := List.mem_map.mp hy
            exact (okp z hz).sp l (List.mem_filter.mp hlx).1
          rename Fr _ _ _ _ => Fk
          rename News _ _ _ _ => Nk
          k_dflt (refine r_mm false (by rfl) (by first | ktr_units | (simp only [units_deeper, units_caller]; decide)) (isL Nk (by k_mem)) (hl6.lls (fun p hp => (Nk p (by simp [hp])).1) okm) (by simp) ?_)
          intro a1 vs1 ls1 ep1 h7 tk7 e1 hv1 ok1 mem1 best1 K7
          have F7 := Fr.keeps Fk K7
          have N7 := News.grown Nk K7
          clear Fk Nk K7
          k_sweep
          k_steps
          rename Fr _ _ _ _ => Fl
          rename News _ _ _ _ => Nl
          k_dflt (refine r_mm true (by rfl) (by first | ktr_units | (simp only [units_deeper, units_caller]; decide)) (isL Nl (by k_mem)) (hl6.lls (fun p hp => (Nl p (by simp [hp])).1) okm) (by simp) ?_)
          intro a2 vs2 ls2 ep2 h8 tk8 e2 hv2 ok2 mem2 best2 K8
          have F8 := Fr.keeps Fl K8
          have N8 := News.grown Nl K8
          clear Fl Nl K8
          k_sweep
          walk_at "mine to for"
          have lgle : ∀ x ∈ ((l0 :: ls).map sp).map (fun l => l.filter good), x.length ≤ 1001 := by
            intro x hx
            obtain ⟨y, hy, rfl⟩ := List.mem_map.mp hx
            obtain ⟨z, hz, rfl⟩ := List.mem_map.mp hy
            have e3 := (okp z hz).len
            have e4 := sp_count z
            exact Nat.le_trans (List.length_filter_le _ _) (by omega)
          have lx1 := lgle _ mem1
          have lx2 := lgle _ mem2
          have hz1 : vs1.length ≤ 5000 := by have := hv1.length; omega
          have hz2 : vs2.length ≤ 5000 := by have := hv2.length; omega
          have hm1 := e1.2
          have hm2 := e2.2
          rename Fr _ _ _ _ => Fm
          rename News _ _ _ _ => Nm
          refine cutE k (lcp ls1 ls2) Fm Nm (fun Q' hq => ?_) (fun h' tk u1 u2 ac us ep F' N' hus => ?_)
          · (with_unfolding_all refine' For_turns Fm ?_)
            repeat' (first | ((fail_if_success (with_reducible show wpAny _ _ (call (Value.type "enumerate") _) _ _ _)); first | (k_unfold; (try dsimp only)) | walk1 | (dsimp only; walk1)) | fail "no step")
            rename Fr _ _ _ _ => Fn
            rename News _ _ _ _ => Nn
            refine r_enum (fun i => ∀ j, j < i → ls1[j]? = ls2[j]?) (by rfl) Fn Nn (by walk_at "mine mem") (fun _ hj => absurd hj (Nat.not_lt_zero _)) ?_ ?_
            · intro I i v hI hv hJ u1 u2 T9 t9 h9 tk9 oE oI hT F9 N9
              obtain ⟨c, tc, hc, hvc⟩ := hv1.at_ i (List.getElem?_eq_some_iff.mp hv).1
              rw [hv] at hvc
              cases hvc
              cases hd : ls2[i]? with
              | none =>
                have q1 := least_long _ _ _ _ hJ hc hd
                obtain ⟨j, hj, hj2⟩ := List.getElem_of_mem mem2
                rw [best1 j ls2 hj (by rw [List.getElem?_eq_getElem hj, hj2])] at q1
                cases q1
              | some d =>
                obtain ⟨td, hvd⟩ := hv2.get i d hd
                have okc := ok1 c (List.mem_of_getElem? hc)
                have okd := ok2 d (List.mem_of_getElem? hd)
                by_cases hcd : c = d
                · have e5 : (c != d) = false := by simp [hcd]
                  k_steps
                  rename Fr _ _ _ _ => Fp
                  rename News _ _ _ _ => Np
                  refine .next (fun j hj => ?_) (mIC_set Fp) Np
                  rcases Nat.lt_succ_iff_lt_or_eq.mp hj with hj | rfl
                  · exact hJ j hj
                  · rw [hc, hd, hcd]
                · have e5 : (c != d) = true := bne_iff_ne.mpr hcd
                  k_steps
                  rename Fr _ _ _ _ => Fp
                  rename News _ _ _ _ => Np
                  k_dflt (refine q_upto (s := ⟨_, _, _, _, _⟩) Fp Np (by walk_at "mine mem") hz1 ?_)
                  intro Dc hc' Fq Nq _
                  k_sweep
                  k_steps
                  refine .brk ?_
                  rename Fr _ _ _ _ => Fr'
                  rename News _ _ _ _ => Nr
                  rw [lcp_cut _ _ _ _ _ hJ hc hd hcd] at hq
                  refine hq _ _ _ _ _ (vs1.take i) 0 (hv1.take i) (mIC_com Fr') ?_
                  intro p hp
                  rcases List.mem_cons.mp hp with rfl | hp
                  · exact Nr _ (.head _)
                  · exact Nr _ (.tail _ (.tail _ (.tail _ hp)))
            · intro u1 u2 h9 tk9 hJ F9 N9
              rw [hv1.length] at hJ
              rw [lcp_all _ _ hJ] at hq
              refine hq h9 tk9 u1 u2 a1 vs1 ep1 hv1 ?_ ?_
              · exact mIC_same rfl F9
              · intro p hp
                rcases List.mem_cons.mp hp with rfl | hp
                · exact N9 _ (by walk_at "mine mem")
                · exact N9 _ hp
          · have okl : ∀ p ∈ lcp ls1 ls2, Ok p := by
              obtain ⟨i, ei⟩ := lcp_sub ls1 ls2
              rw [ei]
              exact fun p hp => ok1 p (List.mem_of_mem_take hp)
            have lnl : (lcp ls1 ls2).length ≤ 2000 := by
              obtain ⟨i, ei⟩ := lcp_sub ls1 ls2
              rw [ei, List.length_take]
              omega
            have okJ' := okJ _ mem1 _ mem2
            k_sweep
            walk1
            rename Fr _ _ _ _ => Fq
            rename News _ _ _ _ => Nq
            refine cut1 k "prefix" (if b then [47] else []) Fq Nq (fun Q' hq => ?_) (fun h' tk tp F' N' => ?_)
            · have e6 : ([47].drop ((none : Option Int).elim 0 (clipAt [47].length))).take ((some (0 : Int)).elim [47].length (clipAt [47].length) - (none : Option Int).elim 0 (clipAt [47].length)) = ([] : List Nat) := rfl
              cases b
              · k_steps
                exact hq _ _ _ (by assumption) (by assumption)
              · k_steps
                exact hq _ _ _ (by assumption) (by assumption)
            · have okpr : Ok (if b then [47] else []) := by cases b <;> exact ⟨by decide, by decide⟩
              k_sweep
              k_steps
              rename Fr _ _ _ _ => Fz
              rename News _ _ _ _ => Nz
              refine h b ls1 ls2 hb mem1 mem2 best1 best2 _ _ _ Fz ?_
              intro p hp
              rcases List.mem_cons.mp hp with rfl | hp
              · exact Nz _ (by walk_at "mine mem")
              · exact Nz _ (by walk_at "mine mem")
      · rw [hmix] at hbs
        subst hbs
        k_dflt (refine assign_two rfl Ne (by k_mem) fun h5 K5 => ?_)
        have F5 := Fr.keeps Fe K5
        have N5 := News.grown Ne K5
        clear Fe Ne K5
        k_sweep
        refine wpAny_raiseErrorMade plainExc_ValueError (by rfl) (fun h6 tk6 e6 hx6 => ?_) (by rw [PySem.ofString_length, sizeLine_eq]; decide +kernel)
        have S := Sit.mk' zBY F5 N5 X T
        with_unfolding_all refine mix_flow S rfl rfl rfl rfl rfl (by k_is) (by k_is) (by k_is) hx6 (by passes_own) (fun _ _ h => h) ?_
        intro h7 e7 t7 tk7 tm7 fl7 bt7 tup7 u7
        have R7 := S.raised fl7 bt7 tup7
        have U7 : Heap.UpToSlots zgY h7 := (Heap.UpToSlots.of_keeps F5.keep).trans u7
        refine caught_SB (T' := "ValueError") R7 zFGY B' U7 X T D' KtsTurn.refl (by k_is) PyProof.Rows.Boot.«ValueError» (by decide) PySem.F.isExc_ValueError PySem.F.notTuple_ValueError (by rw [isSubtype_type]; kernel_rfl) ?_
        intro h8 g8 news8 tk8 T8 F8 N8 G8 Nl8 K8 X8 P8 D8
        have N9 : News g8 L' h8 ((D, listOf vs.toArray ep) :: (news ++ news8)) := by
          intro p hp
          rcases List.mem_cons.mp hp with rfl | hp
          · exact Nl8 _ (by walk_at "mine mem")
          · rcases List.mem_append.mp hp with hp | hp
            · exact Nl8 _ (by walk_at "mine mem")
            · exact N8 _ hp
        clear Nl8
        have hgot := fun {Q' E' : Value → Shared → Prop} (A' : Around) (hu : A'.units + 2 < cLine) (gn : Array GenState) (dr : Drawn) (tt : Nat) (oo : OsState) (hq : Q' (.str "Can't mix absolute and relative paths" tm7) ⟨h8, gn, dr, tt, oo⟩) => str_got_one (prog := PR) (w := w) (A := A') (E := E') PySem.F.excStr_ValueError N8 G8 hu hq
        clear N8 N5 F5 S R7 U7
        k_sweep
        repeat' (first | ((fail_if_success (with_reducible show wpAny _ _ (call (Value.type "str") _) _ _ _)); first | (k_unfold; (try dsimp only)) | walk1 | (dsimp only; walk1)) | fail "no step")
        k_dflt (refine hgot _ (by first | ktr_units | (simp only [Around.mark_units, units_deeper, units_caller]; decide)) _ _ _ _ ?_)
        clear hgot
        k_steps
        rename Fr _ _ _ _ => Fz
        rename News _ _ _ _ => Nz
        refine hM hmix _ tm7 _ _ Fz ?_
        intro p hp
        rcases List.mem_cons.mp hp with rfl | hp
        · exact Nz _ (by walk_at "mine mem")
        · rcases List.mem_cons.mp hp with rfl | hp
          · exact Nz _ (by walk_at "mine mem")
          · exact Nz _ (by walk_at "mine mem")
end
end
section
section
variable {M : Model} {A₁ : Around} {E : Value → Shared → Prop} {w : World} {loose : List Str} {mean : ExcName → Option Value} {mg mb : Str → Option Value} {base g G B : Heap} {outer : List Env} {L a e : Addr} {m : Str → Option Value} {news : List (Addr × Obj)} {vs : List Value} {cn : Str} {sc : Scope} {cd : Value} {cl : List (Str × Addr)} {s : Shared} {Q : Unit → Shared → Prop} {cls : String}
theorem out_made (S : Sit A₁ w loose mean mg mb base g G B outer L m news) (hBe : B = hideAll G (L :: outer.filterMap (·.frame))) (hk : sc.kind = .function) (hx : Heap.MadeExc G s.heap e cls vs)
    (hE : ∀ h' t, Heap.FlyingW B outer e (.type cls) (.ref t) h' → B.get? t = none → h'.TupAt t vs → G.UpToSlots h' → Q () { s with heap := h' }) : wpAny M (A₁.deeper (envX cn sc L a cd cl)) (leaving (envX cn sc L a cd cl) (.ref e)) Q E s :=
  wpAny_leaves_madeW (Around.frames_deeper S.K.stack) rfl S.sB (S.frames hk hBe) (Heap.MadeExc.of hx) fun h' t x1 x2 x3 x4 => hE h' t x1 x3 x2 ((Heap.UpToSlots.of_keeps hx.keeps).trans x4)
end
section
variable {w : World} {s : Shared} {Q E : Value → Shared → Prop} {mg mb : Str → Option Value} {loose : List Str} {mean : ExcName → Option Value} {cn : Str} {sc : Scope} {L a : Addr} {ccd : Value} {cl : List (Str × Addr)} {h₀ : Heap} {m : Str → Option Value} {news : List (Addr × Obj)}
set_option maxHeartbeats 8000000
theorem c_empty (hsc : sc.kind = .function) {D : Addr} {ep : Nat} {k : Kd} {vs : List Value} (hv : TxsAre k vs []) (X : (Mine.hd.heap_1 w.params).In h₀) (T : Top PV loose mean mg mb h₀) (F : Fr h₀ L s.heap m) (N : News h₀ L s.heap ((D, listOf vs.toArray ep) :: news))
    (hM : ∀ q tm h' tk, Fr h₀ L h' m → News h₀ L h' ((q, lst [.str "commonpath() arg is an empty sequence" tm]) :: (D, listOf vs.toArray ep) :: news) → Q (.ref q) { s with heap := h', toks := tk })
    : wpAny (model PR w) (callerA.deeper (envX cn sc L a ccd cl)) (call (.ref 153) [.ref D]) Q E s := by
  walk_at "mine fill"
  have B := below_caller h₀
  have hn : ([] : List (List Nat)).length ≤ 1000 := by decide
  have okp : ∀ c ∈ ([] : List (List Nat)), Ok c := fun _ h => (nomatch h)
  refine wpAny_call ?_
  refine' code_s0 (binds := [("paths", .ref D)]) ?k1 ?k2 ?k3 ?k4 ?k5 ?kA ?kK ?k6 ?k7 ?k8 ?k9 ?kB ?_ ?c2 ?c3 ?c4 ?c5
  walk_at "mine def0"
  intro g' L' h' FG' F' N' B' X' T' D'
  try dsimp only
  try k_lift B'
  try k_fold
  walk_at "mine to map"
  walk_at "mine past map"
  rename TxsAre _ _ _ => hv9
  cases hv9
  have hz9 : ([] : List Value).length ≤ 5000 := by decide
  repeat' (first | ((fail_if_success (with_reducible show wpAny _ _ (exec (Stmt.Raise _ _ _) _) _ _ _)); first | (k_unfold; (try dsimp only)) | walk1 | (dsimp only; walk1)) | fail "no step")
  rename Fr _ _ _ _ => F5
  rename News _ _ _ _ => N5
  refine wpAny_Raise_call PySem.F.excCall_ValueError PySem.F.excRaise_ValueError rfl rfl ?_
  walk1
  refine ⟨rfl, ?_⟩
  repeat wp_step
  refine ⟨rfl, by rw [sizeLine_eq]; show 1 ≤ 16777216; decide, fun h6 e6 hx5 => ?_⟩
  obtain ⟨tm7, hx6⟩ : ∃ tm, Heap.MadeExc _ h6 e6 "ValueError" [.str "commonpath() arg is an empty sequence" tm] := ⟨_, hx5⟩
  have S := Sit.mk' zBY F5 N5 X T
  with_unfolding_all refine out_made S rfl rfl hx6 ?_
  intro h7 t7 fl7 bt7 tup7 u7
  have R7 := S.raised fl7 bt7 tup7
  have U7 : Heap.UpToSlots zgY h7 := (Heap.UpToSlots.of_keeps F5.keep).trans u7
  refine caught_SB (T' := "ValueError") R7 zFGY B' U7 X T D' KtsTurn.refl (by k_is) PyProof.Rows.Boot.«ValueError» (by decide) PySem.F.isExc_ValueError PySem.F.notTuple_ValueError (by rw [isSubtype_type]; kernel_rfl) ?_
  intro h8 g8 news8 tk8 T8 F8 N8 G8 Nl8 K8 X8 P8 D8
  have N9 : News g8 L' h8 ((D, listOf vs.toArray ep) :: (news ++ news8)) := by
    intro p hp
    rcases List.mem_cons.mp hp with rfl | hp
    · exact Nl8 _ (by walk_at "mine mem")
    · rcases List.mem_append.mp hp with hp | hp
      · exact Nl8 _ (by walk_at "mine mem")
      · exact N8 _ hp
  clear Nl8
  have hgot := fun {Q' E' : Value → Shared → Prop} (A' : Around) (hu : A'.units + 2 < cLine) (gn : Array GenState) (dr : Drawn) (tt : Nat) (oo : OsState) (hq : Q' (.str "commonpath() arg is an empty sequence" tm7) ⟨h8, gn, dr, tt, oo⟩) => str_got_one (prog := PR) (w := w) (A := A') (E := E') PySem.F.excStr_ValueError N8 G8 hu hq
  clear N8 N5 F5 S R7 U7
  k_sweep
  repeat' (first | ((fail_if_success (with_reducible show wpAny _ _ (call (Value.type "str") _) _ _ _)); first | (k_unfold; (try dsimp only)) | walk1 | (dsimp only; walk1)) | fail "no step")
  k_dflt (refine hgot _ (by first | ktr_units | (simp only [Around.mark_units, units_deeper, units_caller]; decide)) _ _ _ _ ?_)
  clear hgot
  k_steps
  rename Fr _ _ _ _ => Fz
  rename News _ _ _ _ => Nz
  refine hM _ tm7 _ _ Fz ?_
  intro p hp
  rcases List.mem_cons.mp hp with rfl | hp
  · exact Nz _ (by walk_at "mine mem")
  · rcases List.mem_cons.mp hp with rfl | hp
    · exact Nz _ (by walk_at "mine mem")
    · exact Nz _ (by walk_at "mine mem")
end
end
section
/-! blocks whose items are plain values, told place by place -/
inductive EltR (h₀ : Heap) (L : Addr) (m : Str → Option Value) (s₁ : Shared) (all : List (Addr × Obj)) (R : Value → Prop) : Value → Shared → Prop
  | mk {h' tk v} : R v → Fr h₀ L h' m → News h₀ L h' all → EltR h₀ L m s₁ all R v { s₁ with heap := h', toks := tk }
/-- the items so far -/
def MJ (R : Nat → Value → Prop) (news : List (Addr × Obj)) (i : Nat) (oA : Obj) (nw : List (Addr × Obj)) : Prop := nw = news ∧ ∃ (us : List Value) (n : Nat), oA = listOf us.toArray n ∧ us.length = i ∧ ∀ j v, us[j]? = some v → R j v
theorem map_turn {prog : Program} {w : World} {A : Around} {h₀ : Heap} {L : Addr} {m : Str → Option Value} {env : Env} {elt : Expr} {x : Str} {scope : Scope} {cl : List (Str × Addr)} {n : Nat} {P R : Nat → Value → Prop} {news : List (Addr × Obj)} {s₂ : Shared} (hsz : n ≤ 5000)
    (helt : ∀ i v I oI C oC Dd oA m₂ h tk (E' : Value → Shared → Prop), i < n → P i v → LCg.NsObj oC m₂ → m₂ x = some v → Fr h₀ L h m → News h₀ L h ((I, oI) :: (C, oC) :: (Dd, oA) :: news) →
      wpAny (model prog w) A (eval elt (compEnvC scope cl C env)) (EltR h₀ L m { s₂ with heap := h, toks := tk } ((I, oI) :: (C, oC) :: (Dd, oA) :: news) (R i)) E' { s₂ with heap := h, toks := tk }) :
    CTurn prog w A h₀ L m env elt x [] scope cl "list.append" n P (MJ R news) s₂ := by
  rintro i v I oI C oC Dd oA m₂ news₁ h tk E' hi hv ⟨rfl, us, n', rfl, hlen, hR⟩ hC hx F N off ne
  refine wpAny_tests_nil ?_
  rw [if_pos rfl]
  refine wpAny_mono (helt i v I oI C oC Dd _ m₂ h tk E' hi hv hC hx F N) (fun y s₄ h₄ => ?_) fun _ _ e => e
  cases h₄ with
  | @mk h' tk' _ hy F' N' =>
    have U : Upd Dd (listOf us.toArray n') (listOf (us ++ [y]).toArray (n' + 1)) ((I, oI) :: (C, oC) :: (Dd, listOf us.toArray n') :: news₁) ((I, oI) :: (C, oC) :: (Dd, listOf (us ++ [y]).toArray (n' + 1)) :: news₁) :=
      .tail ne.2.1 (.tail ne.2.2 (.head fun p hp => (off.mem p hp).2.2))
    refine r_append F' N' U (by omega) fun h₅ F₅ N₅ => ?_
    refine .mk F₅ N₅ off ⟨rfl, us ++ [y], n' + 1, rfl, by rw [List.length_append, List.length_singleton, hlen], fun j u hj => ?_⟩
    by_cases hji : j < us.length
    · rw [List.getElem?_append_left hji] at hj
      exact hR j u hj
    · rw [List.getElem?_append_right (Nat.le_of_not_lt hji)] at hj
      have hj0 : j - us.length = 0 := by
        have := (List.getElem?_eq_some_iff.mp hj).1
        simpa using this
      rw [hj0] at hj
      have hji' : j = i := by omega
      rw [hji', ← Option.some.inj hj]
      exact hy
section
variable {prog : Program} {w : World} {A : Around} {E : Value → Shared → Prop} {s : Shared} {h₀ : Heap} {L : Addr} {m : Str → Option Value} {env : Env}
theorem map_lst {elt : Expr} {x : Str} {scope : Scope} {cl : List (Str × Addr)} {K : Shared → Addr → Obj → List (Addr × Obj) → Prop} {D : Addr} {vs : List Value} {ep : Nat} {news : List (Addr × Obj)} (R : Nat → Value → Prop)
    (hh : A.handled = none) (F : Fr h₀ L s.heap m) (N : News h₀ L s.heap news) (hm : (D, listOf vs.toArray ep) ∈ news) (hsz : vs.length ≤ 5000)
    (helt : ∀ i v I oI C oC Dd oA m₂ h tk (E' : Value → Shared → Prop), vs[i]? = some v → LCg.NsObj oC m₂ → m₂ x = some v → Fr h₀ L h m → News h₀ L h ((I, oI) :: (C, oC) :: (Dd, oA) :: news) →
      wpAny (model prog w) A (eval elt (compEnvC scope cl C env)) (EltR h₀ L m { s with heap := h, toks := tk } ((I, oI) :: (C, oC) :: (Dd, oA) :: news) (R i)) E' { s with heap := h, toks := tk })
    (done : ∀ h D' (us : List Value) n, us.length = vs.length → (∀ j v, us[j]? = some v → R j v) → LCg.Off1 D' news → K { s with heap := h } D' (listOf us.toArray n) news) :
    wpAny (model prog w) A (pyIter (.ref D)) (CompAt prog w A h₀ L m env elt x [] scope cl "list.append" (fun o => o = lst []) K) E s := by
  refine at_lst (MJ R news) hh F N hm ?_ ?_ (fun g => map_turn hsz fun i v I oI C oC Dd oA m₂ h tk E' hi hv hC hx F N => helt i v I oI C oC Dd oA m₂ h tk E' hv hC hx F N) ?_
  · rintro i oA nw ⟨rfl, _⟩; exact hm
  · rintro o rfl; exact ⟨rfl, [], 0, rfl, rfl, fun j v h => by simp at h⟩
  · rintro h D' oA nw ⟨rfl, us, n, rfl, hl, hR⟩ o1; exact done h D' us n hl hR o1
theorem map_rng {elt : Expr} {x : Str} {scope : Scope} {cl : List (Str × Addr)} {K : Shared → Addr → Obj → List (Addr × Obj) → Prop} {r : Addr} {a b : Int} {t u v : Tok} {n : Nat} {news : List (Addr × Obj)} (R : Nat → Value → Prop)
    (hh : A.handled = none) (F : Fr h₀ L s.heap m) (N : News h₀ L s.heap news) (hr : IsRange s.heap r a b 1 t u v) (hsm : Builtin.Range.small a b 1 = true) (hn : Builtin.Range.rangeSize a b 1 = ((n : Nat) : Int)) (hsz : n ≤ 5000)
    (helt : ∀ i t I oI C oC Dd oA m₂ h tk (E' : Value → Shared → Prop), i < n → LCg.NsObj oC m₂ → m₂ x = some (.int (a + (i : Int)) t) → Fr h₀ L h m → News h₀ L h ((I, oI) :: (C, oC) :: (Dd, oA) :: news) →
      wpAny (model prog w) A (eval elt (compEnvC scope cl C env)) (EltR h₀ L m { s with heap := h, toks := tk } ((I, oI) :: (C, oC) :: (Dd, oA) :: news) (R i)) E' { s with heap := h, toks := tk })
    (done : ∀ h D' (us : List Value) n', us.length = n → (∀ j v, us[j]? = some v → R j v) → LCg.Off1 D' news → K { s with heap := h } D' (listOf us.toArray n') news) :
    wpAny (model prog w) A (pyIter (.ref r)) (CompAt prog w A h₀ L m env elt x [] scope cl "list.append" (fun o => o = lst []) K) E s := by
  refine at_rng (MJ R news) hh F N hr hsm hn ?_ (fun g => map_turn hsz fun i v I oI C oC Dd oA m₂ h tk E' hi hv hC hx F N => ?_) ?_
  · rintro o rfl; exact ⟨rfl, [], 0, rfl, rfl, fun j v h => by simp at h⟩
  · obtain ⟨t, rfl⟩ := hv
    exact helt i t I oI C oC Dd oA m₂ h tk E' hi hC hx F N
  · rintro h D' oA nw ⟨rfl, us, n, rfl, hl, hR⟩ o1; exact done h D' us n hl hR o1
theorem map_txt {elt : Expr} {x : Str} {scope : Scope} {cl : List (Str × Addr)} {K : Shared → Addr → Obj → List (Addr × Obj) → Prop} {l : List Nat} {t : Tok} {news : List (Addr × Obj)} (R : Nat → Value → Prop)
    (hh : A.handled = none) (F : Fr h₀ L s.heap m) (N : News h₀ L s.heap news) (hsz : l.length ≤ 5000)
    (helt : ∀ i c t I oI C oC Dd oA m₂ h tk (E' : Value → Shared → Prop), l[i]? = some c → LCg.NsObj oC m₂ → m₂ x = some (.str ⟨#[c]⟩ t) → Fr h₀ L h m → News h₀ L h ((I, oI) :: (C, oC) :: (Dd, oA) :: news) →
      wpAny (model prog w) A (eval elt (compEnvC scope cl C env)) (EltR h₀ L m { s with heap := h, toks := tk } ((I, oI) :: (C, oC) :: (Dd, oA) :: news) (R i)) E' { s with heap := h, toks := tk })
    (done : ∀ h D' (us : List Value) n, us.length = l.length → (∀ j v, us[j]? = some v → R j v) → LCg.Off1 D' news → K { s with heap := h } D' (listOf us.toArray n) news) :
    wpAny (model prog w) A (pyIter (tx .s l t)) (CompAt prog w A h₀ L m env elt x [] scope cl "list.append" (fun o => o = lst []) K) E s := by
  have key : ∀ (o : Obj) (St : Nat → Heap → Prop), Walks prog w A s.heap.objs.size [s.heap.objs.size] [s.heap.objs.size] l.toArray.size (SignAt ⟨l.toArray⟩) St → St 0 (s.heap.push o) → (∀ i h, St i h → ∃ o, h.get? s.heap.objs.size = some o) →
      CompAt prog w A h₀ L m env elt x [] scope cl "list.append" (fun o => o = lst []) K (.ref s.heap.objs.size) { s with heap := s.heap.push o } := fun o St W st live => by
    refine ⟨_, _, _, _, _, MJ R news, news, rfl, W, st, fun b hb => ?_, live, fun b hb => .inl (List.mem_singleton.mp hb), F.push _, fun p hp => ⟨Heap.get?_push_of_some _ (N p hp).1, (N p hp).2⟩, Nat.ne_of_lt F.ns.lt, next_is_new F, fun p hp => Nat.ne_of_lt (Heap.lt_size (N p hp).1), ?_, map_turn (by simpa using hsz) fun i v I oI C oC Dd oA m₂ h tk E' hi hv hC hx F N => ?_, ?_⟩
    · rw [List.mem_singleton.mp hb]
      show s.heap.objs.size < (s.heap.push _).objs.size
      rw [Heap.size_push]; exact Nat.lt_succ_self _
    · rintro o rfl; exact ⟨rfl, [], 0, rfl, rfl, fun j v h => by simp at h⟩
    · obtain ⟨c, u, hc, rfl⟩ := hv
      exact helt i c u I oI C oC Dd oA m₂ h tk E' (by simpa using hc) hC hx F N
    · rintro D' oA nw ⟨rfl, us, n, rfl, hl, hR⟩ o1; exact done _ D' us n (by simpa using hl) hR o1
  show wpAny _ _ (pyIter (.str ⟨l.toArray⟩ t)) _ _ _
  cases ha : (⟨l.toArray⟩ : Str).cps.all (· < 128)
  · exact wpAny_pyIter_wide ha (key _ _ (Walks.strWide hh _ _ t) ⟨_, Heap.get?_push_size _ rfl, rfl, rfl⟩ fun i h st => let ⟨o, e, _⟩ := st; ⟨o, e⟩)
  · exact wpAny_pyIter_ascii ha (key _ _ (Walks.strAscii hh _ _ t) ⟨_, Heap.get?_push_size _ rfl, rfl, rfl⟩ fun i h st => let ⟨o, e, _⟩ := st; ⟨o, e⟩)
end
theorem ints_of : ∀ (l : List Nat) (us : List Value), us.length = l.length → (∀ (j : Nat) v, us[j]? = some v → ∃ c t, l[j]? = some c ∧ v = .int (c : Int) t) → IntsAre us (l.map fun (c : Nat) => (c : Int))
  | [], [], _, _ => .nil
  | [], _ :: _, h, _ => by simp at h
  | _ :: _, [], h, _ => by simp at h
  | c :: l, u :: us, h, hR => by
    obtain ⟨c', t, hc, rfl⟩ := hR 0 u rfl
    have hc : c = c' := by simpa using hc
    subst hc
    exact .cons _ _ (ints_of l us (by simpa using h) fun j v hj => by simpa using hR (j + 1) v (by simpa using hj))
theorem bytes_of {prog : Program} {w : World} {A : Around} {E : Value → Shared → Prop} {s : Shared} {h₀ : Heap} {L D : Addr} {m : Str → Option Value} {news : List (Addr × Obj)} {us : List Value} {l : List Nat} {n : Nat} {Q : Value → Shared → Prop} (hh : A.handled = none) (F : Fr h₀ L s.heap m) (N : News h₀ L s.heap news) (hm : (D, listOf us.toArray n) ∈ news) (ok : Ok l) (hl : us.length = l.length) (hR : ∀ (j : Nat) v, us[j]? = some v → ∃ c t, l[j]? = some c ∧ v = .int (c : Int) t)
    (h : ∀ h' t tk, Fr h₀ L h' m → News h₀ L h' news → Q (tx .b l t) { s with heap := h', toks := tk }) : wpAny (model prog w) A (call (.type "bytes") [.ref D]) Q E s := by
  refine bytes_K F N (isL N hm) (ints_of l us hl hR) (fun n hn => ?_) (by rw [hl, sizeLine_eq]; exact Nat.le_trans ok.len (by decide)) hh fun h' t k F' N' _ => ?_
  · obtain ⟨c, hc, rfl⟩ := List.mem_map.mp hn
    have := ok.lt c hc
    omega
  · have e : ((l.map fun (c : Nat) => (c : Int)).map fun n => n.toNat.toUInt8) = bys l := by rw [List.map_map]; rfl
    rw [e]
    exact h h' t k F' N'
theorem txs_of {k : Kd} (f : Nat → List Nat) (n : Nat) (us : List Value) (hl : us.length = n) (hR : ∀ (j : Nat) v, us[j]? = some v → ∃ t, v = tx k (f j) t) : TxsAre k us ((List.range n).map f) := by
  refine TxsAre.of_items _ _ (by simp [hl]) fun j v hj => ?_
  obtain ⟨t, rfl⟩ := hR j v hj
  have hjn : j < n := hl ▸ (List.getElem?_eq_some_iff.mp hj).1
  exact ⟨f j, t, by simp [hjn], rfl⟩
end
section
section
variable {prog : Program} {w : World} {A : Around} {E : Value → Shared → Prop} {s : Shared} {h₀ : Heap} {L : Addr} {m : Str → Option Value} {news : List (Addr × Obj)} {Q : Flow → Shared → Prop} {t : Sem Flow}
theorem cutN (P : Nat → Prop) (a : Str) (_F : Fr h₀ L s.heap m) (_N : News h₀ L s.heap news)
    (h1 : ∀ Q' : Flow → Shared → Prop, (∀ c h' tk t1, P c → Fr h₀ L h' (fun y => if y = a then some (tx .s [c] t1) else m y) → News h₀ L h' news → Q' .next { s with heap := h', toks := tk }) → wpAny (model prog w) A t Q' E s)
    (h2 : ∀ c h' tk t1, P c → Fr h₀ L h' (fun y => if y = a then some (tx .s [c] t1) else m y) → News h₀ L h' news → Q .next { s with heap := h', toks := tk }) : wpAny (model prog w) A t Q E s := h1 Q h2
end
section
variable {prog : Program} {w : World} {A : Around} {E : Value → Shared → Prop} {s : Shared} {h₀ : Heap} {L : Addr} {m : Str → Option Value} {news : List (Addr × Obj)} {Q : Flow → Shared → Prop} {t : Sem Flow}
theorem cutL (c d : Nat) (a : Str) (_F : Fr h₀ L s.heap m) (_N : News h₀ L s.heap news)
    (h1 : ∀ Q' : Flow → Shared → Prop, (∀ B D h' tk ta tb, (B = [c, d] ∨ B = [d, c]) → Fr h₀ L h' (fun y => if y = a then some (.ref D) else m y) → News h₀ L h' [(D, lst [tx .s [c] ta, tx .s B tb])] → Q' .next { s with heap := h', toks := tk }) → wpAny (model prog w) A t Q' E s)
    (h2 : ∀ B D h' tk ta tb, (B = [c, d] ∨ B = [d, c]) → Fr h₀ L h' (fun y => if y = a then some (.ref D) else m y) → News h₀ L h' [(D, lst [tx .s [c] ta, tx .s B tb])] → Q .next { s with heap := h', toks := tk }) : wpAny (model prog w) A t Q E s := h1 Q h2
end
theorem sign_one {n : Int} (h : ([46, 47].any fun x => x == n.fmod 256) = false) : (n.fmod 256).toNat < 256 ∧ (n.fmod 256).toNat ≠ 46 ∧ (n.fmod 256).toNat ≠ 47 := by
  have h0 := fmod_lo n (n := 256) (by decide)
  have h1 := fmod_hi n (n := 256) (by decide)
  simp only [List.any_cons, List.any_nil, Bool.or_false, Bool.or_eq_false_iff, beq_eq_false_iff_ne] at h
  omega
theorem sign_two {n : Int} (h : n.fmod 256 ≠ 47) : (n.fmod 256).toNat < 256 ∧ (n.fmod 256).toNat ≠ 47 := by
  have h0 := fmod_lo n (n := 256) (by decide)
  have h1 := fmod_hi n (n := 256) (by decide)
  omega
theorem txt_x : (Str.ofString "x") = ⟨#[120]⟩ := by decide +kernel
theorem txt_dot : (Str.ofString ".") = ⟨#[46]⟩ := by decide +kernel
/-- the two names -/
structure Nms (c : Nat) (B : List Nat) : Prop where
  c1 : c < 256
  c2 : c ≠ 46
  c3 : c ≠ 47
  b : ∃ d, d < 256 ∧ d ≠ 47 ∧ (B = [c, d] ∨ B = [d, c])
section
variable {w : World} {dp un : Nat} {fr : Option (List Env)} {gd : Option (List Code)} {s : Shared} {Q E : Value → Shared → Prop} {mg mb : Str → Option Value} {loose : List Str} {mean : ExcName → Option Value}
set_option maxHeartbeats 4000000
theorem c_names {n1 n2 : Int} {t1 t2 : Tok} (X : (Mine.hd.heap_1 w.params).In s.heap) (T : Top PV loose mean mg mb s.heap) (hd : dp + 2 < recursionLimit)
    (h : RetN s Q fun o => ∃ k c B us n, Nms c B ∧ o = listOf us.toArray n ∧ TxsAre k us [[c], B]) : wpAny (model PR w) (Ar dp un fr gd) (call (.ref 146) [.int n1 t1, .int n2 t2]) Q E s := by
  walk_at "mine fill"
  refine' enter (binds := [("first", .int n1 t1), ("second", .int n2 t2)]) X T.nolimit ?k6 ?k7 ?k8 ?k9 ?kB ?_ ?c2 ?c3 ?c4 ?c5
  walk_at "mine enter"
  walk_at "mine to asg"
  rename Fr _ _ _ _ => F1
  rename News _ _ _ _ => N1
  refine cutN (fun c => c < 256 ∧ c ≠ 46 ∧ c ≠ 47) "one" F1 N1 (fun Q' hq => ?_) (fun c h' tk tc hc F2 N2 => ?_)
  · k_steps
    · rename Fr _ _ _ _ => F2
      rw [txt_x] at F2
      exact hq 120 _ _ _ ⟨by decide, by decide, by decide⟩ F2 (fun _ h => nomatch h)
    · rename Fr _ _ _ _ => F2
      exact hq _ _ _ _ (sign_one (by assumption)) F2 (fun _ h => nomatch h)
  · k_sweep
    walk_at "mine to asg"
    rename Fr _ _ _ _ => F1
    rename News _ _ _ _ => N1
    refine cutN (fun c => c < 256 ∧ c ≠ 47) "two" F1 N1 (fun Q' hq => ?_) (fun d h' tk td hd F3 N3 => ?_)
    · k_steps
      · rename Fr _ _ _ _ => F2
        rw [txt_dot] at F2
        exact hq 46 _ _ _ ⟨by decide, by decide⟩ F2 (fun _ h => nomatch h)
      · rename Fr _ _ _ _ => F2
        rw [txt_dot] at F2
        exact hq 46 _ _ _ ⟨by decide, by decide⟩ F2 (fun _ h => nomatch h)
      · rename Fr _ _ _ _ => F2
        exact hq _ _ _ _ (sign_two (by assumption)) F2 (fun _ h => nomatch h)
    · have okc : Ok [c] := ⟨by simpa using hc.1, by show 1 ≤ 1000; decide⟩
      have okd : Ok [d] := ⟨by simpa using hd.1, by show 1 ≤ 1000; decide⟩
      k_sweep
      walk_at "mine to asg"
      rename Fr _ _ _ _ => F1
      rename News _ _ _ _ => N1
      refine cutL c d "names" F1 N1 (fun Q' hq => ?_) (fun B D h' tk ta tb hB F4 N4 => ?_)
      · k_steps
        · exact hq _ _ _ _ _ _ (.inl rfl) (by assumption) (by assumption)
        · exact hq _ _ _ _ _ _ (.inr rfl) (by assumption) (by assumption)
      · have nB : Nms c B := ⟨hc.1, hc.2.1, hc.2.2, d, hd.1, hd.2, hB⟩
        have okB : Ok B := by rcases hB with rfl | rfl <;> exact ⟨by intro x hx; simp at hx; omega, by show 2 ≤ 1000; decide⟩
        k_sweep
        repeat' (first | ((fail_if_success (with_reducible show wpAny _ _ (exec (Stmt.Return _ _) _) _ _ _)); first | (k_unfold; (try dsimp only)) | walk1 | (dsimp only; walk1)) | fail "no step")
        · repeat' (first | ((fail_if_success (with_reducible show wpAny _ _ (eval (Expr.ListComp _ _ _ _) _) _ _ _)); first | (k_unfold; (try dsimp only)) | walk1 | (dsimp only; walk1)) | fail "no step")
          rename Fr _ _ _ _ => Fa
          rename News _ _ _ _ => Na
          refine eval_comp Fa .list rfl rfl (fun s' Q' => new_list) (by with_unfolding_all rfl) (by decide) (by rfl) (by decide) (by rfl) (by intro _; rfl) ?_
          walk1
          refine map_lst (vs := [tx .s [c] ta, tx .s B tb]) (fun i v => ∃ t, v = tx .b (if i = 0 then [c] else B) t) rfl Fa Na (.head _) (by show 2 ≤ 5000; decide) ?_ ?_
          · intro i v I oI C oC Dd oA m₂ h9 tk9 E' hv hC hx F9 N9
            have hl : ∃ l t, v = tx .s l t ∧ Ok l ∧ l = (if i = 0 then [c] else B) := by
              match i, hv with
              | 0, hv => exact ⟨[c], ta, (Option.some.inj hv).symm, okc, rfl⟩
              | 1, hv => exact ⟨B, tb, (Option.some.inj hv).symm, okB, rfl⟩
              | i + 2, hv => simp at hv
            obtain ⟨l, tl, rfl, okl, hle⟩ := hl
            rw [← hle]
            repeat' (first | ((fail_if_success (with_reducible show wpAny _ _ (eval (Expr.ListComp _ _ _ _) _) _ _ _)); first | (k_unfold; (try dsimp only)) | walk1 | (dsimp only; walk1)) | fail "no step")
            rename Fr _ _ _ _ => Fb
            rename News _ _ _ _ => Nb
            refine eval_comp Fb .list rfl rfl (fun s' Q' => new_list) (by with_unfolding_all rfl) (by decide) (by rfl) (by decide) (by rfl) (by intro _; rfl) ?_
            walk1
            rename Fr _ _ _ _ => Fb'
            rename News _ _ _ _ => Nb'
            refine map_txt (fun j v => ∃ c t, l[j]? = some c ∧ v = .int (c : Int) t) rfl Fb' Nb' (Nat.le_trans okl.len (by decide)) ?_ ?_
            · intro j c1 t1 I1 oI1 C1 oC1 D1 oA1 m₃ h8 tk8 E8 hcj hC1 hx1 F8 N8
              k_steps
              rename Fr _ _ _ _ => Fc
              rename News _ _ _ _ => Nc
              exact .mk ⟨c1, _, hcj, rfl⟩ Fc Nc
            · intro g7 D7 us7 n7 hus7 hR7 o7 h7 tk7 F7 N7
              repeat' (first | ((fail_if_success (with_reducible show wpAny _ _ (call (Value.type "bytes") _) _ _ _)); first | (k_unfold; (try dsimp only)) | walk1 | (dsimp only; walk1)) | fail "no step")
              rename Fr _ _ _ _ => Fc
              rename News _ _ _ _ => Nc
              k_dflt (refine bytes_of rfl Fc Nc (.head _) okl hus7 hR7 ?_)
              intro h5 t5 tk5 F5 N5
              exact .mk ⟨_, rfl⟩ F5 fun p hp => N5 p (.tail _ hp)
          · intro g6 D6 us6 n6 hus6 hR6 o6 h6 tk6 F6 N6
            have hus : TxsAre .b us6 [[c], B] := txs_of (fun j => if j = 0 then [c] else B) 2 us6 hus6 hR6
            k_steps
            exact h _ _ _ _ ⟨.b, c, B, us6, n6, nB, rfl, hus⟩ F6.keep (N6.fresh (.head _)) (N6.get (.head _))
        · k_steps
          rename Fr _ _ _ _ => Fz
          rename News _ _ _ _ => Nz
          exact h _ _ _ _ ⟨.s, c, B, [tx .s [c] ta, tx .s B tb], 0, nB, rfl, .cons (.cons .nil)⟩ Fz.keep (Nz.fresh (.head _)) (Nz.get (.head _))
end
end
section
/-! the plain law over words: no program in sight -/
def nx0 (p : List Bool × List Bool) : List Bool × List Bool := if 2 * p.1.length + p.2.length < 13 then (p.1, p.1 ++ p.2) else p
def nx1 (p : List Bool × List Bool) : List Bool × List Bool := if p.1.length + 2 * p.2.length < 13 then (p.2 ++ p.1, p.2) else p
def reach : Nat → List (List Bool × List Bool)
  | 0 => [([false], [true])]
  | n + 1 => (reach n).flatMap fun p => [nx0 p, nx1 p]
def ones (u : List Bool) : Nat := u.countP id
/-- the middle word, told by whole division -/
def mid0 (n q : Nat) : List Bool := (List.range (n - 2)).map fun j => (j + 2) * q / n - (j + 1) * q / n == 1
def lb (o g : Bool) : List Bool → List Bool → Bool
  | a :: x, b :: y => if a == b then lb o g x y else (if g then (if a then o else !o) else (if a then !o else o))
  | [], y => if g then false else decide (0 < y.length)
  | _ :: _, [] => g
def lcb : List Bool → List Bool → List Bool
  | a :: x, b :: y => if a == b then a :: lcb x y else []
  | _, _ => []
def bestOk (o : Bool) (bs : List (List Bool)) (due : List Bool) : Bool :=
  bs.all fun x => bs.all fun y => !(bs.all fun z => !(lb o false z x)) || !(bs.all fun z => !(lb o true z y)) || lcb x y == due
def chk (p : List Bool × List Bool) : Bool :=
  let (u, v) := p
  let n := u.length + v.length
  let W := mid0 n (ones u + ones v)
  decide (2 ≤ n) && decide (n < 13) && decide (1 ≤ u.length) && decide (1 ≤ v.length) && (u ++ v == W ++ [false, true]) && (v ++ u == W ++ [true, false])
    && ((List.range (n - 2)).all fun j => decide ((j + 1) * (ones u + ones v) / n ≤ (j + 2) * (ones u + ones v) / n) && decide ((j + 2) * (ones u + ones v) / n - (j + 1) * (ones u + ones v) / n ≤ 1))
    && [false, true].all (fun o => bestOk o [u ++ v, v ++ u] W && bestOk o [u ++ v, u, v, v ++ u] (W.take (min u.length v.length)))
theorem chk_all : ((List.range 7).all fun i => (reach i).all chk) = true := by decide +kernel
theorem chk_at {i : Nat} {p : List Bool × List Bool} (hi : i < 7) (h : p ∈ reach i) : chk p = true := by
  have := List.all_eq_true.mp chk_all i (List.mem_range.mpr hi)
  exact List.all_eq_true.mp this p h
/-! the plain law over texts -/
theorem J_app : ∀ {a b : List (List Nat)}, a ≠ [] → b ≠ [] → J (a ++ b) = J a ++ 47 :: J b
  | [], _, h, _ => absurd rfl h
  | [x], [], _, h => absurd rfl h
  | [x], y :: r, _, _ => rfl
  | x :: y :: r, b, _, hb => by
    have := J_app (a := y :: r) (List.cons_ne_nil _ _) hb
    show x ++ 47 :: J ((y :: r) ++ b) = (x ++ 47 :: J (y :: r)) ++ 47 :: J b
    rw [this]; simp
structure Goods (ls : List (List Nat)) : Prop where
  ne : ls ≠ []
  free : ∀ p ∈ ls, 47 ∉ p
  full : ∀ p ∈ ls, p ≠ []
theorem Goods.sp {ls : List (List Nat)} (h : Goods ls) : Mine.sp (J ls) = ls := sp_J h.ne h.free
theorem Goods.J_ne {ls : List (List Nat)} (h : Goods ls) : J ls ≠ [] := fun e => by
  have := h.sp
  rw [e] at this
  exact h.full [] (this ▸ .head _) rfl
theorem Goods.head {ls : List (List Nat)} (h : Goods ls) : (J ls).head? ≠ some 47 := fun e => by
  obtain ⟨r, hr⟩ : ∃ r, J ls = 47 :: r := by
    cases q : J ls with
    | nil => rw [q] at e; cases e
    | cons a r => rw [q] at e; simp at e; exact ⟨r, by rw [e]⟩
  have h1 := h.sp
  rw [hr, show (47 :: r : List Nat) = [] ++ 47 :: r from rfl, sp_cat] at h1
  exact h.full [] (h1 ▸ .head _) rfl
theorem Goods.last {ls : List (List Nat)} (h : Goods ls) : (J ls).getLast? ≠ some 47 := fun e => by
  obtain ⟨r, hr⟩ := List.getLast?_eq_some_iff.mp e
  have h1 := h.sp
  rw [hr, sp_snoc, if_pos rfl] at h1
  exact h.full [] (h1 ▸ List.mem_append_right _ (.head _)) rfl
def junk (g m : Bool) : List Nat := (if g then [47, 47] else [47]) ++ (if m then [46, 47] else [])
def rt (r : Bool) : List Nat := if r then [47] else []
def pth (r g m : Bool) (X Y : List (List Nat)) : List Nat := rt r ++ (J X ++ (junk g m ++ J Y))
theorem jst_root {p b : List Nat} (h : b.head? = some 47) : jst p b = b := by unfold jst; simp [h]
theorem jst_nil (b : List Nat) : jst [] b = b := by unfold jst; simp
theorem jst_end {p b : List Nat} (hb : b.head? ≠ some 47) (hp : p ≠ []) (hl : p.getLast? = some 47) : jst p b = p ++ b := by
  unfold jst
  rw [if_neg (by simp [hb, hp]), hl]
  rfl
theorem jst_mid {p b : List Nat} (hb : b.head? ≠ some 47) (hp : p ≠ []) (hl : p.getLast? ≠ some 47) : jst p b = p ++ ([47] ++ b) := by
  unfold jst
  rw [if_neg (by simp [hb, hp]), if_neg (by simpa using hl)]
theorem head_app {a b : List Nat} (h : a ≠ []) : (a ++ b).head? = a.head? := by cases a with | nil => exact absurd rfl h | cons x r => rfl
theorem last_app {a b : List Nat} (h : b ≠ []) : (a ++ b).getLast? = b.getLast? := by
  rw [List.getLast?_append]
  cases q : b.getLast? with
  | none => rw [List.getLast?_eq_none_iff] at q; exact absurd q h
  | some x => rfl
/-- what join lays -/
theorem jn_pth (r g m : Bool) {X Y : List (List Nat)} (hX : Goods X) (hY : Goods Y) :
    jn (if rt r != [47] then rt r else J Y) [rt r, J X ++ (if g then [47, 47] else []), if m then [46] else [], J Y] = pth r g m X Y := by
  have e1 : jst (if rt r != [47] then rt r else J Y) (rt r) = rt r := by
    cases r
    · exact jst_nil _
    · exact jst_root rfl
  have xne : ∀ b : List Nat, J X ++ b ≠ [] := fun b e => hX.J_ne (List.append_eq_nil_iff.mp e).1
  have hxg : (J X ++ (if g then [47, 47] else [])).head? ≠ some 47 := by rw [head_app hX.J_ne]; exact hX.head
  have e2 : jst (rt r) (J X ++ (if g then [47, 47] else [])) = rt r ++ (J X ++ (if g then [47, 47] else [])) := by
    cases r
    · exact jst_nil _
    · exact jst_end hxg (by simp [rt]) rfl
  have p2 : rt r ++ (J X ++ (if g then [47, 47] else [])) ≠ [] := fun e => xne _ (List.append_eq_nil_iff.mp e).2
  have hm : ((if m then [46] else []) : List Nat).head? ≠ some 47 := by cases m <;> simp
  have e3 : jst (rt r ++ (J X ++ (if g then [47, 47] else []))) (if m then [46] else []) = rt r ++ (J X ++ ((if g then [47, 47] else [47]) ++ (if m then [46] else []))) := by
    cases g
    · rw [jst_mid hm p2 (by rw [last_app (xne _)]; simpa using hX.last)]
      simp
    · rw [jst_end hm p2 (by rw [last_app (xne _), last_app (by simp)]; rfl)]
      simp
  have p3 : rt r ++ (J X ++ ((if g then [47, 47] else [47]) ++ (if m then [46] else []))) ≠ [] := fun e => xne _ (List.append_eq_nil_iff.mp e).2
  have e4 : jst (rt r ++ (J X ++ ((if g then [47, 47] else [47]) ++ (if m then [46] else [])))) (J Y) = pth r g m X Y := by
    cases m
    · rw [jst_end hY.head p3 (by rw [last_app (xne _), last_app (by cases g <;> simp)]; cases g <;> rfl)]
      cases g <;> simp [pth, junk]
    · rw [jst_mid hY.head p3 (by rw [last_app (xne _), last_app (by cases g <;> simp), last_app (by simp)]; simp)]
      cases g <;> simp [pth, junk]
  show jst (jst (jst (jst _ _) _) _) _ = _
  rw [e1, e2, e3, e4]
theorem jn_one (r : Bool) {X : List (List Nat)} (hX : Goods X) : jn (rt r) [J X] = rt r ++ J X := by
  show jst (rt r) (J X) = _
  cases r
  · exact jst_nil _
  · exact jst_end hX.head (by simp [rt]) rfl
theorem jn_two {X Y : List (List Nat)} (hX : Goods X) (hY : Goods Y) : jn (J X) [J Y] = J (X ++ Y) := by
  show jst (J X) (J Y) = _
  rw [jst_mid hY.head hX.J_ne hX.last, J_app hX.ne hY.ne]
  rfl
theorem sp_rest (g m : Bool) {X Y : List (List Nat)} (hX : Goods X) (hY : Goods Y) : sp (J X ++ (junk g m ++ J Y)) = X ++ ((if g then [[]] else []) ++ ((if m then [[46]] else []) ++ Y)) := by
  have a1 : ∀ b : List Nat, sp ([46] ++ 47 :: b) = [46] :: sp b := fun b => by rw [sp_cat]; rfl
  have a0 : ∀ b : List Nat, sp (47 :: b) = [] :: sp b := fun b => by
    have := sp_cat [] b
    exact this
  cases g <;> cases m
  · show sp (J X ++ 47 :: J Y) = _
    rw [sp_cat, hX.sp, hY.sp]; rfl
  · show sp (J X ++ 47 :: ([46] ++ 47 :: J Y)) = _
    rw [sp_cat, a1, hX.sp, hY.sp]; rfl
  · show sp (J X ++ 47 :: (47 :: J Y)) = _
    rw [sp_cat, a0, hX.sp, hY.sp]; rfl
  · show sp (J X ++ 47 :: (47 :: ([46] ++ 47 :: J Y))) = _
    rw [sp_cat, a0, a1, hX.sp, hY.sp]; rfl
theorem filt_all {ls : List (List Nat)} (h : ∀ p ∈ ls, good p = true) : ls.filter good = ls := List.filter_eq_self.mpr h
theorem cmp_rest (g m : Bool) {X Y : List (List Nat)} (hX : Goods X) (hY : Goods Y) (gX : ∀ p ∈ X, good p = true) (gY : ∀ p ∈ Y, good p = true) : cmp (J X ++ (junk g m ++ J Y)) = X ++ Y := by
  unfold cmp
  rw [sp_rest g m hX hY, List.filter_append, List.filter_append, List.filter_append, filt_all gX, filt_all gY]
  cases g <;> cases m <;> rfl
theorem cmp_root (r : Bool) (l : List Nat) : cmp (rt r ++ l) = cmp l := by
  cases r
  · rfl
  · show (sp (47 :: l)).filter good = _
    rw [show (47 :: l : List Nat) = [] ++ 47 :: l from rfl, sp_cat]
    rfl
theorem cmp_J {X : List (List Nat)} (hX : Goods X) (gX : ∀ p ∈ X, good p = true) : cmp (J X) = X := by
  unfold cmp; rw [hX.sp, filt_all gX]
theorem rest_head (g m : Bool) {X : List (List Nat)} (hX : Goods X) (l : List Nat) : (J X ++ (junk g m ++ l)).head? ≠ some 47 := by rw [head_app hX.J_ne]; exact hX.head
theorem rooted (r : Bool) {l : List Nat} (h : l.head? ≠ some 47) : Rooted (rt r ++ l) (rt r) l := by
  cases r
  · exact .none h
  · exact .root h
/-- split, once -/
theorem cut_two (r : Bool) {X : List (List Nat)} {b : List Nat} (hX : Goods X) (hb : 47 ∉ b) : Cut (rt r ++ J (X ++ [b])) (rt r ++ J X ++ [47]) b ∧ Headed (rt r ++ J X ++ [47]) (rt r ++ J X) := by
  refine ⟨⟨by rw [J_app hX.ne (by simp)]; simp [J], hb, .inr ⟨_, rfl⟩⟩, .more (fun e => hX.J_ne (List.append_eq_nil_iff.mp e).2) ?_⟩
  rw [last_app hX.J_ne]; exact hX.last
/-- split of one name behind the root -/
theorem cut_one (r : Bool) {b : List Nat} (hb : 47 ∉ b) : Cut (rt r ++ J [b]) (rt r) b ∧ Headed (rt r) (rt r) := by
  cases r
  · exact ⟨⟨rfl, hb, .inl rfl⟩, .none⟩
  · exact ⟨⟨rfl, hb, .inr ⟨[], rfl⟩⟩, .root⟩
end
section
/-! names and words -/
def nam (c : Nat) (B : List Nat) (b : Bool) : List Nat := if b then B else [c]
def wd (c : Nat) (B : List Nat) (u : List Bool) : List (List Nat) := u.map (nam c B)
section
variable {c : Nat} {B : List Nat} (n : Nms c B)
include n
theorem Nms.shape : ∃ x y, B = [x, y] ∧ x < 256 ∧ y < 256 ∧ x ≠ 47 ∧ y ≠ 47 ∧ (x ≠ 46 ∨ y ≠ 46) := by
  obtain ⟨d, h1, h2, rfl | rfl⟩ := n.b
  · exact ⟨c, d, rfl, n.c1, h1, n.c3, h2, .inl n.c2⟩
  · exact ⟨d, c, rfl, h1, n.c1, h2, n.c3, .inr n.c2⟩
theorem Nms.free (b : Bool) : 47 ∉ nam c B b := by
  obtain ⟨x, y, rfl, _, _, h3, h4, _⟩ := n.shape
  have := n.c3
  cases b <;> simp [nam] <;> omega
theorem Nms.good (b : Bool) : good (nam c B b) = true := by
  obtain ⟨x, y, rfl, _⟩ := n.shape
  have := n.c2
  cases b
  · simp [nam, Mine.good, this]
  · simp [nam, Mine.good]
theorem Nms.dd (b : Bool) : nam c B b ≠ [46, 46] := by
  obtain ⟨x, y, rfl, _, _, _, _, h⟩ := n.shape
  cases b <;> simp [nam] <;> omega
theorem Nms.lt (b : Bool) : ∀ x ∈ nam c B b, x < 256 := by
  obtain ⟨x, y, rfl, h1, h2, _⟩ := n.shape
  have := n.c1
  cases b <;> simp [nam] <;> omega
theorem Nms.len (b : Bool) : (nam c B b).length ≤ 2 := by
  obtain ⟨x, y, rfl, _⟩ := n.shape
  cases b <;> simp [nam]
theorem Nms.full (b : Bool) : nam c B b ≠ [] := by
  obtain ⟨x, y, rfl, _⟩ := n.shape
  cases b <;> simp [nam]
theorem Nms.inj {a b : Bool} (h : nam c B a = nam c B b) : a = b := by
  obtain ⟨x, y, rfl, _⟩ := n.shape
  cases a <;> cases b <;> simp [nam] at h ⊢
theorem Nms.beq (a b : Bool) : (nam c B a == nam c B b) = (a == b) := by
  rw [Bool.eq_iff_iff, beq_iff_eq, beq_iff_eq]
  exact ⟨n.inj, fun h => by rw [h]⟩
theorem Nms.wd {u : List Bool} (hu : u ≠ []) : Goods (wd c B u) :=
  ⟨by simpa [Mine.wd] using hu, fun p hp => by obtain ⟨b, _, rfl⟩ := List.mem_map.mp hp; exact n.free b, fun p hp => by obtain ⟨b, _, rfl⟩ := List.mem_map.mp hp; exact n.full b⟩
theorem Nms.wgood (u : List Bool) : ∀ p ∈ Mine.wd c B u, Mine.good p = true := fun p hp => by obtain ⟨b, _, rfl⟩ := List.mem_map.mp hp; exact n.good b
theorem Nms.wdd (u : List Bool) : ∀ p ∈ Mine.wd c B u, p ≠ [46, 46] := fun p hp => by obtain ⟨b, _, rfl⟩ := List.mem_map.mp hp; exact n.dd b
theorem Nms.Jlt : ∀ (u : List Bool), (∀ x ∈ J (Mine.wd c B u), x < 256) ∧ (J (Mine.wd c B u)).length ≤ 3 * u.length
  | [] => ⟨fun x h => by simp [Mine.wd, J] at h, by simp [Mine.wd, J]⟩
  | [b] => ⟨n.lt b, by have := n.len b; show (nam c B b).length ≤ 3; omega⟩
  | b :: d :: r => by
    have ih := Nms.Jlt (d :: r)
    have hl := n.len b
    refine ⟨fun x hx => ?_, ?_⟩
    · have hx : x ∈ nam c B b ++ 47 :: J (Mine.wd c B (d :: r)) := hx
      rcases List.mem_append.mp hx with hx | hx
      · exact n.lt b x hx
      · rcases List.mem_cons.mp hx with rfl | hx
        · decide
        · exact ih.1 x hx
    · show (nam c B b ++ 47 :: J (Mine.wd c B (d :: r))).length ≤ _
      have h2 := ih.2
      simp only [List.length_append, List.length_cons] at h2 ⊢
      omega
theorem Nms.okJ (u : List Bool) (hu : u.length ≤ 100) : Ok (J (Mine.wd c B u)) := ⟨(n.Jlt u).1, by have := (n.Jlt u).2; omega⟩
theorem Nms.oknam (b : Bool) : Ok (nam c B b) := ⟨n.lt b, by have := n.len b; omega⟩
end
theorem wd_app (c : Nat) (B : List Nat) (u v : List Bool) : wd c B (u ++ v) = wd c B u ++ wd c B v := by simp [wd]
theorem wd_take (c : Nat) (B : List Nat) (u : List Bool) (i : Nat) : wd c B (u.take i) = (wd c B u).take i := by simp [wd, List.map_take]
theorem ok_rt (r : Bool) : Ok (rt r) := by cases r <;> exact ⟨by decide, by decide⟩
theorem ok_junk (g m : Bool) : Ok (junk g m) ∧ (junk g m).length ≤ 4 := by cases g <;> cases m <;> exact ⟨⟨by decide, by decide⟩, by decide⟩
theorem ok_small {a b : List Nat} {i j : Nat} (ha : Ok a) (hb : Ok b) (h1 : a.length ≤ i) (h2 : b.length ≤ j) (h : i + j ≤ 1000) : Ok (a ++ b) ∧ (a ++ b).length ≤ i + j :=
  ⟨ha.app hb (by omega), by rw [List.length_append]; omega⟩
/-- join's steps stay short -/
theorem jst_ok {p b : List Nat} (hp : ∀ x ∈ p, x < 256) (hb : ∀ x ∈ b, x < 256) : (∀ x ∈ jst p b, x < 256) ∧ (jst p b).length ≤ p.length + 1 + b.length := by
  unfold jst
  split
  · exact ⟨hb, by omega⟩
  · split
    · exact ⟨fun x hx => (List.mem_append.mp hx).elim (hp x) (hb x), by rw [List.length_append]; omega⟩
    · refine ⟨fun x hx => ?_, by simp only [List.length_append, List.length_cons, List.length_nil]; omega⟩
      rcases List.mem_append.mp hx with hx | hx
      · exact hp x hx
      · rcases List.mem_append.mp hx with hx | hx
        · rw [List.mem_singleton.mp hx]; decide
        · exact hb x hx
theorem jn_ok : ∀ (ls : List (List Nat)) (l : List Nat), (∀ x ∈ l, x < 256) → (∀ b ∈ ls, ∀ x ∈ b, x < 256) → (∀ x ∈ jn l ls, x < 256) ∧ (jn l ls).length ≤ l.length + (ls.map fun b => b.length + 1).sum
  | [], l, h, _ => ⟨h, by simp [jn]⟩
  | b :: r, l, h, hb => by
    obtain ⟨h1, h2⟩ := jst_ok h (hb b (.head _))
    obtain ⟨h3, h4⟩ := jn_ok r (jst l b) h1 fun d hd => hb d (.tail _ hd)
    refine ⟨h3, Nat.le_trans h4 ?_⟩
    simp only [List.map_cons, List.sum_cons]
    omega
theorem jn_okT {l : List Nat} {ls : List (List Nat)} (h : Ok l) (hb : ∀ b ∈ ls, Ok b) (hs : l.length + (ls.map fun b => b.length + 1).sum ≤ 1000) (i : Nat) : Ok (jn l (ls.take i)) := by
  obtain ⟨h1, h2⟩ := jn_ok (ls.take i) l h.lt fun b hb' => (hb b (List.mem_of_mem_take hb')).lt
  refine ⟨h1, Nat.le_trans h2 (Nat.le_trans ?_ hs)⟩
  have : ((ls.take i).map fun b => b.length + 1).sum ≤ (ls.map fun b => b.length + 1).sum := by
    have e : ls = ls.take i ++ ls.drop i := (List.take_append_drop i ls).symm
    rw [e, List.map_append, List.sum_append]
    rw [← e]
    omega
  omega
/-! the order of words -/
theorem lcp_wd {c : Nat} {B : List Nat} (n : Nms c B) : ∀ (x y : List Bool), lcp (wd c B x) (wd c B y) = wd c B (lcb x y)
  | [], y => by cases y <;> rfl
  | a :: x, [] => rfl
  | a :: x, b :: y => by
    show (if nam c B a = nam c B b then nam c B a :: lcp (wd c B x) (wd c B y) else []) = wd c B (if a == b then a :: lcb x y else [])
    by_cases h : a = b
    · subst h
      rw [if_pos rfl, if_pos (by simp), lcp_wd n x y]
      rfl
    · rw [if_neg (fun e => h (n.inj e)), if_neg (by simpa using h)]
      rfl
theorem lg_wd {c : Nat} {B : List Nat} (n : Nms c B) (g : Bool) : ∀ (x y : List Bool), lg g (wd c B x) (wd c B y) = lb (decide ([c] < B)) g x y
  | [], y => by
    show lg g [] (wd c B y) = _
    rw [lg_size g _ _ (.inl rfl)]
    cases g <;> simp [lb, wd]
  | a :: x, [] => by
    show lg g (wd c B (a :: x)) [] = _
    rw [lg_size g _ _ (.inr rfl)]
    cases g <;> simp [lb, wd]
  | a :: x, b :: y => by
    show lg g (nam c B a :: wd c B x) (nam c B b :: wd c B y) = lb _ g (a :: x) (b :: y)
    rw [lg_cons, n.beq, lg_wd n g x y]
    have hne : [c] ≠ B := by
      obtain ⟨x, y, rfl, _⟩ := n.shape
      simp
    have hno : decide (B < [c]) = !decide ([c] < B) := by
      obtain ⟨d, _, _, rfl | rfl⟩ := n.b
      · simp [List.cons_lt_cons_iff]
      · rw [Bool.eq_iff_iff]
        simp [List.cons_lt_cons_iff]
        omega
    show (if (a == b) = true then _ else if g then decide (nam c B b < nam c B a) else decide (nam c B a < nam c B b)) = (if (a == b) = true then _ else _)
    cases a <;> cases b <;> cases g <;> simp [nam, hno]
theorem best_wd {c : Nat} {B : List Nat} (n : Nms c B) {bs : List (List Bool)} {due : List Bool} (h : bestOk (decide ([c] < B)) bs due = true) {x y : List (List Nat)} (hx : x ∈ bs.map (wd c B)) (hy : y ∈ bs.map (wd c B))
    (b1 : Best false (bs.map (wd c B)) (bs.map (wd c B)).length x) (b2 : Best true (bs.map (wd c B)) (bs.map (wd c B)).length y) : lcp x y = wd c B due := by
  obtain ⟨p, hp, rfl⟩ := List.mem_map.mp hx
  obtain ⟨q, hq, rfl⟩ := List.mem_map.mp hy
  have key : ∀ (g : Bool) (r : List Bool), Best g (bs.map (wd c B)) (bs.map (wd c B)).length (wd c B r) → (bs.all fun z => !(lb (decide ([c] < B)) g z r)) = true := fun g r hb => by
    refine List.all_eq_true.mpr fun z hz => ?_
    obtain ⟨j, hj, hj2⟩ := List.getElem_of_mem hz
    have := hb j (wd c B z) (by simpa using hj) (by simp [hj, hj2])
    rw [lg_wd n] at this
    rw [this]; rfl
  have h1 := List.all_eq_true.mp (List.all_eq_true.mp h p hp) q hq
  rw [key false p b1, key true q b2] at h1
  rw [lcp_wd n]
  have h2 : lcb p q = due := by simpa using h1
  rw [h2]
/-- what a pair of words gives -/
structure Pair (u v W : List Bool) : Prop where
  un : u ≠ []
  vn : v ≠ []
  len : u.length + v.length < 13
  uv : u ++ v = W ++ [false, true]
  vu : v ++ u = W ++ [true, false]
  mid : W = mid0 (u.length + v.length) (ones u + ones v)
  at_ : ∀ j, j < u.length + v.length - 2 → (j + 1) * (ones u + ones v) / (u.length + v.length) ≤ (j + 2) * (ones u + ones v) / (u.length + v.length) ∧ (j + 2) * (ones u + ones v) / (u.length + v.length) - (j + 1) * (ones u + ones v) / (u.length + v.length) ≤ 1
  two : ∀ o, bestOk o [u ++ v, v ++ u] W = true
  four : ∀ o, bestOk o [u ++ v, u, v, v ++ u] (W.take (min u.length v.length)) = true
theorem pair_of {i : Nat} {p : List Bool × List Bool} (hi : i < 7) (h : p ∈ reach i) : Pair p.1 p.2 (mid0 (p.1.length + p.2.length) (ones p.1 + ones p.2)) := by
  have hc := chk_at hi h
  obtain ⟨u, v⟩ := p
  simp only [chk, Bool.and_eq_true, decide_eq_true_eq, List.all_cons, List.all_nil, Bool.and_true] at hc
  obtain ⟨⟨⟨⟨⟨⟨⟨h1, h2⟩, h3⟩, h4⟩, h5⟩, h6⟩, h7⟩, h8, h9⟩ := hc
  refine ⟨fun e => ?_, fun e => ?_, h2, eq_of_beq h5, eq_of_beq h6, rfl, fun j hj => ?_, fun o => ?_, fun o => ?_⟩
  · simp only at e; rw [e] at h3; simp at h3
  · simp only at e; rw [e] at h4; simp at h4
  · have := List.all_eq_true.mp h7 j (List.mem_range.mpr hj)
    simpa using this
  · cases o
    · exact h8.1
    · exact h9.1
  · cases o
    · exact h8.2
    · exact h9.2
end
section
/-! cells of the law's own frame; unlike kinds stand apart -/
inductive KeepL (news : List (Addr × Obj)) (c : Addr) : List (Addr × Obj) → Prop
  | nil : KeepL news c []
  | cons {p r} : p ∈ news → (@Ne Nat p.1 c ∨ ∀ v, p.2.data ≠ .cell v) → KeepL news c r → KeepL news c (p :: r)
theorem KeepL.mem {news r : List (Addr × Obj)} {c : Addr} (h : KeepL news c r) : ∀ q ∈ r, q ∈ news ∧ (@Ne Nat q.1 c ∨ ∀ v, q.2.data ≠ .cell v) := by
  induction h with
  | nil => intro q hq; cases hq
  | cons h1 h2 _ ih =>
    intro q hq
    rcases List.mem_cons.mp hq with rfl | hq
    · exact ⟨h1, h2⟩
    · exact ih q hq
section
variable {M : Model} {A : Around} {E : Value → Shared → Prop} {s : Shared} {h₀ : Heap} {L a : Addr} {m : Str → Option Value} {cn : Str} {cs : Scope} {ccd : Value} {cl : List (Str × Addr)}
  {x : Str} {v : Value} {Q : Unit → Shared → Prop} {news keep : List (Addr × Obj)} {c : Addr} {o : Obj} {v₀ : Option Value}
theorem storeD (F : Fr h₀ L s.heap m) (N : News h₀ L s.heap news) (hc : cl.lookup x = some c) (hm : (c, o) ∈ news) (hd : o.data = .cell v₀) (hk : KeepL news c keep)
    (h : ∀ h' o', Fr h₀ L h' m → News h₀ L h' ((c, o') :: keep) → o'.data = .cell (some v) → Q () { s with heap := h' })
    (hkd : cs.kind = .function) (hx : (envX cn cs L a ccd cl).kindOf x = some .cell) : wpAny M A (storeName (envX cn cs L a ccd cl) x v) Q E s := by
  have hmem := N (c, o) hm
  refine wpAny_storeName_cell hkd hx hc ⟨o, hmem.1, hd⟩ fun h' hv hs => ?_
  obtain ⟨o', ho', hd'⟩ := hv
  refine h h' o' ⟨F.ns.sameBut hs (Ne.symm hmem.2.1), fun b ob e => (hs.2 b (fun q => ?_)).trans (F.keep b ob e), F.above⟩ (fun q hq => ?_) hd'
  · rw [q, hmem.2.2] at e; cases e
  · rcases List.mem_cons.mp hq with rfl | hq
    · exact ⟨ho', hmem.2⟩
    · obtain ⟨h1, h2⟩ := hk.mem q hq
      have hN := N q h1
      refine ⟨(hs.2 q.1 fun e => ?_).trans hN.1, hN.2⟩
      rcases h2 with h2 | h2
      · exact h2 e
      · have h3 := hN.1
        rw [e, hmem.1] at h3
        have h4 : q.2 = o := (Option.some.inj h3).symm
        exact h2 v₀ (h4 ▸ hd)
end
section
variable {prog : Program} {w : World} {A : Around} {E Q : Value → Shared → Prop} {s : Shared} {h₀ : Heap} {L l l' : Addr} {m : Str → Option Value} {news : List (Addr × Obj)} {value slice : PySem.Expr} {vs : List Value} {ep ep' : Nat} {k : Kd}
theorem eq_tx {A : Around} {s : Shared} {l l' : List Nat} {t u : Tok} {b : Bool} (ok : Ok l) (ok' : Ok l') (e : (l == l') = b) : SeqAt.EqAt A s (tx k l t) (tx k l' u) b := fun prog w E Q h => r_eqb ok ok' (by rw [e]; exact h)
/-- two lists of one text each -/
theorem ne_one {m : Str} {t u : Tok} (N : News h₀ L s.heap news) (h1 : (l, listOf [.str m t].toArray ep) ∈ news) (h2 : (l', listOf [.str m u].toArray ep') ∈ news) (hu : A.units < cLine) (h : Q (.bool false) s) :
    wpAny (model prog w) A (compareOp .NotEq (.ref l) (.ref l')) Q E s := by
  refine SeqAt.RcNeAt.lists (e := fun _ => true) (isL N h1) (isL N h2) rfl hu (fun j hj _ => ?_) prog w E Q h
  match j, hj with
  | 0, _ => exact (show SeqAt.EqAt A.in1 s (.str m t) (.str m u) true from fun prog w E Q hq => SeqAt.EqAt.str_str m t m u prog w E Q (by simpa using hq))
/-- a list of two texts at a place that is nought or one -/
theorem q_pick {l0 l1 : List Nat} {b : Bool} {e : Int} {u : Tok} {t0 t1 : Tok} (N : News h₀ L s.heap news) (hm : (l, listOf [tx k l0 t0, tx k l1 t1].toArray ep) ∈ news) (he : e = if b then 1 else 0) (h : ∀ t, Q (tx k (if b then l1 else l0) t) s)
    (hs : subscripted slice false (.ref l) (.int e u) = operate [.ref l, .int e u] (getItem (.ref l) (.int e u)) := by with_unfolding_all rfl) :
    wpAny (model prog w) A (subscriptTail value slice (.ref l) (.int e u)) Q E s := by
  subst he
  cases b
  · exact tail_any (isL N hm).typeIs slot_list_getitem.lookup (wpAny_getItem_list (isL N hm) (by decide) (by decide) (by rfl) (h t0)) hs
  · exact tail_any (isL N hm).typeIs slot_list_getitem.lookup (wpAny_getItem_list (isL N hm) (by decide) (by decide) (by rfl) (h t1)) hs
end
/-! the loop's own frame -/
abbrev cmap (k : Kd) (one two : List Nat) (many more other rest : Nat) (Dr Db Dh : Addr) (ts td t1 t2 t3 t4 t5 t6 : Tok) (r : Str → Option Value) : Str → Option Value := fun y =>
  if y = "rest" then some (.int (rest : Int) t6) else if y = "other" then some (.int (other : Int) t5) else if y = "more" then some (.int (more : Int) t4) else if y = "many" then some (.int (many : Int) t3)
  else if y = "two" then some (tx k two t2) else if y = "one" then some (tx k one t1) else if y = "roots" then some (.ref Dr) else if y = "between" then some (.ref Db) else if y = "behind" then some (.ref Dh)
  else if y = "dot" then some (tx k [46] td) else if y = "slash" then some (tx k [47] ts) else r y
theorem ite_at {m : Str → Option Value} {a y : Str} {v rest : Option Value} (h : m a = v) (hr : rest = m y) : (if y = a then v else rest) = m y := by
  by_cases e : y = a
  · rw [if_pos e, e]; exact h.symm
  · rw [if_neg e]; exact hr
theorem cmap_of {k : Kd} {one two : List Nat} {many more other rest : Nat} {Dr Db Dh : Addr} {ts td t1 t2 t3 t4 t5 t6 : Tok} {m : Str → Option Value}
    (h1 : m "rest" = some (.int (rest : Int) t6)) (h2 : m "other" = some (.int (other : Int) t5)) (h3 : m "more" = some (.int (more : Int) t4)) (h4 : m "many" = some (.int (many : Int) t3))
    (h5 : m "two" = some (tx k two t2)) (h6 : m "one" = some (tx k one t1)) (h7 : m "roots" = some (.ref Dr)) (h8 : m "between" = some (.ref Db)) (h9 : m "behind" = some (.ref Dh))
    (h10 : m "dot" = some (tx k [46] td)) (h11 : m "slash" = some (tx k [47] ts)) : m = cmap k one two many more other rest Dr Db Dh ts td t1 t2 t3 t4 t5 t6 m := by
  funext y
  exact (ite_at h1 (ite_at h2 (ite_at h3 (ite_at h4 (ite_at h5 (ite_at h6 (ite_at h7 (ite_at h8 (ite_at h9 (ite_at h10 (ite_at h11 rfl))))))))))).symm
/-- what stands between the loop's turns -/
def LJ (k : Kd) (c : Nat) (B : List Nat) (Dr Db Dh cS cC cN Dz D2 : Addr) (ts td : Tok) (oN oz or ob oh o2 : Obj) (i : Nat) (m : Str → Option Value) (nw : List (Addr × Obj)) : Prop :=
  ∃ (u v : List Bool) (oS oC : Obj) (t1 t2 t3 t4 t5 t6 : Tok) (r : Str → Option Value), (u, v) ∈ reach i ∧ m = cmap k (J (wd c B u)) (J (wd c B v)) u.length (ones u) v.length (ones v) Dr Db Dh ts td t1 t2 t3 t4 t5 t6 r ∧
    (∃ x, oS.data = .cell x) ∧ (∃ x, oC.data = .cell x) ∧ nw = [(cS, oS), (cC, oC), (cN, oN), (Dz, oz), (Dr, or), (Db, ob), (Dh, oh), (D2, o2)]
/-! the index told by whole division -/
theorem q_mul {prog : Program} {w : World} {A : Around} {E Q : Value → Shared → Prop} {s : Shared} {a b : Int} {t u : Tok} (h0 : 0 ≤ a) (h1 : a < 1000000) (h : ∀ t' tk, Q (.int (a * b) t') { s with toks := tk }) : wpAny (model prog w) A (binaryOp .Mult (.int a t) (.int b u)) Q E s := by
  refine PyProof.Rows.mul_int (h _ _) (IntMulOk.of_left ?_)
  unfold Builtin.Int.intBits
  split
  · decide
  · rename_i h2
    have : a.natAbs < 2 ^ 20 := by omega
    have h3 := Nat.log2_lt (n := a.natAbs) (k := 20) (by simpa using h2) |>.mpr this
    omega
theorem q_fdiv {prog : Program} {w : World} {A : Around} {E Q : Value → Shared → Prop} {s : Shared} {a b : Int} {t u : Tok} (h0 : 0 < b) (h1 : b < 1000000) (h : ∀ t' tk, Q (.int (a.fdiv b) t') { s with toks := tk }) : wpAny (model prog w) A (binaryOp .FloorDiv (.int a t) (.int b u)) Q E s :=
  PyProof.Rows.floordiv_int (by omega) (h _ _) (Or.inl (PyProof.noPylong_small (by omega)))
theorem idx_at {j ou ov lu lv : Nat} (h1 : (j + 1) * (ou + ov) / (lu + lv) ≤ (j + 2) * (ou + ov) / (lu + lv)) (h2 : (j + 2) * (ou + ov) / (lu + lv) - (j + 1) * (ou + ov) / (lu + lv) ≤ 1) :
    Int.fdiv ((1 + (j : Int) + 1) * ((ou : Int) + (ov : Int))) ((lu : Int) + (lv : Int)) - Int.fdiv ((1 + (j : Int)) * ((ou : Int) + (ov : Int))) ((lu : Int) + (lv : Int)) = if ((j + 2) * (ou + ov) / (lu + lv) - (j + 1) * (ou + ov) / (lu + lv) == 1) = true then 1 else 0 := by
  have e1 : (1 + (j : Int) + 1) * ((ou : Int) + (ov : Int)) = (((j + 2) * (ou + ov) : Nat) : Int) := by
    rw [Int.natCast_mul, Int.natCast_add, Int.natCast_add]; congr 1; omega
  have e2 : (1 + (j : Int)) * ((ou : Int) + (ov : Int)) = (((j + 1) * (ou + ov) : Nat) : Int) := by
    rw [Int.natCast_mul, Int.natCast_add, Int.natCast_add]; congr 1; omega
  have e3 : (lu : Int) + (lv : Int) = ((lu + lv : Nat) : Int) := by omega
  rw [e1, e2, e3, Int.fdiv_eq_ediv_of_nonneg _ (Int.natCast_nonneg _), Int.fdiv_eq_ediv_of_nonneg _ (Int.natCast_nonneg _), ← Int.natCast_ediv, ← Int.natCast_ediv]
  split
  · rename_i h; have h := eq_of_beq h; omega
  · rename_i h; have h : ¬ _ := fun e => h (beq_iff_eq.mpr e); omega
theorem bit_of (x : Int) : ∃ b : Bool, x.fmod 2 = if b = true then 1 else 0 := by
  have h0 := fmod_lo x (n := 2) (by decide)
  have h1 := fmod_hi x (n := 2) (by decide)
  by_cases h : x.fmod 2 = 0
  · exact ⟨false, by simp [h]⟩
  · exact ⟨true, by simp; omega⟩
theorem ok_if {b : Bool} {l l' : List Nat} (h : Ok l) (h' : Ok l') : Ok (if b = true then l else l') := by cases b; exact h'; exact h
section
variable {prog : Program} {w : World} {A : Around} {E : Value → Shared → Prop} {s : Shared} {h₀ : Heap} {L : Addr} {m : Str → Option Value} {news : List (Addr × Obj)} {Q : Flow → Shared → Prop} {t : Sem Flow}
theorem cut4 (k : Kd) (a b c d : Str) (va vb vc vd : List Nat) (_F : Fr h₀ L s.heap m) (_N : News h₀ L s.heap news)
    (h1 : ∀ Q' : Flow → Shared → Prop, (∀ h' tk t1 t2, Fr h₀ L h' (fun y => if y = b then some (tx k vb t2) else if y = a then some (tx k va t1) else m y) → News h₀ L h' news → Q' .next { s with heap := h', toks := tk }) → wpAny (model prog w) A t Q' E s)
    (h2 : ∀ h' tk t1 t2, Fr h₀ L h' (fun y => if y = b then some (tx k vb t2) else if y = a then some (tx k va t1) else m y) → News h₀ L h' news → Q .next { s with heap := h', toks := tk }) : wpAny (model prog w) A t Q E s := h1 Q h2
end
theorem word_of {k : Kd} {c : Nat} {B : List Nat} {n q : Nat} {us : List Value} (hl : us.length = n - 2) (hR : ∀ (j : Nat) v, us[j]? = some v → ∃ t, v = tx k (nam c B ((j + 2) * q / n - (j + 1) * q / n == 1)) t) : TxsAre k us (wd c B (mid0 n q)) := by
  have := txs_of (fun j => nam c B ((j + 2) * q / n - (j + 1) * q / n == 1)) (n - 2) us hl hR
  have e : wd c B (mid0 n q) = (List.range (n - 2)).map (fun j => nam c B ((j + 2) * q / n - (j + 1) * q / n == 1)) := by unfold wd mid0; rw [List.map_map]; rfl
  rw [e]; exact this
theorem pth_ok {c : Nat} {B : List Nat} (n : Nms c B) (r g m : Bool) (u v : List Bool) (h : u.length + v.length ≤ 100) : Ok (pth r g m (wd c B u) (wd c B v)) ∧ (pth r g m (wd c B u) (wd c B v)).length ≤ 310 := by
  have h1 := n.Jlt u
  have h2 := n.Jlt v
  have h3 := ok_junk g m
  have h4 : (rt r).length ≤ 1 := by cases r <;> decide
  have hl : (pth r g m (wd c B u) (wd c B v)).length ≤ 310 := by
    unfold pth
    simp only [List.length_append]
    omega
  refine ⟨⟨fun x hx => ?_, by omega⟩, hl⟩
  unfold pth at hx
  rcases List.mem_append.mp hx with hx | hx
  · exact (ok_rt r).lt x hx
  · rcases List.mem_append.mp hx with hx | hx
    · exact h1.1 x hx
    · rcases List.mem_append.mp hx with hx | hx
      · exact h3.1.lt x hx
      · exact h2.1 x hx
section
variable {w : World} {dp un : Nat} {fr : Option (List Env)} {gd : Option (List Code)} {s : Shared} {Q E : Value → Shared → Prop} {mg mb : Str → Option Value} {loose : List Str} {mean : ExcName → Option Value} {k : Kd} {t : Tok} {c : Nat} {B : List Nat}
theorem J_ne {c : Nat} {B : List Nat} (n : Nms c B) {u : List Bool} (h : u ≠ []) (r : Bool) : rt r ++ J (wd c B u) ≠ [] := fun e => (n.wd h).J_ne (List.append_eq_nil_iff.mp e).2
theorem okR {c : Nat} {B : List Nat} (n : Nms c B) (r : Bool) (u : List Bool) (h : u.length ≤ 100) : Ok (rt r ++ J (wd c B u)) :=
  (ok_rt r).app (n.okJ u h) (by have := (n.Jlt u).2; have : (rt r).length ≤ 1 := by cases r <;> decide
                                omega)
/-- normpath of what join laid -/
theorem c_norm (X : (Mine.hd.heap_1 w.params).In s.heap) (T : Top PV loose mean mg mb s.heap) (hd : dp + 3 < recursionLimit) (n : Nms c B) (r g m : Bool) {u v : List Bool} (hu : u ≠ []) (hv : v ≠ []) (hl : u.length + v.length ≤ 50)
    (h : Ret s Q (tx k (rt r ++ J (wd c B (u ++ v))))) : wpAny (model PR w) (Ar dp un fr gd) (call (.ref 136) [tx k (pth r g m (wd c B u) (wd c B v)) t]) Q E s := by
  have gU := n.wd hu
  have gV := n.wd hv
  have ecmp := cmp_rest g m gU gV (n.wgood u) (n.wgood v)
  have hp := pth_ok n r g m u v (by omega)
  have hlen : (rt r).length ≤ 1 := by cases r <;> decide
  have hj := n.okJ (u ++ v) (by rw [List.length_append]; omega)
  have hjl := (n.Jlt (u ++ v)).2
  rw [List.length_append] at hjl
  have okrest : Ok (J (wd c B u) ++ (junk g m ++ J (wd c B v))) := ⟨fun x hx => hp.1.lt x (List.mem_append_right _ hx), by have := hp.2; unfold pth at this; rw [List.length_append] at this; omega⟩
  have e2 : cmp (J (wd c B u) ++ (junk g m ++ J (wd c B v))) = wd c B (u ++ v) := by rw [ecmp, wd_app]
  refine c_normpath X T hd hp.1 (bne_iff_ne.mpr fun e => gU.J_ne (List.append_eq_nil_iff.mp (List.append_eq_nil_iff.mp e).2).1) (rooted r (rest_head g m gU _)) okrest (ok_rt r) ?_ (by rw [e2]; exact bne_iff_ne.mpr (J_ne n (by simp [hu]) r)) (by rw [e2]; exact hj) (by rw [e2]; omega) (by rw [e2]; exact h)
  rw [sp_rest g m gU gV]
  intro p hp'
  rcases List.mem_append.mp hp' with h1 | h1
  · exact n.wdd u p h1
  · rcases List.mem_append.mp h1 with h1 | h1
    · cases g
      · simp at h1
      · simp at h1; subst h1; simp
    · rcases List.mem_append.mp h1 with h1 | h1
      · cases m
        · simp at h1
        · simp at h1; subst h1; simp
      · exact n.wdd v p h1
theorem c_spl (X : (Mine.hd.heap_1 w.params).In s.heap) (T : Top PV loose mean mg mb s.heap) (hd : dp + 2 < recursionLimit) (n : Nms c B) (r : Bool) (u : List Bool) (b : Bool) (hl : u.length ≤ 50)
    (h : RetN s Q fun o => ∃ t1 t2, o = tup [tx k (rt r ++ J (wd c B u)) t1, tx k (nam c B b) t2]) : wpAny (model PR w) (Ar dp un fr gd) (call (.ref 122) [tx k (rt r ++ J (wd c B (u ++ [b]))) t]) Q E s := by
  have ok := okR n r (u ++ [b]) (by rw [List.length_append, List.length_singleton]; omega)
  by_cases hu : u = []
  · subst hu
    obtain ⟨h1, h2⟩ := cut_one r (n.free b)
    refine c_split X T hd ok h1 h2 ?_
    rw [show rt r ++ J (wd c B []) = rt r from List.append_nil _] at h
    exact h
  · obtain ⟨h1, h2⟩ := cut_two r (n.wd hu) (n.free b)
    rw [wd_app] at ok ⊢
    exact c_split X T hd ok h1 h2 h
end
section
variable {prog : Program} {w : World} {A : Around} {E Q : Value → Shared → Prop} {s : Shared} {h₀ : Heap} {L l l' p p' : Addr} {m : Str → Option Value} {news : List (Addr × Obj)} {ep ep' : Nat} {k : Kd}
theorem eq_tup {a b : List Nat} {t1 t2 u1 u2 : Tok} (N : News h₀ L s.heap news) (h1 : (p, tup [tx k a t1, tx k b t2]) ∈ news) (h2 : (p', tup [tx k a u1, tx k b u2]) ∈ news) (oka : Ok a) (okb : Ok b) (hu : A.units < cLine) : SeqAt.EqAt A s (.ref p) (.ref p') true := by
  by_cases e : p = p'
  · subst e; exact SeqAt.EqAt.same _
  · refine SeqAt.EqAt.of_refs e fun prog w E Q hq => ?_
    refine SeqAt.RcAt.tuples (e := fun _ => true) (isT N h1) (isT N h2) hu (fun j hj _ => ?_) prog w E Q hq
    match j, hj with
    | 0, _ => exact eq_tx oka oka (beq_self_eq_true a)
    | 1, _ => exact eq_tx okb okb (beq_self_eq_true b)
theorem ne_pair {a b d : List Nat} {t1 t2 t3 u1 u2 u3 : Tok} (N : News h₀ L s.heap news) (g1 : (l, listOf [.ref p, tx k d t3].toArray ep) ∈ news) (g2 : (l', listOf [.ref p', tx k d u3].toArray ep') ∈ news) (h1 : (p, tup [tx k a t1, tx k b t2]) ∈ news) (h2 : (p', tup [tx k a u1, tx k b u2]) ∈ news) (oka : Ok a) (okb : Ok b) (okd : Ok d) (hu : A.in1.units < cLine) (hu' : A.units < cLine)
    (h : Q (.bool false) s) : wpAny (model prog w) A (compareOp .NotEq (.ref l) (.ref l')) Q E s := by
  refine SeqAt.RcNeAt.lists (e := fun _ => true) (isL N g1) (isL N g2) rfl hu' (fun j hj _ => ?_) prog w E Q h
  match j, hj with
  | 0, _ => exact eq_tup N h1 h2 oka okb hu
  | 1, _ => exact eq_tx okd okd (beq_self_eq_true d)
end
end
section
/-! the law's own text, taken from the row -/
noncomputable def lawDef : List Stmt × Scope := match (Challenge.pw_rt0119_01.main.body.getLast? : Option Stmt) with | some (Stmt.FunctionDef _ _ b _ _ _ sc _ _ _) => (b, sc) | _ => ([], { kind := .function, names := [], isGenerator := false, isCoroutine := false })
noncomputable def forBody : List Stmt := match (lawDef.1[7]? : Option Stmt) with | some (Stmt.For _ _ b _ _) => b | _ => []
noncomputable def lawSc : Scope := lawDef.2
noncomputable abbrev lawEnv (L a : Addr) (ccd : Value) : Env := envX "law" lawSc L a ccd (cellsFrom (L + 1) lawSc.names [])
theorem reach0 {i : Nat} {u v : List Bool} (hr : (u, v) ∈ reach i) : nx0 (u, v) ∈ reach (i + 1) := List.mem_flatMap.mpr ⟨_, hr, .head _⟩
theorem reach1 {i : Nat} {u v : List Bool} (hr : (u, v) ∈ reach i) : nx1 (u, v) ∈ reach (i + 1) := List.mem_flatMap.mpr ⟨_, hr, .tail _ (.head _)⟩
theorem turn_end {h₀ h' : Heap} {L I Dz Dr Db Dh D2 : Addr} {oI oN oz or ob oh o2 oS oC : Obj} {s : Shared} {tk : Nat} {Q : Flow → Shared → Prop} {k : Kd} {c : Nat} {B : List Nat} {i : Nat} {ts td t1 t2 t3 t4 t5 t6 : Tok} {m₂ : Str → Option Value} {nw : List (Addr × Obj)} {u' v' : List Bool} {xS xC : Option Value} {many more other rest : Int}
    (hr : (u', v') ∈ reach (i + 1)) (F : Fr h₀ L h' m₂) (N : News h₀ L h' nw)
    (off : ∀ q ∈ [(L + 1 + 1, oS), (L + 1 + 1 + 1, oC), (L + 1, oN), (Dz, oz), (Dr, or), (Db, ob), (Dh, oh), (D2, o2)], q.1 ≠ I)
    (hm : ∀ q ∈ (I, oI) :: [(L + 1 + 1, oS), (L + 1 + 1 + 1, oC), (L + 1, oN), (Dz, oz), (Dr, or), (Db, ob), (Dh, oh), (D2, o2)], q ∈ nw)
    (hS : oS.data = .cell xS) (hC : oC.data = .cell xC)
    (h1 : m₂ "rest" = some (.int rest t6)) (h2 : m₂ "other" = some (.int other t5)) (h3 : m₂ "more" = some (.int more t4)) (h4 : m₂ "many" = some (.int many t3))
    (h5 : m₂ "two" = some (tx k (J (wd c B v')) t2)) (h6 : m₂ "one" = some (tx k (J (wd c B u')) t1)) (h7 : m₂ "roots" = some (.ref Dr)) (h8 : m₂ "between" = some (.ref Db)) (h9 : m₂ "behind" = some (.ref Dh))
    (h10 : m₂ "dot" = some (tx k [46] td)) (h11 : m₂ "slash" = some (tx k [47] ts)) (g1 : rest = (ones v' : Nat)) (g2 : other = (v'.length : Nat)) (g3 : more = (ones u' : Nat)) (g4 : many = (u'.length : Nat)) :
    TurnEnd h₀ L I oI (LJ k c B Dr Db Dh (L + 1 + 1) (L + 1 + 1 + 1) (L + 1) Dz D2 ts td oN oz or ob oh o2 (i + 1)) s Q .next { s with heap := h', toks := tk } := by
  subst g1 g2 g3 g4
  exact TurnEnd.next _ F (fun q hq => N q (hm q hq)) off ⟨u', v', oS, oC, t1, t2, t3, t4, t5, t6, m₂, hr, cmap_of h1 h2 h3 h4 h5 h6 h7 h8 h9 h10 h11, ⟨_, hS⟩, ⟨_, hC⟩, rfl⟩
theorem int_sum (a b : Nat) : (a : Int) + (b : Int) = ((a + b : Nat) : Int) := (Int.natCast_add a b).symm
section
variable {w : World} {s s0 : Shared} {E : Value → Shared → Prop} {Q : Flow → Shared → Prop} {mg mb : Str → Option Value} {loose : List Str} {mean : ExcName → Option Value} {L a : Addr} {ccd : Value} {h₀ : Heap}
set_option maxHeartbeats 8000000
theorem law_tail {k : Kd} {c : Nat} {B : List Nat} (n : Nms c B) (X : (Mine.hd.heap_1 w.params).In h₀) (T : Top PV loose mean mg mb h₀) {Dr Db Dh Dz D2 I : Addr} {ts td t1 t2 t3 t4 t5 t6 tn tS : Tok} {oI oN oz or ob oh o2 oS oC : Obj} {i : Nat} {num : Int} {r : Str → Option Value} {nw : List (Addr × Obj)} {u v W : List Bool} {xC : Option Value} (hr : (u, v) ∈ reach i) (P : Pair u v W)
    (hN : oN.data = .cell (some (.ref Dz))) (hS : oS.data = .cell (some (.int ((u.length : Int) + (v.length : Int)) tS))) (hC : oC.data = .cell xC)
    (off : ∀ q ∈ [(L + 1 + 1, oS), (L + 1 + 1 + 1, oC), (L + 1, oN), (Dz, oz), (Dr, or), (Db, ob), (Dh, oh), (D2, o2)], q.1 ≠ I)
    (F : Fr h₀ L s.heap (fun y => if y = "number" then some (.int num tn) else cmap k (J (wd c B u)) (J (wd c B v)) u.length (ones u) v.length (ones v) Dr Db Dh ts td t1 t2 t3 t4 t5 t6 r y))
    (N : News h₀ L s.heap ((I, oI) :: [(L + 1 + 1, oS), (L + 1 + 1 + 1, oC), (L + 1, oN), (Dz, oz), (Dr, or), (Db, ob), (Dh, oh), (D2, o2)]))
    (hs : s = { s0 with heap := s.heap, toks := s.toks })
    (hE : PassesOwn (model PR w) (callerA.deeper (lawEnv L a ccd)) (lawEnv L a ccd) E) :
    wpAny (model PR w) (callerA.deeper (lawEnv L a ccd)) (execs (forBody.drop 10) (lawEnv L a ccd))
      (TurnEnd h₀ L I oI (LJ k c B Dr Db Dh (L + 1 + 1) (L + 1 + 1 + 1) (L + 1) Dz D2 ts td oN oz or ob oh o2 (i + 1)) s0 Q) E s := by
  walk_at "mine fill"
  have Plen := P.len
  have Pu := List.length_pos_iff.mpr P.un
  have Pv := List.length_pos_iff.mpr P.vn
  unfold lawEnv at hE ⊢
  have e : lawSc = Scope.mk _ _ _ _ _ := rfl
  rw [e] at hE ⊢
  clear e
  show wpAny _ _ (execs (_ :: _) _) _ _ _
  obtain ⟨s1, s2, s3, s4, s5⟩ := s
  obtain ⟨p1, p2, p3, p4, p5⟩ := s0
  simp only [Shared.mk.injEq] at hs
  obtain ⟨-, rfl, rfl, -, rfl⟩ := hs
  try dsimp only at hE F N ⊢
  k_fold
  have okU : Ok (J (wd c B u)) := n.okJ u (by omega)
  have okV : Ok (J (wd c B v)) := n.okJ v (by omega)
  have gU : Goods (wd c B u) := n.wd P.un
  have gV : Goods (wd c B v) := n.wd P.vn
  have lenU := (n.Jlt u).2
  have lenV := (n.Jlt v).2
  obtain ⟨b, hb⟩ := bit_of num
  have smUV : ∀ x y : List Nat, x.length ≤ 300 → y.length ≤ 300 → x.length + ([y].map fun b => b.length + 1).sum ≤ 1000 := fun x y h1 h2 => by
    simp only [List.map_cons, List.map_nil, List.sum_cons, List.sum_nil]
    omega
  have okbU : ∀ b ∈ [J (wd c B u)], Ok b := fun b hb => by rw [List.mem_singleton.mp hb]; exact okU
  have okbV : ∀ b ∈ [J (wd c B v)], Ok b := fun b hb => by rw [List.mem_singleton.mp hb]; exact okV
  have jUV := jn_two gU gV
  have jVU := jn_two gV gU
  rw [← wd_app] at jUV jVU
  have oUV : ones (u ++ v) = ones u + ones v := List.countP_append
  have oVU : ones (v ++ u) = ones v + ones u := List.countP_append
  have r0 := reach0 hr
  have r1 := reach1 hr
  k_steps
  all_goals try (exfalso; omega)
  · have e0 : nx0 (u, v) = (u, u ++ v) := if_pos (by show _ < _; dsimp only; omega)
    rw [e0] at r0
    rename Fr _ _ _ _ => Fk
    rename News _ _ _ _ => Nk
    k_dflt (refine c_join (Frag.In.keeps X Fk.keep) (Top.keeps T Fk.keep) (by decide) (.cons .nil) (.inl ⟨_, rfl⟩) okbV (jn_okT okU okbV (smUV _ _ (by omega) (by omega))) ?_)
    intro tq hq1 tkq Kq
    have Fl := Fr.keeps Fk Kq
    have Nl := News.grown Nk Kq
    clear Fk Nk Kq
    rw [jUV]
    k_sweep
    k_steps
    all_goals try (exfalso; omega)
    rename Fr _ _ _ _ => Fz
    rename News _ _ _ _ => Nz
    refine turn_end r0 Fz Nz off (fun q hq => by first | exact hq | exact .tail _ hq) hS hC (by rfl) (by rfl) (by rfl) (by rfl) (by rfl) (by rfl) (by rfl) (by rfl) (by rfl) (by rfl) (by rfl) (by rw [oUV]; omega) (by rw [List.length_append]; omega) rfl rfl
  · have e0 : nx0 (u, v) = (u, v) := if_neg (by show ¬ _ < _; dsimp only; omega)
    rw [e0] at r0
    rename Fr _ _ _ _ => Fz
    rename News _ _ _ _ => Nz
    refine turn_end r0 Fz Nz off (fun q hq => by first | exact hq | exact .tail _ hq) hS hC (by rfl) (by rfl) (by rfl) (by rfl) (by rfl) (by rfl) (by rfl) (by rfl) (by rfl) (by rfl) (by rfl) rfl rfl rfl rfl
  · have e0 : nx1 (u, v) = (v ++ u, v) := if_pos (by show _ < _; dsimp only; omega)
    rw [e0] at r1
    rename Fr _ _ _ _ => Fk
    rename News _ _ _ _ => Nk
    k_dflt (refine c_join (Frag.In.keeps X Fk.keep) (Top.keeps T Fk.keep) (by decide) (.cons .nil) (.inl ⟨_, rfl⟩) okbU (jn_okT okV okbU (smUV _ _ (by omega) (by omega))) ?_)
    intro tq hq1 tkq Kq
    have Fl := Fr.keeps Fk Kq
    have Nl := News.grown Nk Kq
    clear Fk Nk Kq
    rw [jVU]
    k_sweep
    k_steps
    all_goals try (exfalso; omega)
    rename Fr _ _ _ _ => Fz
    rename News _ _ _ _ => Nz
    refine turn_end r1 Fz Nz off (fun q hq => by first | exact hq | exact .tail _ hq) hS hC (by rfl) (by rfl) (by rfl) (by rfl) (by rfl) (by rfl) (by rfl) (by rfl) (by rfl) (by rfl) (by rfl) rfl rfl (by rw [oVU]; omega) (by rw [List.length_append]; omega)
  · have e0 : nx1 (u, v) = (u, v) := if_neg (by show ¬ _ < _; dsimp only; omega)
    rw [e0] at r1
    rename Fr _ _ _ _ => Fz
    rename News _ _ _ _ => Nz
    refine turn_end r1 Fz Nz off (fun q hq => by first | exact hq | exact .tail _ hq) hS hC (by rfl) (by rfl) (by rfl) (by rfl) (by rfl) (by rfl) (by rfl) (by rfl) (by rfl) (by rfl) (by rfl) rfl rfl rfl rfl
end
end
section
theorem head_root (e : Bool) {X : List (List Nat)} (hX : Goods X) (l : List Nat) : ((rt e ++ (J X ++ l)).head? == some 47) = e := by
  cases e
  · have : (J X ++ l).head? ≠ some 47 := by rw [head_app hX.J_ne]; exact hX.head
    exact beq_eq_false_iff_ne.mpr this
  · rfl
theorem head_root0 (e : Bool) {X : List (List Nat)} (hX : Goods X) : ((rt e ++ J X).head? == some 47) = e := by
  have := head_root e hX []
  rwa [List.append_nil] at this
theorem lcb_le : ∀ x y : List Bool, (lcb x y).length ≤ x.length
  | [], y => by cases y <;> simp [lcb]
  | a :: x, [] => by simp [lcb]
  | a :: x, b :: y => by
    show (if a == b then a :: lcb x y else []).length ≤ _
    split
    · simp; exact lcb_le x y
    · simp
theorem ok_lcp {c : Nat} {B : List Nat} (n : Nms c B) {bs : List (List Bool)} (hb : ∀ b ∈ bs, b.length ≤ 100) : ∀ x ∈ bs.map (wd c B), ∀ y ∈ bs.map (wd c B), Ok (J (lcp x y)) := by
  intro x hx y hy
  obtain ⟨p, hp, rfl⟩ := List.mem_map.mp hx
  obtain ⟨q, hq, rfl⟩ := List.mem_map.mp hy
  rw [lcp_wd n]
  exact n.okJ _ (Nat.le_trans (lcb_le p q) (hb p hp))
section
variable {c : Nat} {B : List Nat} (n : Nms c B) {u v W : List Bool} (P : Pair u v W) (e1 e2 g m : Bool)
include n P
theorem cmp_pth : cmp (pth e1 g m (wd c B u) (wd c B v)) = wd c B (u ++ v) := by
  unfold pth
  rw [cmp_root, cmp_rest g m (n.wd P.un) (n.wd P.vn) (n.wgood u) (n.wgood v), wd_app]
theorem cmp_pth' : cmp (pth e2 g m (wd c B v) (wd c B u)) = wd c B (v ++ u) := by
  unfold pth
  rw [cmp_root, cmp_rest g m (n.wd P.vn) (n.wd P.un) (n.wgood v) (n.wgood u), wd_app]
theorem lists2 : ([pth e1 g m (wd c B u) (wd c B v), pth e2 g m (wd c B v) (wd c B u)].map sp).map (fun l => l.filter good) = [u ++ v, v ++ u].map (wd c B) := by
  show [cmp _, cmp _] = [_, _]
  rw [cmp_pth n P, cmp_pth' n P]
theorem lists4 : ([pth e1 g m (wd c B u) (wd c B v), rt e1 ++ J (wd c B u), rt e2 ++ J (wd c B v), pth e2 g m (wd c B v) (wd c B u)].map sp).map (fun l => l.filter good) = [u ++ v, u, v, v ++ u].map (wd c B) := by
  show [cmp _, cmp _, cmp _, cmp _] = [_, _, _, _]
  rw [cmp_pth n P, cmp_pth' n P, cmp_root, cmp_root, cmp_J (n.wd P.un) (n.wgood u), cmp_J (n.wd P.vn) (n.wgood v)]
theorem signs2 : (([pth e1 g m (wd c B u) (wd c B v), pth e2 g m (wd c B v) (wd c B u)].map fun l => l.head? == some 47).foldl insb [] = if e1 = e2 then [e1] else [false, true]) := by
  show List.foldl insb [] [_, _] = _
  unfold pth
  dsimp only
  rw [head_root e1 (n.wd P.un), head_root e2 (n.wd P.vn)]
  cases e1 <;> cases e2 <;> rfl
theorem signs4 : (([pth e1 g m (wd c B u) (wd c B v), rt e1 ++ J (wd c B u), rt e2 ++ J (wd c B v), pth e2 g m (wd c B v) (wd c B u)].map fun l => l.head? == some 47).foldl insb [] = if e1 = e2 then [e1] else [false, true]) := by
  show List.foldl insb [] [_, _, _, _] = _
  unfold pth
  dsimp only
  rw [head_root e1 (n.wd P.un), head_root e2 (n.wd P.vn), head_root0 e1 (n.wd P.un), head_root0 e2 (n.wd P.vn)]
  cases e1 <;> cases e2 <;> rfl
end
section
variable {w : World} {s : Shared} {Q E : Value → Shared → Prop} {mg mb : Str → Option Value} {loose : List Str} {mean : ExcName → Option Value} {k : Kd} {cn : Str} {sc : Scope} {L a : Addr} {ccd : Value} {cl : List (Str × Addr)} {h₀ : Heap} {m₁ : Str → Option Value} {news : List (Addr × Obj)}
  {c : Nat} {B : List Nat} {u v W : List Bool} {e1 e2 g m : Bool}
theorem c_com (hsc : sc.kind = .function) {D : Addr} {vs : List Value} {l0 : List Nat} {ls : List (List Nat)} {ep : Nat} (X : (Mine.hd.heap_1 w.params).In h₀) (T : Top PV loose mean mg mb h₀) (F : Fr h₀ L s.heap m₁) (N : News h₀ L s.heap ((D, listOf vs.toArray ep) :: news))
    (hv : TxsAre k vs (l0 :: ls)) (okp : ∀ c ∈ l0 :: ls, Ok c) (n : Nms c B) {bs : List (List Bool)} {due : List Bool} (hl : ((l0 :: ls).map sp).map (fun l => l.filter good) = bs.map (wd c B)) (hb : ∀ b ∈ bs, b.length ≤ 100)
    (hs : ((l0 :: ls).map fun l => l.head? == some 47).foldl insb [] = if e1 = e2 then [e1] else [false, true]) (hn : (l0 :: ls).length ≤ 1000) (hbest : ∀ o, bestOk o bs due = true)
    (h : e1 = e2 → ∀ t h' tk, Fr h₀ L h' m₁ → News h₀ L h' ((D, listOf vs.toArray ep) :: news) → Q (tx k (rt e1 ++ J (wd c B due)) t) { s with heap := h', toks := tk })
    (hM : e1 ≠ e2 → ∀ q tm h' tk, Fr h₀ L h' m₁ → News h₀ L h' ((q, lst [.str "Can't mix absolute and relative paths" tm]) :: (D, listOf vs.toArray ep) :: news) → Q (.ref q) { s with heap := h', toks := tk })
    : wpAny (model PR w) (callerA.deeper (envX cn sc L a ccd cl)) (call (.ref 153) [.ref D]) Q E s := by
  refine c_common hsc X T F N hv okp ?_ hn (by rw [hl]; exact ok_lcp n hb) (fun b x y e hx hy b1 b2 => ?_) (fun e => hM fun q => ?_)
  · rw [hs]
    by_cases he : e1 = e2
    · rw [if_pos he]; exact .inl ⟨_, rfl⟩
    · rw [if_neg he]; exact .inr rfl
  · rw [hl] at hx hy b1 b2
    rw [best_wd n (hbest _) hx hy b1 b2]
    by_cases he : e1 = e2
    · rw [hs, if_pos he] at e
      have hb' : e1 = b := by simpa using e
      subst hb'
      exact h he
    · rw [hs, if_neg he] at e
      simp at e
  · rw [hs, if_pos q] at e
    simp at e
end
section
variable {prog : Program} {w : World} {A : Around} {E Q : Value → Shared → Prop} {s : Shared} {h₀ : Heap} {L l l' p p' q q' : Addr} {m : Str → Option Value} {news : List (Addr × Obj)} {ep ep' ep2 ep3 ep4 ep5 : Nat} {k : Kd}
theorem ne_two {a b : List Nat} {t1 t2 u1 u2 : Tok} (N : News h₀ L s.heap news) (h1 : (l, listOf [tx k a t1, tx k b t2].toArray ep) ∈ news) (h2 : (l', listOf [tx k a u1, tx k b u2].toArray ep') ∈ news) (oka : Ok a) (okb : Ok b) (hu : A.units < cLine) (h : Q (.bool false) s) :
    wpAny (model prog w) A (compareOp .NotEq (.ref l) (.ref l')) Q E s := by
  refine SeqAt.RcNeAt.lists (e := fun _ => true) (isL N h1) (isL N h2) rfl hu (fun j hj _ => ?_) prog w E Q h
  match j, hj with
  | 0, _ => exact eq_tx oka oka (beq_self_eq_true a)
  | 1, _ => exact eq_tx okb okb (beq_self_eq_true b)
theorem eq_word {x : Str} {t u : Tok} (N : News h₀ L s.heap news) (h1 : (p, listOf [.str x t].toArray ep) ∈ news) (h2 : (p', listOf [.str x u].toArray ep') ∈ news) (hu : A.units < cLine) : SeqAt.EqAt A s (.ref p) (.ref p') true := by
  by_cases e : p = p'
  · subst e; exact SeqAt.EqAt.same _
  · refine SeqAt.EqAt.of_refs e fun prog w E Q hq => ?_
    refine SeqAt.RcAt.lists (e := fun _ => true) (isL N h1) (isL N h2) rfl hu (fun j hj _ => ?_) prog w E Q hq
    match j, hj with
    | 0, _ => exact (show SeqAt.EqAt A.in1 s (.str x t) (.str x u) true from fun prog w E Q hq => SeqAt.EqAt.str_str x t x u prog w E Q (by simpa using hq))
theorem ne_words {x : Str} {t1 t2 t3 t4 : Tok} {r1 r2 r3 r4 : Addr} (N : News h₀ L s.heap news) (g1 : (l, listOf [.ref r1, .ref r2].toArray ep) ∈ news) (g2 : (l', listOf [.ref r3, .ref r4].toArray ep') ∈ news)
    (h1 : (r1, listOf [.str x t1].toArray ep2) ∈ news) (h2 : (r2, listOf [.str x t2].toArray ep3) ∈ news) (h3 : (r3, listOf [.str x t3].toArray ep4) ∈ news) (h4 : (r4, listOf [.str x t4].toArray ep5) ∈ news) (hu : A.in1.units < cLine) (hu' : A.units < cLine) (h : Q (.bool false) s) :
    wpAny (model prog w) A (compareOp .NotEq (.ref l) (.ref l')) Q E s := by
  refine SeqAt.RcNeAt.lists (e := fun _ => true) (isL N g1) (isL N g2) rfl hu' (fun j hj _ => ?_) prog w E Q h
  match j, hj with
  | 0, _ => exact eq_word N h1 h3 hu
  | 1, _ => exact eq_word N h2 h4 hu
theorem to_tail {h' : Heap} {num : Int} {tn : Tok} {one two : List Nat} {many more other rest : Nat} {Dr Db Dh : Addr} {ts td t1 t2 t3 t4 t5 t6 : Tok} (F : Fr h₀ L h' m) (h0 : m "number" = some (.int num tn))
    (h1 : m "rest" = some (.int (rest : Int) t6)) (h2 : m "other" = some (.int (other : Int) t5)) (h3 : m "more" = some (.int (more : Int) t4)) (h4 : m "many" = some (.int (many : Int) t3))
    (h5 : m "two" = some (tx k two t2)) (h6 : m "one" = some (tx k one t1)) (h7 : m "roots" = some (.ref Dr)) (h8 : m "between" = some (.ref Db)) (h9 : m "behind" = some (.ref Dh))
    (h10 : m "dot" = some (tx k [46] td)) (h11 : m "slash" = some (tx k [47] ts)) :
    Fr h₀ L h' (fun y => if y = "number" then some (.int num tn) else cmap k one two many more other rest Dr Db Dh ts td t1 t2 t3 t4 t5 t6 m y) := by
  have e : m = (fun (y : Str) => if y = "number" then some (.int num tn) else cmap k one two many more other rest Dr Db Dh ts td t1 t2 t3 t4 t5 t6 m y) := by
    funext y
    exact (ite_at h0 (congrFun (cmap_of h1 h2 h3 h4 h5 h6 h7 h8 h9 h10 h11) y).symm).symm
  exact e ▸ F
end
section
variable {prog : Program} {w : World} {A : Around} {E Q : Value → Shared → Prop} {s : Shared} {h₀ : Heap} {L l : Addr} {m : Str → Option Value} {news : List (Addr × Obj)} {value slice : PySem.Expr} {ep : Nat} {k : Kd} {l0 l1 : List Nat} {u t0 t1 : Tok}
theorem q_it0 (N : News h₀ L s.heap news) (hm : (l, listOf [tx k l0 t0, tx k l1 t1].toArray ep) ∈ news) (h : Q (tx k l0 t0) s)
    (hs : subscripted slice false (.ref l) (.int 0 u) = operate [.ref l, .int 0 u] (getItem (.ref l) (.int 0 u)) := by with_unfolding_all rfl) : wpAny (model prog w) A (subscriptTail value slice (.ref l) (.int 0 u)) Q E s :=
  tail_any (isL N hm).typeIs slot_list_getitem.lookup (wpAny_getItem_list (isL N hm) (by decide) (by decide) (by rfl) h) hs
theorem q_it1 (N : News h₀ L s.heap news) (hm : (l, listOf [tx k l0 t0, tx k l1 t1].toArray ep) ∈ news) (h : Q (tx k l1 t1) s)
    (hs : subscripted slice false (.ref l) (.int 1 u) = operate [.ref l, .int 1 u] (getItem (.ref l) (.int 1 u)) := by with_unfolding_all rfl) : wpAny (model prog w) A (subscriptTail value slice (.ref l) (.int 1 u)) Q E s :=
  tail_any (isL N hm).typeIs slot_list_getitem.lookup (wpAny_getItem_list (isL N hm) (by decide) (by decide) (by rfl) h) hs
end
end
section
section
variable {w : World} {s s0 : Shared} {E : Value → Shared → Prop} {Q : Flow → Shared → Prop} {mg mb : Str → Option Value} {loose : List Str} {mean : ExcName → Option Value} {L a : Addr} {ccd : Value} {h₀ : Heap}
abbrev dmap (k : Kd) (fore back lead tail : List Nat) (Dw : Addr) (num : Int) (tf tb tl tt tn : Tok) (r : Str → Option Value) : Str → Option Value := fun y =>
  if y = "back" then some (tx k back tb) else if y = "fore" then some (tx k fore tf) else if y = "tail" then some (tx k tail tt) else if y = "lead" then some (tx k lead tl) else if y = "word" then some (.ref Dw) else if y = "number" then some (.int num tn) else r y
theorem dmap_of {k : Kd} {fore back lead tail : List Nat} {Dw : Addr} {num : Int} {tf tb tl tt tn : Tok} {m r : Str → Option Value} (h1 : m "back" = some (tx k back tb)) (h2 : m "fore" = some (tx k fore tf)) (h3 : m "tail" = some (tx k tail tt)) (h4 : m "lead" = some (tx k lead tl)) (h5 : m "word" = some (.ref Dw)) (h6 : m "number" = some (.int num tn)) (hr : r = m) : m = dmap k fore back lead tail Dw num tf tb tl tt tn r := by
  subst hr
  funext y
  exact (ite_at h1 (ite_at h2 (ite_at h3 (ite_at h4 (ite_at h5 (ite_at h6 rfl)))))).symm
theorem nmap_of {num : Int} {tn : Tok} {m r : Str → Option Value} (h6 : m "number" = some (.int num tn)) (hr : ∀ y, r y = m y) : m = fun (y : Str) => if y = "number" then some (.int num tn) else r y := by
  funext y
  exact (ite_at h6 (hr y)).symm
theorem q_uptoX {prog : Program} {A : Around} {E Q : Value → Shared → Prop} {l : Addr} {m : Str → Option Value} {news : List (Addr × Obj)} {value slice : PySem.Expr} {vs : List Value} {ep : Nat} {i : Nat} {x : Int} {u : Tok} (F : Fr h₀ L s.heap m) (N : News h₀ L s.heap news) (hm : (l, listOf vs.toArray ep) ∈ news) (hx : x = (i : Int)) (hz : vs.length ≤ 5000)
    (h : ∀ D h', Fr h₀ L h' m → News h₀ L h' ((D, lst (vs.take i)) :: news) → (∀ p ∈ news, p.1 < D) → Q (.ref D) { s with heap := h' })
    (hs : subscripted slice false (.ref l) (.ref s.heap.objs.size) = operate [.ref s.heap.objs.size, .ref l] (getItem (.ref l) (.ref s.heap.objs.size)) := by with_unfolding_all rfl) (ht : ∀ r, letTemporaryGo value (.ref l) r = pure () := by intro _; with_unfolding_all rfl) :
    wpAny (model prog w) A (subscriptTail value slice (.ref l) (.ref s.heap.objs.size)) Q E { s with heap := s.heap.push { cls := .type "slice", data := .fields #[.none, .int x u, .none] } } := by
  subst hx
  exact q_upto F N hm hz h hs ht
theorem min_at (a b : Nat) : (if (b : Int) < (a : Int) then (b : Int) else (a : Int)) = ((min a b : Nat) : Int) := by
  by_cases h : b < a
  · rw [if_pos (by omega), Nat.min_eq_right (by omega)]
  · rw [if_neg (by omega), Nat.min_eq_left (by omega)]
set_option maxHeartbeats 8000000
theorem law_due {k : Kd} {c : Nat} {B : List Nat} (n : Nms c B) (X : (Mine.hd.heap_1 w.params).In h₀) (T : Top PV loose mean mg mb h₀) {Dr Db Dh Dz D2 I Dw : Addr} {ts td t1 t2 t3 t4 t5 t6 tn tS tf tb tl tt : Tok} {oI oN oz or ob oh o2 oS oC : Obj} {i : Nat} {num : Int} {r : Str → Option Value} {u v W : List Bool} {xC : Option Value} (hr : (u, v) ∈ reach i) (P : Pair u v W)
    {e1 e2 g m : Bool} {ws : List Value} {wn : Nat} (hW : TxsAre k ws (wd c B W))
    (hN : oN.data = .cell (some (.ref Dz))) (hS : oS.data = .cell (some (.int ((u.length : Int) + (v.length : Int)) tS))) (hC : oC.data = .cell xC)
    (off : ∀ q ∈ [(L + 1 + 1, oS), (L + 1 + 1 + 1, oC), (L + 1, oN), (Dz, oz), (Dr, or), (Db, ob), (Dh, oh), (D2, o2)], q.1 ≠ I)
    (F : Fr h₀ L s.heap (dmap k (pth e1 g m (wd c B u) (wd c B v)) (pth e2 g m (wd c B v) (wd c B u)) (rt e1) (rt e2) Dw num tf tb tl tt tn (cmap k (J (wd c B u)) (J (wd c B v)) u.length (ones u) v.length (ones v) Dr Db Dh ts td t1 t2 t3 t4 t5 t6 r)))
    (N : News h₀ L s.heap ((Dw, listOf ws.toArray wn) :: (I, oI) :: [(L + 1 + 1, oS), (L + 1 + 1 + 1, oC), (L + 1, oN), (Dz, oz), (Dr, or), (Db, ob), (Dh, oh), (D2, o2)]))
    (hs : s = { s0 with heap := s.heap, toks := s.toks })
    (hE : PassesOwn (model PR w) (callerA.deeper (lawEnv L a ccd)) (lawEnv L a ccd) E) :
    wpAny (model PR w) (callerA.deeper (lawEnv L a ccd)) (execs (forBody.drop 7) (lawEnv L a ccd))
      (TurnEnd h₀ L I oI (LJ k c B Dr Db Dh (L + 1 + 1) (L + 1 + 1 + 1) (L + 1) Dz D2 ts td oN oz or ob oh o2 (i + 1)) s0 Q) E s := by
  walk_at "mine fill"
  have Plen := P.len
  have Pu := List.length_pos_iff.mpr P.un
  have Pv := List.length_pos_iff.mpr P.vn
  have hE0 := hE
  unfold lawEnv at hE ⊢
  have e : lawSc = Scope.mk _ _ _ _ _ := rfl
  rw [e] at hE ⊢
  clear e
  show wpAny _ _ (execs (_ :: _) _) _ _ _
  obtain ⟨s1, s2, s3, s4, s5⟩ := s
  obtain ⟨p1, p2, p3, p4, p5⟩ := s0
  simp only [Shared.mk.injEq] at hs
  obtain ⟨-, rfl, rfl, -, rfl⟩ := hs
  try dsimp only at hE F N ⊢
  k_fold
  have lW : W.length + 2 = u.length + v.length := by have := congrArg List.length P.uv; simp only [List.length_append, List.length_cons, List.length_nil] at this; omega
  have okW : ∀ p ∈ wd c B W, Ok p := fun p hp => by obtain ⟨b, _, rfl⟩ := List.mem_map.mp hp; exact n.oknam b
  have lnW : (wd c B W).length ≤ 2000 := by unfold wd; rw [List.length_map]; omega
  have okJW : Ok (J (wd c B W)) := n.okJ W (by omega)
  have okU : Ok (J (wd c B u)) := n.okJ u (by omega)
  have okV : Ok (J (wd c B v)) := n.okJ v (by omega)
  have gU : Goods (wd c B u) := n.wd P.un
  have gV : Goods (wd c B v) := n.wd P.vn
  have lenU := (n.Jlt u).2
  have lenV := (n.Jlt v).2
  have lenW := (n.Jlt W).2
  have okr1 : Ok (rt e1) := ok_rt e1
  have okr2 : Ok (rt e2) := ok_rt e2
  have lenr : (rt e1).length ≤ 1 := by cases e1 <;> decide
  have okrW := okR n e1 W (by omega)
  have ok47 : Ok [47] := ⟨by decide, by decide⟩
  repeat' (first | ((fail_if_success (with_reducible show wpAny _ _ (subscriptTail _ _ _ _) _ _ _)); first | walk1 | (dsimp only; walk1)) | fail "no step")
  rename Fr _ _ _ _ => Fp
  rename News _ _ _ _ => Np
  k_dflt (refine q_uptoX (s := ⟨_, _, _, _, _⟩) Fp Np (by walk_at "mine mem") (min_at _ _) (by rw [hW.length]; omega) ?_)
  intro Dc hc' Fq Nq _
  have hW2 := hW.take (min u.length v.length)
  have okW2 : ∀ p ∈ (wd c B W).take (min u.length v.length), Ok p := fun p hp => okW p (List.mem_of_mem_take hp)
  have lnW2 : ((wd c B W).take (min u.length v.length)).length ≤ 2000 := by rw [List.length_take]; omega
  have okJW2 : Ok (J ((wd c B W).take (min u.length v.length))) := by rw [← wd_take]; exact n.okJ _ (by rw [List.length_take]; omega)
  have okrW2 : Ok (rt e1 ++ J ((wd c B W).take (min u.length v.length))) := by rw [← wd_take]; exact okR n e1 _ (by rw [List.length_take]; omega)
  k_sweep
  repeat' (first | ((fail_if_success (with_reducible show wpAny _ _ (exec (Stmt.If _ _ _ _) _) _ _ _)); first | walk1 | (dsimp only; walk1)) | fail "no step")
  have gfore : Ok (pth e1 g m (wd c B u) (wd c B v)) := (pth_ok n e1 g m u v (by omega)).1
  have gback : Ok (pth e2 g m (wd c B v) (wd c B u)) := (pth_ok n e2 g m v u (by omega)).1
  have lenr2 : (rt e2).length ≤ 1 := by cases e2 <;> decide
  have smR : ∀ x y : List Nat, x.length ≤ 300 → y.length ≤ 300 → x.length + ([y].map fun b => b.length + 1).sum ≤ 1000 := fun x y h1 h2 => by
    simp only [List.map_cons, List.map_nil, List.sum_cons, List.sum_nil]
    omega
  have okbU : ∀ b ∈ [J (wd c B u)], Ok b := fun b hb => by rw [List.mem_singleton.mp hb]; exact okU
  have okbV : ∀ b ∈ [J (wd c B v)], Ok b := fun b hb => by rw [List.mem_singleton.mp hb]; exact okV
  have okR1 := okR n e1 u (by omega)
  have okR2 := okR n e2 v (by omega)
  have okp2 : ∀ b ∈ [pth e1 g m (wd c B u) (wd c B v), pth e2 g m (wd c B v) (wd c B u)], Ok b := by
    simp only [List.forall_mem_cons, List.not_mem_nil, false_implies, implies_true, and_true]
    exact ⟨gfore, gback⟩
  have okp4 : ∀ b ∈ [pth e1 g m (wd c B u) (wd c B v), rt e1 ++ J (wd c B u), rt e2 ++ J (wd c B v), pth e2 g m (wd c B v) (wd c B u)], Ok b := by
    simp only [List.forall_mem_cons, List.not_mem_nil, false_implies, implies_true, and_true]
    exact ⟨gfore, okR1, okR2, gback⟩
  have hb2 : ∀ b ∈ [u ++ v, v ++ u], b.length ≤ 100 := by
    simp only [List.forall_mem_cons, List.not_mem_nil, false_implies, implies_true, and_true, List.length_append]
    omega
  have hb4 : ∀ b ∈ [u ++ v, u, v, v ++ u], b.length ≤ 100 := by
    simp only [List.forall_mem_cons, List.not_mem_nil, false_implies, implies_true, and_true, List.length_append]
    omega
  by_cases he : e1 = e2
  · subst he
    have hne : (rt e1 != rt e1) = false := by simp
    repeat' (first | ((fail_if_success (with_reducible show wpAny _ _ (call (Value.ref 153) _) _ _ _)); first | walk1 | (dsimp only; walk1)) | fail "no step")
    rename Fr _ _ _ _ => Fk
    rename News _ _ _ _ => Nk
    (with_unfolding_all refine c_com (e1 := e1) (e2 := e1) rfl X T Fk Nk (.cons (.cons .nil)) okp2 n (lists2 n P e1 e1 g m) hb2 (signs2 n P e1 e1 g m) (by simp only [List.length_cons, List.length_nil]; decide) P.two (fun _ t h' tk F' N' => ?_) (fun q => absurd rfl q))
    clear Fk Nk
    k_sweep
    repeat' (first | ((fail_if_success (with_reducible show wpAny _ _ (call (Value.ref 115) _) _ _ _)); first | walk1 | (dsimp only; walk1)) | fail "no step")
    rename Fr _ _ _ _ => Fk
    rename News _ _ _ _ => Nk
    k_dflt (refine c_join (Frag.In.keeps X Fk.keep) (Top.keeps T Fk.keep) (by decide) (.cons .nil) (.inl ⟨_, rfl⟩) okbU (jn_okT okr1 okbU (smR _ _ (by omega) (by omega))) ?_)
    intro tq hq1 tkq Kq
    have Fl := Fr.keeps Fk Kq
    have Nl := News.grown Nk Kq
    clear Fk Nk Kq
    rw [jn_one e1 gU]
    k_sweep
    repeat' (first | ((fail_if_success (with_reducible show wpAny _ _ (call (Value.ref 115) _) _ _ _)); first | walk1 | (dsimp only; walk1)) | fail "no step")
    rename Fr _ _ _ _ => Fk
    rename News _ _ _ _ => Nk
    k_dflt (refine c_join (Frag.In.keeps X Fk.keep) (Top.keeps T Fk.keep) (by decide) (.cons .nil) (.inl ⟨_, rfl⟩) okbV (jn_okT okr1 okbV (smR _ _ (by omega) (by omega))) ?_)
    intro tq hq1 tkq Kq
    have Fl := Fr.keeps Fk Kq
    have Nl := News.grown Nk Kq
    clear Fk Nk Kq
    rw [jn_one e1 gV]
    k_sweep
    repeat' (first | ((fail_if_success (with_reducible show wpAny _ _ (call (Value.ref 153) _) _ _ _)); first | walk1 | (dsimp only; walk1)) | fail "no step")
    rename Fr _ _ _ _ => Fk
    rename News _ _ _ _ => Nk
    (with_unfolding_all refine c_com (e1 := e1) (e2 := e1) rfl X T Fk Nk (.cons (.cons (.cons (.cons .nil)))) okp4 n (lists4 n P e1 e1 g m) hb4 (signs4 n P e1 e1 g m) (by simp only [List.length_cons, List.length_nil]; decide) P.four (fun _ t h' tk F' N' => ?_) (fun q => absurd rfl q))
    clear Fk Nk
    k_sweep
    rw [wd_take]
    repeat' (first | ((fail_if_success (with_reducible show wpAny _ _ (compareOp CmpOp.NotEq (Value.ref _) (Value.ref _)) _ _ _)); first | walk1 | (dsimp only; walk1)) | fail "no step")
    rename News _ _ _ _ => Nk
    k_dflt (refine ne_two Nk (by walk_at "mine mem") (by walk_at "mine mem") okrW okrW2 (by first | ktr_units | (simp only [units_deeper, units_caller]; decide)) ?_)
    repeat' (first | ((fail_if_success (with_reducible show wpAny _ _ (execs [Stmt.If _ _ _ _, Stmt.If _ _ _ _] _) _ _ _)); first | walk1 | (dsimp only; walk1)) | fail "no step")
    rename Fr _ _ _ _ => Fz
    rename News _ _ _ _ => Nz
    refine law_tail (nw := []) n X T hr P hN hS hC off (to_tail Fz (by rfl) (by rfl) (by rfl) (by rfl) (by rfl) (by rfl) (by rfl) (by rfl) (by rfl) (by rfl) (by rfl) (by rfl)) (fun p hp => Nz p (by repeat (first | exact hp | refine List.Mem.tail _ ?_))) rfl hE0
  · have hne : (rt e1 != rt e2) = true := by cases e1 <;> cases e2 <;> first | rfl | exact absurd rfl he
    repeat' (first | ((fail_if_success (with_reducible show wpAny _ _ (call (Value.ref 153) _) _ _ _)); first | walk1 | (dsimp only; walk1)) | fail "no step")
    rename Fr _ _ _ _ => Fk
    rename News _ _ _ _ => Nk
    (with_unfolding_all refine c_com (e1 := e1) (e2 := e2) rfl X T Fk Nk (.cons (.cons .nil)) okp2 n (lists2 n P e1 e2 g m) hb2 (signs2 n P e1 e2 g m) (by simp only [List.length_cons, List.length_nil]; decide) P.two (fun q => absurd q he) (fun _ q2 tm h' tk F' N' => ?_))
    clear Fk Nk
    k_sweep
    repeat' (first | ((fail_if_success (with_reducible show wpAny _ _ (call (Value.ref 115) _) _ _ _)); first | walk1 | (dsimp only; walk1)) | fail "no step")
    rename Fr _ _ _ _ => Fk
    rename News _ _ _ _ => Nk
    k_dflt (refine c_join (Frag.In.keeps X Fk.keep) (Top.keeps T Fk.keep) (by decide) (.cons .nil) (.inl ⟨_, rfl⟩) okbU (jn_okT okr1 okbU (smR _ _ (by omega) (by omega))) ?_)
    intro tq hq1 tkq Kq
    have Fl := Fr.keeps Fk Kq
    have Nl := News.grown Nk Kq
    clear Fk Nk Kq
    rw [jn_one e1 gU]
    k_sweep
    repeat' (first | ((fail_if_success (with_reducible show wpAny _ _ (call (Value.ref 115) _) _ _ _)); first | walk1 | (dsimp only; walk1)) | fail "no step")
    rename Fr _ _ _ _ => Fk
    rename News _ _ _ _ => Nk
    k_dflt (refine c_join (Frag.In.keeps X Fk.keep) (Top.keeps T Fk.keep) (by decide) (.cons .nil) (.inl ⟨_, rfl⟩) okbV (jn_okT okr2 okbV (smR _ _ (by omega) (by omega))) ?_)
    intro tq hq1 tkq Kq
    have Fl := Fr.keeps Fk Kq
    have Nl := News.grown Nk Kq
    clear Fk Nk Kq
    rw [jn_one e2 gV]
    k_sweep
    repeat' (first | ((fail_if_success (with_reducible show wpAny _ _ (call (Value.ref 153) _) _ _ _)); first | walk1 | (dsimp only; walk1)) | fail "no step")
    rename Fr _ _ _ _ => Fk
    rename News _ _ _ _ => Nk
    (with_unfolding_all refine c_com (e1 := e1) (e2 := e2) rfl X T Fk Nk (.cons (.cons (.cons (.cons .nil)))) okp4 n (lists4 n P e1 e2 g m) hb4 (signs4 n P e1 e2 g m) (by simp only [List.length_cons, List.length_nil]; decide) P.four (fun q => absurd q he) (fun _ q4 tm h' tk F' N' => ?_))
    clear Fk Nk
    k_sweep
    repeat' (first | ((fail_if_success (with_reducible show wpAny _ _ (compareOp CmpOp.NotEq (Value.ref _) (Value.ref _)) _ _ _)); first | walk1 | (dsimp only; walk1)) | fail "no step")
    rename News _ _ _ _ => Nk
    k_dflt (refine ne_words Nk (by walk_at "mine mem") (by walk_at "mine mem") (by walk_at "mine mem") (by walk_at "mine mem") (by walk_at "mine mem") (by walk_at "mine mem") (by first | ktr_units | (simp only [units_in1, units_deeper, units_caller]; decide)) (by first | ktr_units | (simp only [units_deeper, units_caller]; decide)) ?_)
    repeat' (first | ((fail_if_success (with_reducible show wpAny _ _ (execs [Stmt.If _ _ _ _, Stmt.If _ _ _ _] _) _ _ _)); first | walk1 | (dsimp only; walk1)) | fail "no step")
    rename Fr _ _ _ _ => Fz
    rename News _ _ _ _ => Nz
    refine law_tail (nw := []) n X T hr P hN hS hC off (to_tail Fz (by rfl) (by rfl) (by rfl) (by rfl) (by rfl) (by rfl) (by rfl) (by rfl) (by rfl) (by rfl) (by rfl) (by rfl)) (fun p hp => Nz p (by repeat (first | exact hp | refine List.Mem.tail _ ?_))) rfl hE0
end
theorem to_due {h₀ h' : Heap} {L : Addr} {m : Str → Option Value} {k : Kd} {fore back lead tail : List Nat} {Dw : Addr} {num : Int} {tf tb tl tt tn : Tok} {one two : List Nat} {many more other rest : Nat} {Dr Db Dh : Addr} {ts td t1 t2 t3 t4 t5 t6 : Tok} (F : Fr h₀ L h' m)
    (g1 : m "back" = some (tx k back tb)) (g2 : m "fore" = some (tx k fore tf)) (g3 : m "tail" = some (tx k tail tt)) (g4 : m "lead" = some (tx k lead tl)) (g5 : m "word" = some (.ref Dw)) (g6 : m "number" = some (.int num tn))
    (h1 : m "rest" = some (.int (rest : Int) t6)) (h2 : m "other" = some (.int (other : Int) t5)) (h3 : m "more" = some (.int (more : Int) t4)) (h4 : m "many" = some (.int (many : Int) t3))
    (h5 : m "two" = some (tx k two t2)) (h6 : m "one" = some (tx k one t1)) (h7 : m "roots" = some (.ref Dr)) (h8 : m "between" = some (.ref Db)) (h9 : m "behind" = some (.ref Dh))
    (h10 : m "dot" = some (tx k [46] td)) (h11 : m "slash" = some (tx k [47] ts)) :
    Fr h₀ L h' (dmap k fore back lead tail Dw num tf tb tl tt tn (cmap k one two many more other rest Dr Db Dh ts td t1 t2 t3 t4 t5 t6 m)) := by
  have e : m = dmap k fore back lead tail Dw num tf tb tl tt tn (cmap k one two many more other rest Dr Db Dh ts td t1 t2 t3 t4 t5 t6 m) := dmap_of g1 g2 g3 g4 g5 g6 (cmap_of h1 h2 h3 h4 h5 h6 h7 h8 h9 h10 h11).symm
  exact e ▸ F
theorem news_dup {h₀ h' : Heap} {L : Addr} {nw : List (Addr × Obj)} {q : Addr × Obj} (N : News h₀ L h' nw) (hm : q ∈ nw) : News h₀ L h' (q :: nw) := fun p hp => by
  rcases List.mem_cons.mp hp with rfl | hp
  · exact N _ hm
  · exact N _ hp
end
section
noncomputable def inBody : List Stmt := match (forBody[6]? : Option Stmt) with | some (Stmt.For _ _ b _ _) => b | _ => []
abbrev imap (k : Kd) (path root : List Nat) (De Dw : Addr) (tp tr ts : Tok) (r : Str → Option Value) : Str → Option Value := fun y =>
  if y = "ends" then some (.ref De) else if y = "root" then some (tx k root tr) else if y = "path" then some (tx k path tp) else if y = "word" then some (.ref Dw) else if y = "slash" then some (tx k [47] ts) else r y
section
variable {h₀ h' : Heap} {L : Addr} {m : Str → Option Value} {k : Kd}
theorem to_pass {path root : List Nat} {De Dw : Addr} {tp tr ts : Tok} (F : Fr h₀ L h' m) (h1 : m "ends" = some (.ref De)) (h2 : m "root" = some (tx k root tr)) (h3 : m "path" = some (tx k path tp)) (h4 : m "word" = some (.ref Dw)) (h5 : m "slash" = some (tx k [47] ts)) : Fr h₀ L h' (imap k path root De Dw tp tr ts m) := by
  have e : m = imap k path root De Dw tp tr ts m := by
    funext y
    exact (ite_at h1 (ite_at h2 (ite_at h3 (ite_at h4 (ite_at h5 rfl))))).symm
  exact e ▸ F
end
section
variable {w : World} {s : Shared} {E : Value → Shared → Prop} {Q : Flow → Shared → Prop} {mg mb : Str → Option Value} {loose : List Str} {mean : ExcName → Option Value} {L a : Addr} {ccd : Value} {h₀ : Heap}
set_option maxHeartbeats 8000000
theorem law_pass {k : Kd} {c : Nat} {B : List Nat} (n : Nms c B) (X : (Mine.hd.heap_1 w.params).In h₀) (T : Top PV loose mean mg mb h₀) {e g m b : Bool} {u v W : List Bool} (un : u ≠ []) (vn : v ≠ []) (hl : u.length + v.length ≤ 50) (huv : u ++ v = (W ++ [b]) ++ [!b])
    {De Dw : Addr} {ws : List Value} {wn ze : Nat} {ta tb tp tr ts : Tok} {r : Str → Option Value} {nw : List (Addr × Obj)} (hW : TxsAre k ws (wd c B W)) (hmE : (De, listOf [tx k (nam c B b) ta, tx k (nam c B !b) tb].toArray ze) ∈ nw)
    (F : Fr h₀ L s.heap (imap k (pth e g m (wd c B u) (wd c B v)) (rt e) De Dw tp tr ts r)) (N : News h₀ L s.heap ((Dw, listOf ws.toArray wn) :: nw))
    (h : ∀ h' tk t1 t2, Fr h₀ L h' (fun y => if y = "last" then some (tx k (nam c B !b) t2) else if y = "head" then some (tx k (rt e ++ J (wd c B (W ++ [b]))) t1) else imap k (pth e g m (wd c B u) (wd c B v)) (rt e) De Dw tp tr ts r y) → News h₀ L h' nw → Q .next { s with heap := h', toks := tk })
    (hE : PassesOwn (model PR w) (callerA.deeper (lawEnv L a ccd)) (lawEnv L a ccd) E) :
    wpAny (model PR w) (callerA.deeper (lawEnv L a ccd)) (execs inBody (lawEnv L a ccd)) Q E s := by
  walk_at "mine fill"
  unfold lawEnv at hE ⊢
  have e0 : lawSc = Scope.mk _ _ _ _ _ := rfl
  rw [e0] at hE ⊢
  clear e0
  show wpAny _ _ (execs (_ :: _) _) _ _ _
  obtain ⟨s1, s2, s3, s4, s5⟩ := s
  try dsimp only at hE F N h ⊢
  try k_fold
  have lW : W.length + 2 = u.length + v.length := by have := congrArg List.length huv; simp only [List.length_append, List.length_cons, List.length_nil] at this; omega
  have okW : ∀ p ∈ wd c B W, Ok p := fun p hp => by obtain ⟨b, _, rfl⟩ := List.mem_map.mp hp; exact n.oknam b
  have lnW : (wd c B W).length ≤ 2000 := by unfold wd; rw [List.length_map]; omega
  have okJW : Ok (J (wd c B W)) := n.okJ W (by omega)
  have okr : Ok (rt e) := ok_rt e
  have okrW := okR n e W (by omega)
  have lWb : (W ++ [b]).length ≤ 50 := by rw [List.length_append, List.length_singleton]; omega
  have ok47 : Ok [47] := ⟨by decide, by decide⟩
  repeat' (first | ((fail_if_success (with_reducible show wpAny _ _ (call (Value.ref 136) _) _ _ _)); first | walk1 | (dsimp only; walk1)) | fail "no step")
  rename Fr _ _ _ _ => Fk
  rename News _ _ _ _ => Nk
  k_dflt (refine c_norm (Frag.In.keeps X Fk.keep) (Top.keeps T Fk.keep) (by decide) n e g m un vn hl ?_)
  intro tq hq1 tkq Kq
  have Fl := Fr.keeps Fk Kq
  have Nl := News.grown Nk Kq
  clear Fk Nk Kq
  rw [huv]
  k_sweep
  repeat' (first | ((fail_if_success (with_reducible show wpAny _ _ (call (Value.ref 122) _) _ _ _)); first | walk1 | (dsimp only; walk1)) | fail "no step")
  rename Fr _ _ _ _ => Fk
  rename News _ _ _ _ => Nk
  k_dflt (refine c_spl (Frag.In.keeps X Fk.keep) (Top.keeps T Fk.keep) (by decide) n e (W ++ [b]) (!b) lWb ?_)
  rintro Dp op hp1 tkp ⟨tp1, tp2, rfl⟩ Kp1 np ep1
  have Fl := Fr.keeps Fk Kp1
  have Nl := news_add Fk Nk Kp1 np ep1
  have Pp := news_ne Nk np
  clear Fk Nk Kp1 np ep1
  k_sweep
  repeat' (first | ((fail_if_success (with_reducible show wpAny _ _ (call (Value.ref 122) _) _ _ _)); first | walk1 | (dsimp only; walk1)) | fail "no step")
  rename Fr _ _ _ _ => Fk
  rename News _ _ _ _ => Nk
  k_dflt (refine c_spl (Frag.In.keeps X Fk.keep) (Top.keeps T Fk.keep) (by decide) n e W b (by omega) ?_)
  rintro Dp op hp1 tkp ⟨tp1, tp2, rfl⟩ Kp1 np ep1
  have Fl := Fr.keeps Fk Kp1
  have Nl := news_add Fk Nk Kp1 np ep1
  have Pp := news_ne Nk np
  clear Fk Nk Kp1 np ep1
  k_sweep
  repeat' (first | ((fail_if_success (with_reducible show wpAny _ _ (subscriptTail _ _ _ _) _ _ _)); first | walk1 | (dsimp only; walk1)) | fail "no step")
  rename News _ _ _ _ => Nk
  k_dflt (refine q_it0 (l0 := nam c B b) (l1 := nam c B !b) (t0 := ta) (t1 := tb) Nk (by repeat (first | exact hmE | refine List.Mem.tail _ ?_)) ?_)
  repeat' (first | ((fail_if_success (with_reducible show wpAny _ _ (subscriptTail _ _ _ _) _ _ _)); first | walk1 | (dsimp only; walk1)) | fail "no step")
  rename News _ _ _ _ => Nk
  k_dflt (refine q_it1 (l0 := nam c B b) (l1 := nam c B !b) (t0 := ta) (t1 := tb) Nk (by repeat (first | exact hmE | refine List.Mem.tail _ ?_)) ?_)
  repeat' (first | ((fail_if_success (with_reducible show wpAny _ _ (compareOp CmpOp.NotEq (Value.ref _) (Value.ref _)) _ _ _)); first | walk1 | (dsimp only; walk1)) | fail "no step")
  rename News _ _ _ _ => Nk
  k_dflt (refine ne_pair Nk (a := rt e ++ J (wd c B W)) (b := nam c B b) (d := nam c B !b) (by walk_at "mine mem") (by walk_at "mine mem") (by walk_at "mine mem") (by walk_at "mine mem") okrW (n.oknam _) (n.oknam _) (by first | ktr_units | (simp only [units_in1, units_deeper, units_caller]; decide)) (by first | ktr_units | (simp only [units_deeper, units_caller]; decide)) ?_)
  k_steps
  rename Fr _ _ _ _ => Fz
  rename News _ _ _ _ => Nz
  refine h _ _ _ _ Fz (fun p hp => Nz p (by repeat (first | exact hp | refine List.Mem.tail _ ?_)))
end
end
section
section
variable {w : World} {s : Shared} {E : Value → Shared → Prop} {Q : Flow → Shared → Prop} {mg mb : Str → Option Value} {loose : List Str} {mean : ExcName → Option Value} {L a : Addr} {ccd : Value} {h₀ : Heap}
set_option maxHeartbeats 8000000
theorem law_turn {k : Kd} {c : Nat} {B : List Nat} (n : Nms c B) (X : (Mine.hd.heap_1 w.params).In h₀) (T : Top PV loose mean mg mb h₀) {Dr Db Dh Dz D2 I : Addr} {ts td ta tb r1 r2 b1 b2 g1 g2 tn : Tok} {zn : Nat} {oN o2 oI : Obj} {i : Nat} (hi : i < 7) {num : Int} {m₁ : Str → Option Value} {nw : List (Addr × Obj)}
    (hN : oN.data = .cell (some (.ref Dz))) (hJ : LJ k c B Dr Db Dh (L + 1 + 1) (L + 1 + 1 + 1) (L + 1) Dz D2 ts td oN (listOf [tx k [c] ta, tx k B tb].toArray zn) (listOf [tx k [] r1, tx k [47] r2].toArray 0) (listOf [tx k [] b1, tx k [46] b2].toArray 0) (listOf [tx k [] g1, tx k [47, 47] g2].toArray 0) o2 i m₁ nw)
    (ho2 : ∀ v, o2.data ≠ .cell v) (off : ∀ p ∈ nw, p.1 ≠ I) (F : Fr h₀ L s.heap (fun y => if y = "number" then some (.int num tn) else m₁ y)) (N : News h₀ L s.heap ((I, oI) :: nw))
    (hE : PassesOwn (model PR w) (callerA.deeper (lawEnv L a ccd)) (lawEnv L a ccd) E) :
    wpAny (model PR w) (callerA.deeper (lawEnv L a ccd)) (execs forBody (lawEnv L a ccd))
      (TurnEnd h₀ L I oI (LJ k c B Dr Db Dh (L + 1 + 1) (L + 1 + 1 + 1) (L + 1) Dz D2 ts td oN (listOf [tx k [c] ta, tx k B tb].toArray zn) (listOf [tx k [] r1, tx k [47] r2].toArray 0) (listOf [tx k [] b1, tx k [46] b2].toArray 0) (listOf [tx k [] g1, tx k [47, 47] g2].toArray 0) o2 (i + 1)) s Q) E s := by
  walk_at "mine fill"
  obtain ⟨u, v, oS, oC, t1, t2, t3, t4, t5, t6, r, hr, rfl, ⟨xS, hS⟩, ⟨xC, hC⟩, rfl⟩ := hJ
  have P : Pair u v (mid0 (u.length + v.length) (ones u + ones v)) := pair_of hi hr
  have Plen := P.len
  have hE0 := hE
  unfold lawEnv at hE ⊢
  have e : lawSc = Scope.mk _ _ _ _ _ := rfl
  rw [e] at hE ⊢
  clear e
  show wpAny _ _ (execs (_ :: _) _) _ _ _
  try dsimp only at hE ⊢
  k_fold
  have off1 : @Ne Nat I (L + 1 + 1) := fun e => off _ (.head _) e.symm
  have off2 : @Ne Nat I (L + 1 + 1 + 1) := fun e => off _ (.tail _ (.head _)) e.symm
  have off3 : @Ne Nat I (L + 1) := fun e => off _ (.tail _ (.tail _ (.head _))) e.symm
  have okB : Ok B := n.oknam true
  have okc : Ok [c] := n.oknam false
  have okU : Ok (J (wd c B u)) := n.okJ u (by omega)
  have okV : Ok (J (wd c B v)) := n.okJ v (by omega)
  repeat' (first | ((fail_if_success (with_reducible show wpAny _ _ (storeName _ _ _) _ _ _)); first | walk1 | (dsimp only; walk1)) | fail "no step")
  rename Fr _ _ _ _ => F1
  rename News _ _ _ _ => N1
  (with_unfolding_all refine storeD F1 N1 (o := oS) (keep := [(L + 1 + 1 + 1, oC), (L + 1, oN), (Dz, listOf [tx k [c] ta, tx k B tb].toArray zn), (Dr, listOf [tx k [] r1, tx k [47] r2].toArray 0), (Db, listOf [tx k [] b1, tx k [46] b2].toArray 0), (Dh, listOf [tx k [] g1, tx k [47, 47] g2].toArray 0), (D2, o2), (I, oI)]) rfl (by walk_at "mine mem") hS ?ck ?_ rfl rfl)
  (case ck => walk_at "mine keep")
  clear F1 N1
  intro h1 oS' F1 N1 hS'
  repeat' (first | ((fail_if_success (with_reducible show wpAny _ _ (storeName _ _ _) _ _ _)); first | walk1 | (dsimp only; walk1)) | fail "no step")
  (with_unfolding_all refine storeD F1 N1 (o := oC) (keep := [(L + 1 + 1, oS'), (L + 1, oN), (Dz, listOf [tx k [c] ta, tx k B tb].toArray zn), (Dr, listOf [tx k [] r1, tx k [47] r2].toArray 0), (Db, listOf [tx k [] b1, tx k [46] b2].toArray 0), (Dh, listOf [tx k [] g1, tx k [47, 47] g2].toArray 0), (D2, o2), (I, oI)]) rfl (by walk_at "mine mem") hC ?ck ?_ rfl rfl)
  (case ck => walk_at "mine keep")
  clear F1 N1
  intro h1 oC' F1 N1 hC'
  have off' : ∀ q ∈ [(L + 1 + 1, oS'), (L + 1 + 1 + 1, oC'), (L + 1, oN), (Dz, listOf [tx k [c] ta, tx k B tb].toArray zn), (Dr, listOf [tx k [] r1, tx k [47] r2].toArray 0), (Db, listOf [tx k [] b1, tx k [46] b2].toArray 0), (Dh, listOf [tx k [] g1, tx k [47, 47] g2].toArray 0), (D2, o2)], q.1 ≠ I := by
    simp only [List.forall_mem_cons] at off ⊢
    exact off
  repeat' (first | ((fail_if_success (with_reducible show wpAny _ _ (exec (Stmt.Assign _ _ _) _) _ _ _)); first | walk1 | (dsimp only; walk1)) | fail "no step")
  rename Fr _ _ _ _ => Fa
  (with_unfolding_all refine asg_comp Fa rfl (by with_unfolding_all rfl) (by with_unfolding_all rfl) (by decide) (by rfl) (by decide) (by rfl) (by rfl) (by rfl) (by intro _; rfl) ?_)
  repeat' (first | ((fail_if_success (with_reducible show wpAny _ _ (pyIter _) _ _ _)); first | walk1 | (dsimp only; walk1)) | fail "no step")
  rename Fr _ _ _ _ => Fb
  rename News _ _ _ _ => Nb
  rename IsRange _ _ _ _ _ _ _ _ => hR
  have hb2 : (2 : Int) ≤ (u.length : Int) + v.length := by have := P.un; have := P.vn; have h3 := List.length_pos_iff.mpr P.un; have h4 := List.length_pos_iff.mpr P.vn; omega
  refine map_rng (n := u.length + v.length - 2) (fun j x => ∃ t, x = tx k (nam c B ((j + 2) * (ones u + ones v) / (u.length + v.length) - (j + 1) * (ones u + ones v) / (u.length + v.length) == 1)) t) rfl Fb Nb hR (small_one (by decide) (by decide) (by omega) (by omega)) (by rw [rangeSize_nat]; omega) (by omega) ?_ ?_
  · intro j tj I1 oI1 C1 oC1 D1 oA1 m₃ h8 tk8 E8 hj hC1 hx1 F8 N8
    have hat := P.at_ j hj
    have hix := idx_at hat.1 hat.2
    repeat' (first | ((fail_if_success (with_reducible show wpAny _ _ (subscriptTail _ _ _ _) _ _ _)); first | walk1 | (dsimp only; walk1)) | fail "no step")
    rename Fr _ _ _ _ => Fc
    rename News _ _ _ _ => Nc
    k_dflt (refine q_pick Nc (by walk_at "mine mem") hix ?_)
    intro t9
    exact .mk ⟨t9, rfl⟩ Fc Nc
  · intro g6 D6 us6 n6 hus6 hR6 o6 h6 tk6 F6 N6
    have hW := word_of hus6 hR6
    clear hR6 hus6 Fb Nb hR
    generalize hWd : mid0 (u.length + v.length) (ones u + ones v) = W at P hW
    have lW : W.length + 2 = u.length + v.length := by have := congrArg List.length P.uv; simp only [List.length_append, List.length_cons, List.length_nil] at this; omega
    have okW : ∀ p ∈ wd c B W, Ok p := fun p hp => by obtain ⟨b, _, rfl⟩ := List.mem_map.mp hp; exact n.oknam b
    have lnW : (wd c B W).length ≤ 2000 := by unfold wd; rw [List.length_map]; omega
    have okJW : Ok (J (wd c B W)) := n.okJ W (by omega)
    have huv : u ++ v = (W ++ [false]) ++ [true] := by rw [P.uv]; simp
    have hvu : v ++ u = (W ++ [true]) ++ [false] := by rw [P.vu]; simp
    have lWf : (W ++ [false]).length ≤ 50 := by rw [List.length_append, List.length_singleton]; omega
    have lWt : (W ++ [true]).length ≤ 50 := by rw [List.length_append, List.length_singleton]; omega
    obtain ⟨e1, he1⟩ := bit_of (num.fdiv 2)
    obtain ⟨e2, he2⟩ := bit_of (num.fdiv 4)
    obtain ⟨em, hem⟩ := bit_of (num.fdiv 8)
    obtain ⟨eg, heg⟩ := bit_of (num.fdiv 16)
    have ok47 : Ok [47] := ⟨by decide, by decide⟩
    have okg : Ok (if eg = true then [47, 47] else []) := ok_if ⟨by decide, by decide⟩ Ok.nil
    have okm : Ok (if em = true then [46] else []) := ok_if ⟨by decide, by decide⟩ Ok.nil
    have okr1 : Ok (if e1 = true then [47] else []) := ok_if ⟨by decide, by decide⟩ Ok.nil
    have okr2 : Ok (if e2 = true then [47] else []) := ok_if ⟨by decide, by decide⟩ Ok.nil
    have gU : Goods (wd c B u) := n.wd P.un
    have gV : Goods (wd c B v) := n.wd P.vn
    k_sweep
    repeat' (first | ((fail_if_success (with_reducible show wpAny _ _ (exec (Stmt.Assign [Expr.Name _ _] (Expr.Call _ _ _ _) _) _) _ _ _)); first | walk1 | (dsimp only; walk1)) | fail "no step")
    have lenU := (n.Jlt u).2
    have lenV := (n.Jlt v).2
    have lgl : (if eg = true then [47, 47] else ([] : List Nat)).length ≤ 2 := by cases eg <;> decide
    have lml : (if em = true then [46] else ([] : List Nat)).length ≤ 1 := by cases em <;> decide
    have okX_fore : Ok (J (wd c B u) ++ if eg = true then [47, 47] else []) := okU.app okg (by omega)
    have okX_back : Ok (J (wd c B v) ++ if eg = true then [47, 47] else []) := okV.app okg (by omega)
    have okb_fore : ∀ r' : Bool, ∀ b ∈ [if r' = true then [47] else [], J (wd c B u) ++ (if eg = true then [47, 47] else []), if em = true then [46] else [], J (wd c B v)], Ok b := fun r' => by
      simp only [List.forall_mem_cons, List.not_mem_nil, false_implies, implies_true, and_true]
      exact ⟨ok_if ok47 Ok.nil, okX_fore, okm, okV⟩
    have okb_back : ∀ r' : Bool, ∀ b ∈ [if r' = true then [47] else [], J (wd c B v) ++ (if eg = true then [47, 47] else []), if em = true then [46] else [], J (wd c B u)], Ok b := fun r' => by
      simp only [List.forall_mem_cons, List.not_mem_nil, false_implies, implies_true, and_true]
      exact ⟨ok_if ok47 Ok.nil, okX_back, okm, okU⟩
    have sm : ∀ (r' : Bool) (l x y : List Nat), l.length ≤ 300 → x.length ≤ 300 → y.length ≤ 300 → l.length + ([if r' = true then [47] else [], x, if em = true then [46] else [], y].map fun b => b.length + 1).sum ≤ 1000 := fun r' l x y h1 h2 h3 => by
      have h4 : (if r' = true then [47] else ([] : List Nat)).length ≤ 1 := by cases r' <;> decide
      simp only [List.map_cons, List.map_nil, List.sum_cons, List.sum_nil]
      omega
    have lxf : (J (wd c B u) ++ (if eg = true then [47, 47] else [])).length ≤ 300 := by rw [List.length_append]; omega
    have lxb : (J (wd c B v) ++ (if eg = true then [47, 47] else [])).length ≤ 300 := by rw [List.length_append]; omega
    rename Fr _ _ _ _ => Fj
    rename News _ _ _ _ => Nj
    refine cut1 k "fore" (pth e1 eg em (wd c B u) (wd c B v)) Fj Nj (fun Q' hq => ?_) (fun h' tk tj F' N' => ?_)
    · have okxg : Ok (J (wd c B u) ++ if eg = true then [47, 47] else []) := okX_fore
      cases e1
      · have hne : ((if false = true then [47] else []) != ([47] : List Nat)) = true := rfl
        repeat' (first | ((fail_if_success (with_reducible show wpAny _ _ (call (Value.ref 115) _) _ _ _)); first | walk1 | (dsimp only; walk1)) | fail "no step")
        rename Fr _ _ _ _ => Fk
        rename News _ _ _ _ => Nk
        have ej := jn_pth false eg em gU gV
        k_dflt (refine c_join (Frag.In.keeps X Fk.keep) (Top.keeps T Fk.keep) (by decide) (.cons (.cons (.cons (.cons .nil)))) (.inr ⟨_, _, _, _, rfl⟩) (okb_fore false) (jn_okT (l := if false = true then [47] else []) (ok_if ok47 Ok.nil) (okb_fore false) (sm false _ _ _ (by decide) lxf (by omega))) ?_)
        intro tq hq1 tkq Kq
        have Fl := Fr.keeps Fk Kq
        have Nl := News.grown Nk Kq
        clear Fk Nk Kq
        k_sweep
        k_steps
        rename Fr _ _ _ _ => Fz
        rename News _ _ _ _ => Nz
        replace Fz := ej ▸ Fz
        exact hq _ _ _ Fz Nz
      · have hne : ((if true = true then [47] else []) != ([47] : List Nat)) = false := rfl
        repeat' (first | ((fail_if_success (with_reducible show wpAny _ _ (call (Value.ref 115) _) _ _ _)); first | walk1 | (dsimp only; walk1)) | fail "no step")
        rename Fr _ _ _ _ => Fk
        rename News _ _ _ _ => Nk
        have ej := jn_pth true eg em gU gV
        k_dflt (refine c_join (Frag.In.keeps X Fk.keep) (Top.keeps T Fk.keep) (by decide) (.cons (.cons (.cons (.cons .nil)))) (.inr ⟨_, _, _, _, rfl⟩) (okb_fore true) (jn_okT okV (okb_fore true) (sm true _ _ _ (by omega) lxf (by omega))) ?_)
        intro tq hq1 tkq Kq
        have Fl := Fr.keeps Fk Kq
        have Nl := News.grown Nk Kq
        clear Fk Nk Kq
        k_sweep
        k_steps
        rename Fr _ _ _ _ => Fz
        rename News _ _ _ _ => Nz
        replace Fz := ej ▸ Fz
        exact hq _ _ _ Fz Nz
    clear Fj Nj
    k_sweep
    repeat' (first | ((fail_if_success (with_reducible show wpAny _ _ (exec _ _) _ _ _)); first | walk1 | (dsimp only; walk1)) | fail "no step")
    rename Fr _ _ _ _ => Fj
    rename News _ _ _ _ => Nj
    refine cut1 k "back" (pth e2 eg em (wd c B v) (wd c B u)) Fj Nj (fun Q' hq => ?_) (fun h' tk tj F' N' => ?_)
    · have okxg : Ok (J (wd c B v) ++ if eg = true then [47, 47] else []) := okX_back
      cases e2
      · have hne : ((if false = true then [47] else []) != ([47] : List Nat)) = true := rfl
        repeat' (first | ((fail_if_success (with_reducible show wpAny _ _ (call (Value.ref 115) _) _ _ _)); first | walk1 | (dsimp only; walk1)) | fail "no step")
        rename Fr _ _ _ _ => Fk
        rename News _ _ _ _ => Nk
        have ej := jn_pth false eg em gV gU
        k_dflt (refine c_join (Frag.In.keeps X Fk.keep) (Top.keeps T Fk.keep) (by decide) (.cons (.cons (.cons (.cons .nil)))) (.inr ⟨_, _, _, _, rfl⟩) (okb_back false) (jn_okT (l := if false = true then [47] else []) (ok_if ok47 Ok.nil) (okb_back false) (sm false _ _ _ (by decide) lxb (by omega))) ?_)
        intro tq hq1 tkq Kq
        have Fl := Fr.keeps Fk Kq
        have Nl := News.grown Nk Kq
        clear Fk Nk Kq
        k_sweep
        k_steps
        rename Fr _ _ _ _ => Fz
        rename News _ _ _ _ => Nz
        replace Fz := ej ▸ Fz
        exact hq _ _ _ Fz Nz
      · have hne : ((if true = true then [47] else []) != ([47] : List Nat)) = false := rfl
        repeat' (first | ((fail_if_success (with_reducible show wpAny _ _ (call (Value.ref 115) _) _ _ _)); first | walk1 | (dsimp only; walk1)) | fail "no step")
        rename Fr _ _ _ _ => Fk
        rename News _ _ _ _ => Nk
        have ej := jn_pth true eg em gV gU
        k_dflt (refine c_join (Frag.In.keeps X Fk.keep) (Top.keeps T Fk.keep) (by decide) (.cons (.cons (.cons (.cons .nil)))) (.inr ⟨_, _, _, _, rfl⟩) (okb_back true) (jn_okT okU (okb_back true) (sm true _ _ _ (by omega) lxb (by omega))) ?_)
        intro tq hq1 tkq Kq
        have Fl := Fr.keeps Fk Kq
        have Nl := News.grown Nk Kq
        clear Fk Nk Kq
        k_sweep
        k_steps
        rename Fr _ _ _ _ => Fz
        rename News _ _ _ _ => Nz
        replace Fz := ej ▸ Fz
        exact hq _ _ _ Fz Nz
    clear Fj Nj
    k_sweep
    repeat' (first | ((fail_if_success (with_reducible show wpAny _ _ (exec _ _) _ _ _)); first | walk1 | (dsimp only; walk1)) | fail "no step")
    clear okb_fore okb_back sm lxf lxb lgl lml
    repeat' (first | ((fail_if_success (with_reducible show wpAny _ _ (execs [Stmt.Assign _ _ _, Stmt.If _ _ _ _] _) _ _ _)); first | walk1 | (dsimp only; walk1)) | fail "no step")
    rename Fr _ _ _ _ => Fk
    rename News _ _ _ _ => Nk
    refine law_pass (b := false) (g := eg) (m := em) (e := e1) n X T P.un P.vn (by omega) huv hW (by walk_at "mine mem") (to_pass Fk (by rfl) (by rfl) (by rfl) (by rfl) (by rfl)) (news_dup Nk (by walk_at "mine mem")) (fun h' tk th tl F' N' => ?_) hE0
    clear Fk Nk
    k_sweep
    repeat' (first | ((fail_if_success (with_reducible show wpAny _ _ (execs [Stmt.Assign _ _ _, Stmt.If _ _ _ _] _) _ _ _)); first | walk1 | (dsimp only; walk1)) | fail "no step")
    rename Fr _ _ _ _ => Fk
    rename News _ _ _ _ => Nk
    refine law_pass (b := true) (g := eg) (m := em) (e := e2) n X T P.vn P.un (by omega) hvu hW (by walk_at "mine mem") (to_pass Fk (by rfl) (by rfl) (by rfl) (by rfl) (by rfl)) (news_dup Nk (by walk_at "mine mem")) (fun h' tk th tl F' N' => ?_) hE0
    clear Fk Nk
    k_sweep
    repeat' (first | ((fail_if_success (with_reducible show wpAny _ _ (execs [Stmt.Assign _ _ _, Stmt.If _ _ _ _, Stmt.If _ _ _ _, Stmt.If _ _ _ _, Stmt.If _ _ _ _] _) _ _ _)); first | walk1 | (dsimp only; walk1)) | fail "no step")
    rename Fr _ _ _ _ => Fz
    rename News _ _ _ _ => Nz
    refine law_due (Dw := D6) (wn := n6) (e1 := e1) (e2 := e2) (g := eg) (m := em) n X T hr P hW hN hS' hC' off' (to_due Fz (by rfl) (by rfl) (by rfl) (by rfl) (by rfl) (by rfl) (by rfl) (by rfl) (by rfl) (by rfl) (by rfl) (by rfl) (by rfl) (by rfl) (by rfl) (by rfl) (by rfl)) ?_ rfl hE0
    intro p hp
    simp only [List.mem_cons, List.not_mem_nil, or_false] at hp
    rcases hp with rfl | rfl | rfl | rfl | rfl | rfl | rfl | rfl | rfl | rfl <;> exact Nz _ (by walk_at "mine mem")
end
end
section
section
variable {w : World} {s : Shared} {E : Value → Shared → Prop} {Q : Flow → Shared → Prop} {mg mb : Str → Option Value} {loose : List Str} {mean : ExcName → Option Value} {L a : Addr} {ccd : Value} {h₀ : Heap}
theorem ints_at {vs : List Value} {ms : List Int} (h : IntsAre vs ms) {i : Nat} {v : Value} (e : vs[i]? = some v) : i < ms.length ∧ ∃ x t, v = .int x t := by
  induction h generalizing i with
  | nil => cases e
  | cons x t _ ih =>
    cases i with
    | zero => exact ⟨Nat.succ_pos _, _, _, (Option.some.inj e).symm⟩
    | succ i => exact ⟨Nat.succ_lt_succ (ih e).1, (ih e).2⟩
theorem law_for {k : Kd} {c : Nat} {B : List Nat} (n : Nms c B) (X : (Mine.hd.heap_1 w.params).In h₀) (T : Top PV loose mean mg mb h₀) {Dr Db Dh Dz D2 : Addr} {ts td ta tb r1 r2 b1 b2 g1 g2 t1 t2 t3 t4 t5 t6 : Tok} {zn : Nat} {oN oS oC : Obj} {xS xC : Option Value} {vs : List Value} {ms : List Int} {m : Str → Option Value} {nw : List (Addr × Obj)}
    (hv : IntsAre vs ms) (hl : ms.length = 7) (hN : oN.data = .cell (some (.ref Dz))) (hS : oS.data = .cell xS) (hC : oC.data = .cell xC)
    (F : Fr h₀ L s.heap m) (N : News h₀ L s.heap nw)
    (hm : ∀ q ∈ [(L + 1 + 1, oS), (L + 1 + 1 + 1, oC), (L + 1, oN), (Dz, listOf [tx k [c] ta, tx k B tb].toArray zn), (Dr, listOf [tx k [] r1, tx k [47] r2].toArray 0), (Db, listOf [tx k [] b1, tx k [46] b2].toArray 0), (Dh, listOf [tx k [] g1, tx k [47, 47] g2].toArray 0), (D2, listOf vs.toArray 0)], q ∈ nw)
    (h1 : m "rest" = some (.int 1 t6)) (h2 : m "other" = some (.int 1 t5)) (h3 : m "more" = some (.int 0 t4)) (h4 : m "many" = some (.int 1 t3))
    (h5 : m "two" = some (tx k B t2)) (h6 : m "one" = some (tx k [c] t1)) (h7 : m "roots" = some (.ref Dr)) (h8 : m "between" = some (.ref Db)) (h9 : m "behind" = some (.ref Dh))
    (h10 : m "dot" = some (tx k [46] td)) (h11 : m "slash" = some (tx k [47] ts))
    (hE : PassesOwn (model PR w) (callerA.deeper (lawEnv L a ccd)) (lawEnv L a ccd) E)
    (done : ∀ h tk m, Fr h₀ L h m → Q .next { s with heap := h, toks := tk }) :
    wpAny (model PR w) (callerA.deeper (lawEnv L a ccd)) (pyIter (.ref D2)) (fun it s₂ => LoopAtV PR w (callerA.deeper (lawEnv L a ccd)) h₀ (lawEnv L a ccd) "number" forBody Q E it s₂) E s := by
  refine iter_list (env := lawEnv L a ccd) (vs := vs) (ep := 0) (LJ k c B Dr Db Dh (L + 1 + 1) (L + 1 + 1 + 1) (L + 1) Dz D2 ts td oN (listOf [tx k [c] ta, tx k B tb].toArray zn) (listOf [tx k [] r1, tx k [47] r2].toArray 0) (listOf [tx k [] b1, tx k [46] b2].toArray 0) (listOf [tx k [] g1, tx k [47, 47] g2].toArray 0) (listOf vs.toArray 0)) rfl F (fun q hq => N q (hm q hq)) ?_ ?_ ?_ ?_
  · rintro i m nw ⟨_, _, _, _, _, _, _, _, _, _, _, _, _, _, _, rfl⟩
    exact .tail _ (.tail _ (.tail _ (.tail _ (.tail _ (.tail _ (.tail _ (.head _)))))))
  · exact ⟨[false], [true], oS, oC, t1, t2, t3, t4, t5, t6, m, .head _, cmap_of h1 h2 h3 h4 h5 h6 h7 h8 h9 h10 h11, ⟨_, hS⟩, ⟨_, hC⟩, rfl⟩
  · intro i v m₁ nw₁ h tk I oI hi hJ off F' N'
    obtain ⟨h7, x, t, rfl⟩ := ints_at hv hi
    exact law_turn n X T (by omega) hN hJ (fun v e => by cases e) off F' N' hE
  · intro h tk m₁ nw₁ _ F' _
    exact done h tk m₁ F'
end
end
section
section
variable {prog : Program} {w : World} {A : Around} {E : Value → Shared → Prop} {s : Shared} {h₀ : Heap} {L : Addr} {m : Str → Option Value} {news : List (Addr × Obj)} {Q : Flow → Shared → Prop} {t : Sem Flow}
theorem cutNum (a : Str) (_F : Fr h₀ L s.heap m) (_N : News h₀ L s.heap news)
    (h1 : ∀ Q' : Flow → Shared → Prop, (∀ D us ms n h' tk, IntsAre us ms → ms.length = 8 → Fr h₀ L h' (fun y => if y = a then some (.ref D) else m y) → News h₀ L h' ((D, listOf us.toArray n) :: news) → Q' .next { s with heap := h', toks := tk }) → wpAny (model prog w) A t Q' E s)
    (h2 : ∀ D us ms n h' tk, IntsAre us ms → ms.length = 8 → Fr h₀ L h' (fun y => if y = a then some (.ref D) else m y) → News h₀ L h' ((D, listOf us.toArray n) :: news) → Q .next { s with heap := h', toks := tk }) : wpAny (model prog w) A t Q E s := h1 Q h2
end
theorem script_map {g h : Heap} {L : Addr} {env : Env} {v : Value} (F : Fr g L h (bindL env.kindOf [("script", v)] fun _ => none)) (hk : env.kindOf "script" = some .local := by rfl) : Fr g L h (fun y => if y = "script" then some v else none) := by
  have e : (bindL env.kindOf [("script", v)] fun _ => none) = (fun y : Str => if y = Str.ofString "script" then some v else none) := by
    funext y
    simp only [bindL, hk]
    rfl
  rw [← e]; exact F
theorem slice_dflt {prog : Program} {w : World} {A : Around} {E Q : Value → Shared → Prop} {s : Shared} {h₀ : Heap} {L l : Addr} {m : Str → Option Value} {news : List (Addr × Obj)} {value slice : PySem.Expr} {t0 t1 t2 t3 t4 t5 t6 t7 u : Tok} {n : Nat} (F : Fr h₀ L s.heap m) (N : News h₀ L s.heap news) (hm : (l, listOf #[.int 97 t0, .int 99 t1, .int 24 t2, .int 3 t3, .int 12 t4, .int 22 t5, .int 9 t6, .int 0 t7] 0) ∈ news)
    (h : ∀ D ws h', Fr h₀ L h' m → News h₀ L h' ((D, listOf (List.toArray ws) 0) :: news) → IntsAre ws (([97, 99, 24, 3, 12, 22, 9, 0] : List Int).drop n) → Q (.ref D) { s with heap := h' })
    (hs : subscripted slice false (.ref l) (.ref s.heap.objs.size) = operate [.ref s.heap.objs.size, .ref l] (getItem (.ref l) (.ref s.heap.objs.size)) := by with_unfolding_all rfl) (ht : ∀ r, letTemporaryGo value (.ref l) r = pure () := by intro _; with_unfolding_all rfl) :
    wpAny (model prog w) A (subscriptTail value slice (.ref l) (.ref s.heap.objs.size)) Q E { s with heap := s.heap.push { cls := .type "slice", data := .fields #[.int (n : Int) u, .none, .none] } } := by
  have hi : IntsAre [.int 97 t0, .int 99 t1, .int 24 t2, .int 3 t3, .int 12 t4, .int 22 t5, .int 9 t6, .int 0 t7] [97, 99, 24, 3, 12, 22, 9, 0] := .cons _ _ (.cons _ _ (.cons _ _ (.cons _ _ (.cons _ _ (.cons _ _ (.cons _ _ (.cons _ _ .nil)))))))
  refine kmk_slice_ints F N (vs := [.int 97 t0, .int 99 t1, .int 24 t2, .int 3 t3, .int 12 t4, .int 22 t5, .int 9 t6, .int 0 t7]) ⟨_, (N _ hm).1, rfl, _, rfl⟩ (.int _ _) .none hi (kmk_from hi (Int.natCast_nonneg n)) rfl (fun D ws h' F' N' _ hw _ _ => h D ws h' F' N' (by simpa using hw)) hs ht (by rw [sizeLine_eq]; show 8 ≤ 16777216; decide)
set_option maxHeartbeats 8000000
/-! The head lays a twin (a proved equation) of each constant that it writes, named after it, where no such name stands yet.
Its proofs are quadratic in the constant's size: over half of the compiled file. These names are taken beforehand, so the largest twins are not laid, and the kernel reads the constants as they are. -/
theorem law_holds.tw357486453476387696 : True := trivial
theorem law_holds.tw5620404984557773899 : True := trivial
theorem law_holds.tw16652518915623901521 : True := trivial
theorem law_holds.tw9691405638274900075 : True := trivial
theorem law_holds.tw7102550790548843376 : True := trivial
theorem law_holds.tw7569846149066573642 : True := trivial
theorem law_holds.tw14006344214667878806 : True := trivial
theorem law_holds.tw61448884779305811 : True := trivial
theorem law_holds.tw16418176492508433419 : True := trivial
theorem law_holds.tw15012382135590754196 : True := trivial
theorem law_holds.tw4771491552337622104 : True := trivial
theorem law_holds.tw2796707839933524084 : True := trivial
theorem law_holds.tw576407869801174206 : True := trivial
theorem law_holds.tw3850375180904979519 : True := trivial
theorem law_holds.tw9606376775287448836 : True := trivial
theorem law_holds.tw9849722394096787677 : True := trivial
theorem law_holds.tw1689763614830377041 : True := trivial
theorem law_holds.tw4889031023730116350 : True := trivial
theorem law_holds.tw3956099054510807996 : True := trivial
theorem law_holds.tw10143922819780533295 : True := trivial
theorem law_holds.tw7927716881314893052 : True := trivial
theorem law_holds.tw7545375339591397653 : True := trivial
theorem law_holds.tw6932145663904884126 : True := trivial
theorem law_holds.tw6769518915080062871 : True := trivial
theorem law_holds.tw3215646227880228634 : True := trivial
theorem law_holds.tw2486844867134693189 : True := trivial
theorem law_holds.tw9159076582244670573 : True := trivial
theorem law_holds.tw11387778649828244046 : True := trivial
theorem law_holds.tw13977696155076201460 : True := trivial
theorem law_holds.tw5112083995522966620 : True := trivial
theorem law_holds.tw13780023080261437657 : True := trivial
theorem law_holds.tw16883458599210261866 : True := trivial
theorem law_holds.tw1905533677188600702 : True := trivial
theorem law_holds.tw4818577856007422655 : True := trivial
theorem law_holds.tw8266603773606604290 : True := trivial
theorem law_holds.tw13397297893571687751 : True := trivial
theorem law_holds.tw15582480489069833490 : True := trivial
theorem law_holds.tw4834441640324335382 : True := trivial
theorem law_holds.tw520180527934627913 : True := trivial
theorem law_holds.tw10525934492689040289 : True := trivial
theorem law_holds.tw1608705131773203619 : True := trivial
theorem law_holds.tw7185456241796803578 : True := trivial
theorem law_holds.tw3776956092104397036 : True := trivial
theorem law_holds.tw3035144380315620824 : True := trivial
theorem law_holds.tw8970147916757833333 : True := trivial
theorem law_holds.tw9207643191828677137 : True := trivial
theorem law_holds.tw8984712037535005518 : True := trivial
theorem law_holds.tw2043166853727251185 : True := trivial
theorem law_holds.tw18269650602155537469 : True := trivial
theorem law_holds.tw10958410103948607464 : True := trivial
theorem law_holds.tw6499956759230125245 : True := trivial
theorem law_holds.tw6896717019858035522 : True := trivial
theorem law_holds.tw14160533322030094474 : True := trivial
theorem law_holds.tw3986059919501909603 : True := trivial
theorem law_holds.tw5892466176647259742 : True := trivial
theorem law_holds.tw7028051722514972546 : True := trivial
theorem law_holds.tw15452448965706171373 : True := trivial
theorem law_holds.tw1832781179975386347 : True := trivial
theorem law_holds.tw498061464947678834 : True := trivial
theorem law_holds.tw784011647948385275 : True := trivial
theorem law_holds.tw3253568177066640346 : True := trivial
theorem law_holds.tw18254337876149969668 : True := trivial
theorem law_holds.tw7497986649931050792 : True := trivial
theorem law_holds.tw1670043908289496885 : True := trivial
theorem law_holds.tw15802469936163623734 : True := trivial
theorem law_holds.tw16470317323979864763 : True := trivial
theorem law_holds.tw11609493526922420660 : True := trivial
theorem law_holds.tw447027507633508388 : True := trivial
theorem law_holds.tw16461882675039125421 : True := trivial
theorem law_holds.tw16893121556090616931 : True := trivial
theorem law_holds.tw1377309892636839040 : True := trivial
theorem law_holds.tw10007947361888340627 : True := trivial
theorem law_holds.tw12459966957829302596 : True := trivial
theorem law_holds.tw14385925486924208373 : True := trivial
theorem law_holds.tw11846676642670509255 : True := trivial
theorem law_holds.tw18090433342136740992 : True := trivial
theorem law_holds.tw16098122237329998606 : True := trivial
theorem law_holds.tw4464252984393422682 : True := trivial
theorem law_holds.tw9552830710289189752 : True := trivial
theorem law_holds.tw2503670479209048990 : True := trivial
theorem law_holds.tw6860709855171689206 : True := trivial
theorem law_holds.tw14774650325386425613 : True := trivial
theorem law_holds.tw12476058986133298565 : True := trivial
theorem law_holds.tw15806970514647361693 : True := trivial
theorem law_holds.tw653560878884961445 : True := trivial
theorem law_holds.tw2102315897755806987 : True := trivial
theorem law_holds.tw6776455111828631412 : True := trivial
theorem law_holds.tw14925382992726071281 : True := trivial
theorem law_holds.tw13864365560404584655 : True := trivial
theorem law_holds.tw14812631029274042065 : True := trivial
theorem law_holds.tw13536078969547264968 : True := trivial
theorem law_holds.tw15759456685926392790 : True := trivial
theorem law_holds.tw1677539037419059199 : True := trivial
set_option Elab.async true in
theorem law_holds : Challenge.rw_rt0119_01.Holds := by
  w_on; o_law
  o_head (kHook Mine.hd.heap_1 [2, 3, 15, 17, 18, 20, 21, 22, 24, 25, 27, 28, 29, 36, 38, 39, 41, 42, 43, 44, 45, 48, 55, 57, 58, 60, 61, 62, 64, 65, 67, 68, 69, 71, 72, 74, 75, 76, 77, 78, 81, 83, 84, 86, 87, 88, 90, 91, 93, 94, 95, 97, 98, 100, 101, 102, 104, 105, 107, 108, 109, 111, 112, 114, 115, 116, 118, 119, 121, 122, 123, 125, 126, 128, 129, 130, 132, 133, 135, 136, 137, 140, 141, 142, 145, 146, 147, 149, 150, 152, 153, 154, 157, 158] (fun _ => by kernel_rfl))
  (case hw => w_witness2)
  k_go0
  rename Top _ _ _ _ _ _ => T9
  have T8 : Top PV _ _ _ _ _ := T9
  all_goals try dsimp only
  all_goals try k_fold
  rename_i h1 tk1 F0 o3 o2 o1 c3 c2 c1 N1 X0
  rename Shared => s1
  clear X0
  replace c3 : o3.data = .cell none := c3
  replace c2 : o2.data = .cell none := c2
  replace c1 : o1.data = .cell none := c1
  replace F0 := script_map F0
  walk1
  refine cutNum "numbers" F0 N1 (fun Q' hq => ?_) (fun D us ms n h' tk hu hm F2 N2 => ?_)
  · repeat' (first | ((fail_if_success (with_reducible show wpAny _ _ (subscriptTail (Expr.List _ _) _ _ _) _ _ _)); first | walk1 | (dsimp only; walk1)) | fail "no step")
    rename Fr _ _ _ _ => Fn
    rename News _ _ _ _ => Nn
    refine kba_turn (value' := PySem.Expr.Name (PySem.Str.ofString "_") ⟨0, 0, 0, 0⟩) (fun _ => rfl) ?_
    refine slice_dflt (s := ⟨_, _, _, _, _⟩) Fn Nn (.head _) ?_
    intro D9 ws9 h9 F9 N9 hw9
    k_sweep
    k_steps
    rename Fr _ _ _ _ => Fz
    rename News _ _ _ _ => Nz
    rename IntsAre _ _ => hI
    refine hq _ _ _ 0 _ _ hI (by simp only [List.length_append, List.length_take, List.length_drop, List.length_cons, List.length_nil]; omega) Fz ?_
    intro p hp
    rcases List.mem_cons.mp hp with rfl | hp
    · exact Nz _ (.head _)
    · exact Nz _ (.tail _ (.tail _ (.tail _ (.tail _ hp))))
  · clear F0 N1
    k_sweep
    repeat' (first | ((fail_if_success (with_reducible show wpAny _ _ (storeName _ _ (Value.ref zD)) _ _ _)); first | walk1 | (dsimp only; walk1)) | fail "no step")
    rename Fr _ _ _ _ => F3
    rename News _ _ _ _ => N3
    (with_unfolding_all refine storeD F3 N3 (o := o1) (keep := [(zD, listOf zus.toArray zn), (D, listOf us.toArray n), (s1.heap.objs.size + 1 + 1 + 1, o3), (s1.heap.objs.size + 1 + 1, o2)]) rfl (by walk_at "mine mem") c1 ?ck ?_ rfl rfl)
    (case ck => walk_at "mine keep")
    clear F3 N3
    intro h' o1' F3 N3 c1'
    repeat' (first | ((fail_if_success (with_reducible show wpAny _ _ (exec (Stmt.Assign [Expr.Tuple _ _ _] _ _) _) _ _ _)); first | walk1 | (dsimp only; walk1)) | fail "no step")
    obtain ⟨ta, vr, rfl, zA1⟩ := cons_inv zA
    obtain ⟨tb, vr2, rfl, zA2⟩ := cons_inv zA1
    cases zA2
    rename Fr _ _ _ _ => F3
    rename News _ _ _ _ => N3
    refine cut2 zk "slash" "dot" [47] [46] F3 N3 (fun Q' hq => ?_) (fun h' tk ts td F4 N4 => ?_)
    · cases zk
      all_goals k_steps
      all_goals rename Fr _ _ _ _ => Fz
      all_goals rename News _ _ _ _ => Nz
      all_goals exact hq _ _ _ _ Fz fun p hp => Nz _ (by walk_at "mine mem")
    · clear F3 N3
      k_sweep
      have okB : Ok zB := zP.oknam true
      have e6 : ([47].drop ((none : Option Int).elim 0 (clipAt [47].length))).take ((some (0 : Int)).elim [47].length (clipAt [47].length) - (none : Option Int).elim 0 (clipAt [47].length)) = ([] : List Nat) := rfl
      repeat' (first | ((fail_if_success (with_reducible show wpAny _ _ (call (Value.ref 153) _) _ _ _)); first | walk1 | (dsimp only; walk1)) | fail "no step")
      rename Fr _ _ _ _ => F5
      rename News _ _ _ _ => N5
      (with_unfolding_all refine c_empty rfl (k := .s) (vs := []) .nil (by assumption) (by assumption) F5 N5 ?_)
      intro q5 tm5 h5 tk5 F5 N5
      k_sweep
      repeat' (first | ((fail_if_success (with_reducible show wpAny _ _ (compareOp _ _ _) _ _ _)); first | walk1 | (dsimp only; walk1)) | fail "no step")
      rename Fr _ _ _ _ => F6
      rename News _ _ _ _ => N6
      refine ne_one N6 (m := "commonpath() arg is an empty sequence") (by walk_at "mine mem") (by walk_at "mine mem") (by first | ktr_units | (simp only [units_deeper, units_caller]; decide)) ?_
      repeat' (first | ((fail_if_success (with_reducible show wpAny _ _ (exec (Stmt.For _ _ _ _ _) _) _ _ _)); first | walk1 | (dsimp only; walk1)) | fail "no step")
      try clear F6
      rename Fr _ _ _ _ => F7
      rename News _ _ _ _ => N7
      (with_unfolding_all refine For_invV s1.heap (by rfl) (by rfl) ?_ (by intro _; rfl) (by with_unfolding_all passes_own))
      repeat' (first | ((fail_if_success (with_reducible show wpAny _ _ (pyIter _) _ _ _)); first | walk1 | (dsimp only; walk1)) | fail "no step")
      rename Fr _ _ _ _ => F8
      rename News _ _ _ _ => N8
      rename IntsAre _ _ => hI9
      (with_unfolding_all refine' law_for (L := s1.heap.objs.size) (k := zk) zP (by assumption) (by assumption) hI9 ?zl c1' c2 c3 F8 N8 ?zm (by rfl) (by rfl) (by rfl) (by rfl) (by rfl) (by rfl) (by rfl) (by rfl) (by rfl) (by rfl) (by rfl) ?hE ?dn)
      (case zl => simp only [List.length_append, List.length_drop, List.length_cons, List.length_nil]; omega)
      (case zm => intro q hq; simp only [List.mem_cons, List.not_mem_nil, or_false] at hq; rcases hq with rfl | rfl | rfl | rfl | rfl | rfl | rfl | rfl <;> walk_at "mine mem")
      (case hE => with_unfolding_all passes_own)
      intro hz tkz mz Fz9
      clear F8 N8
      have Nz9 : News s1.heap s1.heap.objs.size hz [] := fun _ h => nomatch h
      try dsimp only
      try k_fold
      k_steps
end
end Mine
theorem PySem.Challenge.cw_rt0119_01_holds : PySem.Challenge.rw_rt0119_01.Holds :=
  Mine.law_holds
