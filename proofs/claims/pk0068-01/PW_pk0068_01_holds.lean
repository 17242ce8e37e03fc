import PyProof.Rows.All
import Wide.All
import OpenK.AllK
import Wide.FinOn
import PySem.Challenge.RW_pk0068_01
open PySem PySem.W PyProof.Rows
set_option Elab.async false
set_option compiler.extract_closed false
section
open PySem PySem.W PyProof.Rows
namespace Mine
set_option maxRecDepth 100000
set_option maxHeartbeats 8000000
open_top hd for PySem.Challenge.rw_pk0068_01
end Mine
end
section
open PySem PySem.W PyProof.Rows
namespace Mine
set_option maxRecDepth 100000
set_option maxHeartbeats 8000000
noncomputable abbrev prog : Program := PySem.Challenge.rw_pk0068_01.row.prog

theorem rm1 {a b c X : Nat} (h : a + b < X) (e : Nat.ble c b = true) : a + c < X := Nat.lt_of_le_of_lt (Nat.add_le_add_left (Nat.le_of_ble_eq_true e) a) h
theorem rm2 {a b c d X : Nat} (h : a + b < X) (e : Nat.ble (c + d) b = true) : a + c + d < X := (Nat.add_assoc a c d).symm ▸ rm1 h e
theorem allLt_ne {d x : Nat} {l : List (Addr × Obj)} (h : ∀ p ∈ l, @LT.lt Nat _ p.1 d) (hx : @LE.le Nat _ d x) : ∀ p ∈ l, p.1 ≠ x := fun p hp => Nat.ne_of_lt (Nat.lt_of_lt_of_le (h p hp) hx)
theorem allLt_all {d : Nat} : ∀ {l : List (Addr × Obj)}, AllLt d l → ∀ p ∈ l, @LT.lt Nat _ p.1 d
  | [], _, _, h => nomatch h
  | x :: l, h, p, hp => by
    rcases List.mem_cons.mp hp with rfl | hp
    · exact h.1
    · exact allLt_all h.2 p hp
noncomputable def Hold (P : Prop) : Prop := P
theorem hold {P : Prop} (h : Hold P) : P := h
theorem const_strF {M : Model} {A : Around} {E : Value → Shared → Prop} {env : Env} {x : Str} {k : Nat} {pos : Pos} {Q : Value → Shared → Prop} {h g d t o} (H : Q (.str x t) (Shared.mk h g d (t + 1) o)) : wpAny M A (eval (.Constant (.str x) k pos) env) Q E (Shared.mk h g d t o) := PySem.Calls.Constant_str H
theorem const_intF {M : Model} {A : Around} {E : Value → Shared → Prop} {env : Env} {x : Int} {k : Nat} {pos : Pos} {Q : Value → Shared → Prop} {h g d t o} (H : Q (.int x t) (Shared.mk h g d (t + 1) o)) : wpAny M A (eval (.Constant (.int x) k pos) env) Q E (Shared.mk h g d t o) := wpAny_Constant_int H
noncomputable def stAt : List Stmt → Nat → Stmt
  | [], _ => .Pass default
  | x :: _, 0 => x
  | _ :: r, n + 1 => stAt r n
noncomputable def stBody : Stmt → List Stmt
  | .FunctionDef _ _ b _ _ _ _ _ _ _ => b
  | .ClassDef _ _ _ b _ _ _ _ _ _ _ => b
  | .For _ _ b _ _ => b
  | .If _ b _ _ => b
  | .While _ b _ _ => b
  | _ => []
noncomputable def stElse : Stmt → List Stmt
  | .If _ _ o _ => o
  | _ => []
noncomputable def stVal : Stmt → Expr
  | .Assign _ v _ => v
  | .Return (some e) _ => e
  | .While t _ _ _ => t
  | .For t _ _ _ _ => t
  | _ => default
noncomputable def stScope : Stmt → Scope
  | .FunctionDef _ _ _ _ _ _ c _ _ _ => c
  | _ => default
noncomputable def exPart : Expr → Expr
  | .Lambda _ b _ _ => b
  | .ListComp e _ _ _ => e
  | .Tuple (e :: _) _ _ => e
  | .Call _ (e :: _) _ _ => e
  | .BinOp _ _ r _ => r
  | _ => default
noncomputable def exScope : Expr → Scope
  | .Lambda _ _ c _ => c
  | .ListComp _ _ c _ => c
  | _ => default
noncomputable def topAt (i : Nat) : Stmt := stAt PySem.Challenge.pw_pk0068_01.main.body i
/-- the lambda of the text's _law_told, taken from the program's own term -/
noncomputable def lamE : Expr := stVal (stAt (stBody (topAt 16)) 2)
noncomputable def lamArgs : Arguments := match lamE with | .Lambda a _ _ _ => a | _ => default
noncomputable def lamBody : Expr := exPart lamE
noncomputable def lamScope : Scope := exScope lamE
end Mine
end
section
open PySem.Calls Mine
local macro_rules | `(tactic| k_ne) => `(tactic| (refine neN ?_; (try dsimp only); first
  | with_reducible assumption
  | exact Ne.symm (by with_reducible assumption)
  | (refine Nat.ne_of_lt ?_; (repeat (first | with_reducible assumption | (refine Nat.lt_trans (by with_reducible assumption) ?_))); done)
  | (refine Nat.ne_of_gt ?_; (repeat (first | with_reducible assumption | (refine Nat.lt_trans (by with_reducible assumption) ?_))); done)
  | ((repeat (with_reducible rename _ ∧ _ => hq; (repeat (first | exact Nat.ne_of_lt hq.1 | exact Nat.ne_of_gt hq.1 | (refine Nat.ne_of_lt (Nat.lt_trans hq.1 ?_); ((repeat (first | with_reducible assumption | (refine Nat.lt_trans (by with_reducible assumption) ?_))); done)) | (refine Nat.ne_of_gt (Nat.lt_trans hq.1 ?_); ((repeat (first | with_reducible assumption | (refine Nat.lt_trans (by with_reducible assumption) ?_))); done)) | replace hq := hq.2)); (try clear hq))); done)
  | omega))
local macro_rules | `(tactic| ktr_room) => `(tactic| ((try dsimp only [ktrTop, Around.deeper]); first | with_reducible assumption | exact rm2 (by with_reducible assumption) (by exact rfl) | exact rm1 (by with_reducible assumption) (by exact rfl) | exact Nat.le_trans (by with_reducible assumption) (by exact Nat.le_of_ble_eq_true rfl) | lia | omega))
local macro_rules | `(tactic| k_all) => `(tactic| first | with_reducible assumption | (refine allLt_ne (by with_reducible assumption) ?_; ktr_room) | (refine' List.forall_mem_cons.mpr ⟨?a, ?b⟩; (case a => k_ne); (case b => k_all)))
local macro_rules | `(tactic| walk_at "eval Constant str") => `(tactic| with_reducible refine const_strF ?_)
local macro_rules | `(tactic| walk_at "eval Constant int") => `(tactic| with_reducible refine const_intF ?_)
section
open PySem PySem.W PyProof.Rows
namespace Mine
set_option maxRecDepth 100000
set_option maxHeartbeats 8000000

theorem in06 {w : World} {A : Around} {E : Value → Shared → Prop} {s : Shared} {t : Addr} {items : Array Value} {d : Int} {u : Tok} {Q : Value → Shared → Prop} {b : Bool} (ht : IsTup s.heap t items) (hi : IntsAre items.toList [0, 6]) (hb : [(0 : Int), 6].any (· == d) = b) (h : Q (.bool b) s) :
    wpAny (model prog w) A (compareOp .In (.int d u) (.ref t)) Q E s := in_tuple_ints ht hi (by rw [hb]; exact h)
theorem in_no {d : Int} (h0 : d ≠ 0) (h6 : d ≠ 6) : [(0 : Int), 6].any (· == d) = false := by
  simp [Ne.symm h0, Ne.symm h6]
theorem in_yes {d : Int} (h : d = 0 ∨ d = 6) : [(0 : Int), 6].any (· == d) = true := by
  rcases h with rfl | rfl <;> rfl
theorem nhd {g h : Heap} {L : Addr} {p : Addr × Obj} {l : List (Addr × Obj)} (N : News g L h (p :: l)) : News g L h [p] := fun q hq => N q (List.mem_cons.mpr ((List.mem_cons.mp hq).imp id fun h => nomatch h))
theorem ntl {g h : Heap} {L : Addr} {p : Addr × Obj} {l : List (Addr × Obj)} (N : News g L h (p :: l)) : News g L h l := fun q hq => N q (List.mem_cons_of_mem _ hq)
theorem njoin {g h : Heap} {L : Addr} {p : Addr × Obj} {l : List (Addr × Obj)} (N : News g L h [p]) (M : News g L h l) : News g L h (p :: l) := fun q hq => (List.mem_cons.mp hq).elim (fun e => N q (e ▸ List.mem_cons_self ..)) (M q)
theorem nl {g h : Heap} {L : Addr} {k l : List (Addr × Obj)} (N : News g L h (k ++ l)) : News g L h k := fun q hq => N q (List.mem_append_left _ hq)
theorem nr {g h : Heap} {L : Addr} {k l : List (Addr × Obj)} (N : News g L h (k ++ l)) : News g L h l := fun q hq => N q (List.mem_append_right _ hq)
theorem napp {g h : Heap} {L : Addr} {k l : List (Addr × Obj)} (N : News g L h k) (M : News g L h l) : News g L h (k ++ l) := fun q hq => (List.mem_append.mp hq).elim (N q) (M q)
section
variable {w : World} {A : Around} {E : Value → Shared → Prop} {s : Shared} {h₀ h : Heap} {L D : Addr} {m : Str → Option Value} {news news' : List (Addr × Obj)}

theorem truthy_cons {y : Value} {q : List Value} {n : Nat} {Q : Bool → Shared → Prop} (N : News h₀ L s.heap news) (hm : (D, listOf (y :: q).toArray n) ∈ news) (hz : q.length ≤ 1000000)
    (h : Q true { s with toks := s.toks + 1 + 1 }) : wpAny (model prog w) A (truthy (.ref D)) Q E s :=
  wpAny_truthy_list (items := (y :: q).toArray) ⟨_, (N _ hm).1, rfl, _, rfl⟩ (by simp only [List.size_toArray, List.length_cons]; lia) h
theorem truthy_nil {n : Nat} {Q : Bool → Shared → Prop} (N : News h₀ L s.heap news) (hm : (D, listOf ([] : List Value).toArray n) ∈ news)
    (h : Q false { s with toks := s.toks + 1 + 1 }) : wpAny (model prog w) A (truthy (.ref D)) Q E s :=
  wpAny_truthy_list (items := ([] : List Value).toArray) ⟨_, (N _ hm).1, rfl, _, rfl⟩ (by decide) h
theorem pop0 {y : Value} {q : List Value} {n : Nat} {u : Tok} {Q : Value → Shared → Prop} (F : Fr h₀ L s.heap m) (N : News h₀ L s.heap news) (U : Upd D (listOf (y :: q).toArray n) (listOf q.toArray (n + 1)) news news')
    (hz : q.length ≤ 1000000) (h : ∀ h', Fr h₀ L h' m → News h₀ L h' news' → Q y { s with heap := h' }) : wpAny (model prog w) A (call (.builtin "list.pop") [.ref D, .int 0 u]) Q E s := by
  refine kl_popAt (k := 0) (p := []) (y := y) (q := q) F N rfl ?_ ?_ U ?_ h
  · simp [seqIndex?]
  · rfl
  · simp only [List.length_cons, sizeLine]; lia
theorem appendL {v : Value} {us : List Value} {n : Nat} {Q : Value → Shared → Prop} (F : Fr h₀ L s.heap m) (N : News h₀ L s.heap news) (U : Upd D (listOf us.toArray n) (listOf (us ++ [v]).toArray (n + 1)) news news')
    (hz : us.length ≤ 1000000) (h : ∀ h', Fr h₀ L h' m → News h₀ L h' news' → Q .none { s with heap := h' }) : wpAny (model prog w) A (call (.builtin "list.append") [.ref D, v]) Q E s := by
  refine append_K (its := us.toArray) (n := n) F N ?_ h ?_
  · rw [List.push_toArray]; exact U
  · rw [List.size_toArray]; simp only [sizeLine]; lia
end
theorem comp_cell {h₀ : Heap} {L : Addr} {s : Shared} {M : Model} {A : Around} {scope : Scope} {cl : List (Str × Addr)} {C c : Addr} {env : Env} {x : Str} {pos : Pos} {o : Obj} {v : Value} {news : List (Addr × Obj)} {Q : Value → Shared → Prop} (N : News h₀ L s.heap news) (hc : cl.lookup x = some c) (hm : (c, o) ∈ news) (hd : o.data = .cell (some v)) (h : Q v s)
    (hk : (compEnvC scope cl C env).scope.kind = .function) (hx : (compEnvC scope cl C env).kindOf x = some .cell) (hb : (x == ("__debug__" : Str)) = false) :
    wpAny M A (eval (.Name x pos) (compEnvC scope cl C env)) Q E s := wpAny_Name (wpAny_loadName_cell hk hx hc ⟨o, N.get hm, hd⟩ h) hb
set_option genInjectivity false in
set_option genSizeOf false in
/-- what of the reader, its tape and the signs stays as it is -/
structure RC where
  (sg d2 x2 prb x1 d1 f c cS tpb : Addr)
  (oc oS : Obj)
  (qual : Str)
  (pm ctv : Value)
  (t0 t2 t3 t4 t5 t6 t7 t8 t9 t10 t11 t12 : Tok)
end Mine
end
section
open PySem
namespace Mine

/-- one list item a sign: texts of one code each -/
inductive Chars : List Value → List Nat → Prop where
  | nil : Chars [] []
  | cons {vs : List Value} {cs : List Nat} {c : Nat} {t : Tok} : Chars vs cs → Chars (.str ⟨#[c]⟩ t :: vs) (c :: cs)
theorem Chars.length {vs : List Value} {cs : List Nat} (h : Chars vs cs) : vs.length = cs.length := by
  induction h with
  | nil => rfl
  | cons _ ih => simp [ih]
theorem Chars.append {vs us : List Value} {cs ds : List Nat} (h : Chars vs cs) (k : Chars us ds) : Chars (vs ++ us) (cs ++ ds) := by
  induction h with
  | nil => exact k
  | cons _ ih => exact .cons ih

noncomputable def isWs (c : Nat) : Bool := decide (c ∈ [10, 9, 13, 32])
/-- a word read on: what stands, what is left -/
noncomputable def wordL : List Nat → List Nat → List Nat × List Nat
  | [], tok => (tok, [])
  | [c], tok => if isWs c then (tok, []) else if c = 92 then (tok, []) else (tok ++ [c], [])
  | c :: d :: cs, tok => if isWs c then (tok, d :: cs) else if c = 92 then wordL cs (tok ++ [d]) else wordL (d :: cs) (tok ++ [c])
noncomputable def quoteL : List Nat → List Nat → List Nat × List Nat
  | [], tok => (tok, [])
  | [c], tok => if c = 34 then (tok, []) else if c = 92 then (tok, []) else (tok ++ [c], [])
  | c :: d :: cs, tok => if c = 34 then (tok, d :: cs) else if c = 92 then quoteL cs (tok ++ [d]) else quoteL (d :: cs) (tok ++ [c])
/-- one call of get_token, its pushback empty -/
noncomputable def lexTok : List Nat → List Nat × List Nat
  | [] => ([], [])
  | c :: cs => if isWs c then lexTok cs else if c = 34 then quoteL cs [] else if c = 92 then (match cs with | [] => ([], []) | d :: cs' => wordL cs' [d]) else wordL cs [c]

theorem wordL_cons (c : Nat) (cs tok : List Nat) : wordL (c :: cs) tok = if isWs c then (tok, cs) else if c = 92 then (match cs with | [] => (tok, []) | d :: cs' => wordL cs' (tok ++ [d])) else wordL cs (tok ++ [c]) := by
  cases cs with
  | nil => simp only [wordL]
  | cons d cs => simp only [wordL]
theorem quoteL_cons (c : Nat) (cs tok : List Nat) : quoteL (c :: cs) tok = if c = 34 then (tok, cs) else if c = 92 then (match cs with | [] => (tok, []) | d :: cs' => quoteL cs' (tok ++ [d])) else quoteL cs (tok ++ [c]) := by
  cases cs with
  | nil => simp only [quoteL]
  | cons d cs => simp only [quoteL]
theorem wordL_cons' (c : Nat) (cs tok : List Nat) : wordL (c :: cs) tok = if isWs c then (tok, cs) else if c = 92 then wordL (cs.drop 1) (tok ++ cs.take 1) else wordL cs (tok ++ [c]) := by
  rw [wordL_cons]; cases cs <;> simp [wordL]
theorem quoteL_cons' (c : Nat) (cs tok : List Nat) : quoteL (c :: cs) tok = if c = 34 then (tok, cs) else if c = 92 then quoteL (cs.drop 1) (tok ++ cs.take 1) else quoteL cs (tok ++ [c]) := by
  rw [quoteL_cons]; cases cs <;> simp [quoteL]
theorem lexTok_cons' (c : Nat) (cs : List Nat) : lexTok (c :: cs) = if isWs c then lexTok cs else if c = 34 then quoteL cs [] else if c = 92 then wordL (cs.drop 1) (cs.take 1) else wordL cs [c] := by
  cases cs <;> simp [lexTok, wordL]
theorem wordL_len : ∀ (n : Nat) (cs tok : List Nat), cs.length ≤ n → (wordL cs tok).2.length ≤ cs.length := by
  intro n
  induction n with
  | zero => intro cs tok h; cases cs with | nil => simp [wordL] | cons c cs => simp at h
  | succ n ih =>
    intro cs tok h
    cases cs with
    | nil => simp [wordL]
    | cons c cs =>
      rw [wordL_cons]
      simp only [List.length_cons] at h ⊢
      split
      · simp
      · split
        · cases cs with
          | nil => simp
          | cons d cs => simp only [List.length_cons] at h ⊢; have := ih cs (tok ++ [d]) (by lia); lia
        · have := ih cs (tok ++ [c]) (by lia); lia
theorem quoteL_len : ∀ (n : Nat) (cs tok : List Nat), cs.length ≤ n → (quoteL cs tok).2.length ≤ cs.length := by
  intro n
  induction n with
  | zero => intro cs tok h; cases cs with | nil => simp [quoteL] | cons c cs => simp at h
  | succ n ih =>
    intro cs tok h
    cases cs with
    | nil => simp [quoteL]
    | cons c cs =>
      rw [quoteL_cons]
      simp only [List.length_cons] at h ⊢
      split
      · simp
      · split
        · cases cs with
          | nil => simp
          | cons d cs => simp only [List.length_cons] at h ⊢; have := ih cs (tok ++ [d]) (by lia); lia
        · have := ih cs (tok ++ [c]) (by lia); lia
theorem lexTok_cons (c : Nat) (cs : List Nat) : lexTok (c :: cs) = if isWs c then lexTok cs else if c = 34 then quoteL cs [] else if c = 92 then (match cs with | [] => ([], []) | d :: cs' => wordL cs' [d]) else wordL cs [c] := by rw [lexTok.eq_def]
theorem lexTok_len (cs : List Nat) : (lexTok cs).2.length ≤ cs.length := by
  induction cs with
  | nil => simp [lexTok.eq_def]
  | cons c cs ih =>
    rw [lexTok_cons]
    simp only [List.length_cons]
    split
    · lia
    · split
      · have := quoteL_len _ cs [] (Nat.le_refl _); lia
      · split
        · cases cs with
          | nil => simp
          | cons d cs => have := wordL_len _ cs [d] (Nat.le_refl _); simp only [List.length_cons]; lia
        · have := wordL_len _ cs [c] (Nat.le_refl _); lia
end Mine
end
section
open PySem PySem.W PyProof.Rows PySem.Calls
namespace Mine
set_option maxRecDepth 100000
set_option maxHeartbeats 8000000
section
variable {w : World} {A : Around} {E : Value → Shared → Prop} {s : Shared} {h₀ h : Heap} {L D b : Addr} {m : Str → Option Value} {news news' : List (Addr × Obj)}

theorem chars_of : ∀ (vs : List Value) (cs : List Nat), vs.length = cs.length → (∀ (j : Nat) (v : Value), vs[j]? = some v → ∃ c u, cs[j]? = some c ∧ v = Value.str ⟨#[c]⟩ u) → Chars vs cs
  | [], [], _, _ => .nil
  | [], _ :: _, h, _ => by simp at h
  | _ :: _, [], h, _ => by simp at h
  | v :: vs, c :: cs, h, k => by
    obtain ⟨c', u, e, rfl⟩ := k 0 v rfl
    simp at e
    subst e
    exact .cons (chars_of vs cs (by simpa using h) fun j v hv => by simpa using k (j + 1) v (by simpa using hv))

theorem list_of_str {x : Str} {t : Tok} {Q : Value → Shared → Prop} (hh : A.handled = none) (F : Fr h₀ L s.heap m) (N : News h₀ L s.heap news) (hz : x.length ≤ 1000000)
    (h : ∀ D h' tk ys n, Fr h₀ L h' m → News h₀ L h' ((D, listOf ys.toArray n) :: news) → (∀ p ∈ news, p.1 < D) → Chars ys x.cps.toList → Q (.ref D) { s with heap := h', toks := tk }) :
    wpAny (model prog w) A (call (.type "list") [.str x t]) Q E s := by
  refine call_list_str hh x t (hn := by simp only [sizeLine]; have : x.cps.size = x.length := rfl; lia) fun h' tk acc' c' hk hS' hacc => ?_
  have hL : L ≠ s.heap.objs.size := Nat.ne_of_lt F.ns.lt
  have h0 : h₀.get? s.heap.objs.size = none := by
    cases e : h₀.get? s.heap.objs.size with
    | none => rfl
    | some o => exact absurd (Heap.lt_size (F.keep _ _ e)) (Nat.lt_irrefl _)
  refine h _ h' tk acc'.toList c' (F.keeps hk) (fun p hp => ?_) (fun p hp => Heap.lt_size (N p hp).1) ?_
  · rcases List.mem_cons.mp hp with rfl | hp
    · exact ⟨by simpa using hS', Ne.symm hL, h0⟩
    · exact ⟨hk _ _ (N p hp).1, (N p hp).2⟩
  · refine chars_of _ _ (by simp [hacc.1]) fun j v hv => ?_
    obtain ⟨c, u, hc, rfl⟩ := hacc.2 j v (by simpa using hv)
    exact ⟨c, u, by simpa using hc, rfl⟩

theorem extendL {ys : List Value} {n n2 : Nat} {Q : Value → Shared → Prop} (F : Fr h₀ L s.heap m) (N : News h₀ L s.heap news) (hb : (b, listOf ys.toArray n2) ∈ news) (hne : ys.length ≠ 0) (hz : ys.length ≤ 1000000)
    (U : Upd D (listOf ([] : List Value).toArray n) (listOf ys.toArray (n + 1)) news news')
    (h : ∀ h', Fr h₀ L h' m → News h₀ L h' news' → Q .none { s with heap := h' }) : wpAny (model prog w) A (call (.builtin "list.extend") [.ref D, .ref b]) Q E s := by
  refine kl_extend (its := ([] : List Value).toArray) (its2 := ys.toArray) (n := n) F N hb rfl (by simpa using hne) (by simpa using U) (by simp) (by simp) ?_ h
  simp only [sizeLine, List.size_toArray, List.length_nil]; lia
end
end Mine
end
section
open PySem PySem.W PyProof.Rows PySem.Calls
namespace Mine
set_option maxRecDepth 100000
set_option maxHeartbeats 8000000
noncomputable def LiIs (o : Obj) (D : Addr) (i : Nat) : Prop := o.cls = .type "list_iterator" ∧ o.data = .fields #[.ref D, .int i 0]
section
variable {w : World} {A : Around} {E : Value → Shared → Prop} {s : Shared} {h₀ h : Heap} {L D I : Addr} {m : Str → Option Value} {news news' : List (Addr × Obj)}

theorem fr_but1 {h h' : Heap} (F : Fr h₀ L h m) (hk : ∀ b o, b ≠ I → h.get? b = some o → h'.get? b = some o) (hL : L ≠ I) (hI : h₀.get? I = none) : Fr h₀ L h' m :=
  LCg.fr_but (I := I) F (fun b o hb e => hk b o (by simpa using hb) e) hL hI

theorem iterL {us : List Value} {n : Nat} {Q : Value → Shared → Prop} (F : Fr h₀ L s.heap m) (N : News h₀ L s.heap news) (hm : (D, listOf us.toArray n) ∈ news)
    (h : ∀ I h' oI, Fr h₀ L h' m → News h₀ L h' ((I, oI) :: news) → LiIs oI D 0 → (∀ p ∈ news, p.1 < I) → Q (.ref I) { s with heap := h' }) :
    wpAny (model prog w) A (pyIter (.ref D)) Q E s :=
  wpAny_pyIter_list (items := us.toArray) ⟨_, (N _ hm).1, rfl, _, rfl⟩ (h _ _ _ (F.push _) (News.push F N _ rfl) ⟨rfl, rfl⟩ (fun p hp => Heap.lt_size (N p hp).1))

theorem lnext_item {oI : Obj} {i n : Nat} {us : List Value} {v : Value} {Q : Option Value → Shared → Prop} (F : Fr h₀ L s.heap m) (N : News h₀ L s.heap ((I, oI) :: news)) (hI : ∀ p ∈ news, p.1 ≠ I) (hl : LiIs oI D i)
    (hm : (D, listOf us.toArray n) ∈ news) (hv : us[i]? = some v)
    (h : ∀ h' oI', Fr h₀ L h' m → News h₀ L h' ((I, oI') :: news) → LiIs oI' D (i + 1) → Q (some v) { s with heap := h' }) :
    wpAny (model prog w) A (pyNext (.ref I)) Q E s := by
  have z := N _ (List.mem_cons_self ..)
  refine wpAny_pyNext_list_item (items := us.toArray) ⟨oI, z.1, hl.1, hl.2⟩ ⟨_, (N _ (List.mem_cons_of_mem _ hm)).1, rfl, _, rfl⟩ (by simpa using hv) ?_
  intro h' hit hs
  obtain ⟨o', ho', hc', hd'⟩ := hit
  have hk : ∀ b o, b ≠ I → s.heap.get? b = some o → h'.get? b = some o := fun b o hb e => (hs.2 b hb).trans e
  refine h h' o' (fr_but1 F hk (Ne.symm z.2.1) z.2.2) (fun p hp => ?_) ⟨hc', hd'⟩
  rcases List.mem_cons.mp hp with rfl | hp
  · exact ⟨ho', z.2⟩
  · exact ⟨hk _ _ (hI p hp) (N p (List.mem_cons_of_mem _ hp)).1, (N p (List.mem_cons_of_mem _ hp)).2⟩
theorem lnext_done {oI : Obj} {i n : Nat} {us : List Value} {Q : Option Value → Shared → Prop} (hh : A.handled = none) (F : Fr h₀ L s.heap m) (N : News h₀ L s.heap ((I, oI) :: news)) (hI : ∀ p ∈ news, p.1 ≠ I) (hl : LiIs oI D i)
    (hm : (D, listOf us.toArray n) ∈ news) (hv : us[i]? = none)
    (h : ∀ h', Fr h₀ L h' m → News h₀ L h' news → Q none { s with heap := h' }) :
    wpAny (model prog w) A (pyNext (.ref I)) Q E s := by
  have z := N _ (List.mem_cons_self ..)
  refine wpAny_pyNext_list_end (items := us.toArray) hh ⟨oI, z.1, hl.1, hl.2⟩ ⟨_, (N _ (List.mem_cons_of_mem _ hm)).1, rfl, _, rfl⟩ (by simpa using hv) ?_
  intro h' hk'
  have hk : ∀ b o, b ≠ I → s.heap.get? b = some o → h'.get? b = some o := fun b o hb e => hk' b o hb e
  exact h h' (fr_but1 F hk (Ne.symm z.2.1) z.2.2) fun p hp => ⟨hk _ _ (hI p hp) (N p (List.mem_cons_of_mem _ hp)).1, (N p (List.mem_cons_of_mem _ hp)).2⟩
end
end Mine
end
section
open PySem PySem.W PyProof.Rows PySem.Calls
namespace Mine
set_option maxRecDepth 100000
set_option maxHeartbeats 8000000
noncomputable abbrev rngObj (n : Nat) (t u v : Tok) : Obj := { cls := .type "range", data := .fields #[.int 0 t, .int n u, .int 1 v] }
noncomputable abbrev ritObj (i n : Nat) : Obj := { cls := .type "range_iterator", data := .fields #[rawInt ((0 : Int) + (i : Nat) * 1), rawInt ((n : Int) - (i : Nat)), rawInt 1] }
section
variable {w : World} {A : Around} {E : Value → Shared → Prop} {s : Shared} {h₀ h : Heap} {L D b I : Addr} {m : Str → Option Value} {news news' : List (Addr × Obj)}

theorem lenL {us : List Value} {n : Nat} {Q : Value → Shared → Prop} (N : News h₀ L s.heap news) (hm : (D, listOf us.toArray n) ∈ news) (hz : us.length ≤ 1000000)
    (h : Q (.int us.length (s.toks + 1)) { s with toks := s.toks + 1 + 1 }) : wpAny (model prog w) A (call (.builtin "len") [.ref D]) Q E s :=
  call_len_list (items := us.toArray) ⟨_, (N _ hm).1, rfl, _, rfl⟩ (by rw [List.size_toArray]; lia) (by rw [List.size_toArray]; exact h)

theorem rangeL {n : Nat} {t : Tok} {Q : Value → Shared → Prop} (F : Fr h₀ L s.heap m) (N : News h₀ L s.heap news)
    (h : ∀ D h' t1 t2, Fr h₀ L h' m → News h₀ L h' ((D, rngObj n t1 t t2) :: news) → (∀ p ∈ news, p.1 < D) → Q (.ref D) { s with heap := h', toks := s.toks + 1 + 1 }) :
    wpAny (model prog w) A (call (.type "range") [.int n t]) Q E s :=
  call_range_1 (h _ _ _ _ (F.push _) (News.push F N _ rfl) (fun p hp => Heap.lt_size (N p hp).1))

theorem range_size (n : Nat) : Builtin.Range.rangeSize 0 n 1 = (n : Int) := by
  unfold Builtin.Range.rangeSize
  rw [if_pos (by decide)]
  split
  · simp
  · lia
theorem iterR {n : Nat} {t1 t t2 : Tok} {Q : Value → Shared → Prop} (F : Fr h₀ L s.heap m) (N : News h₀ L s.heap news) (hm : (D, rngObj n t1 t t2) ∈ news) (hz : n ≤ 1000000)
    (h : ∀ I h', Fr h₀ L h' m → News h₀ L h' ((I, ritObj 0 n) :: news) → (∀ p ∈ news, p.1 < I) → Q (.ref I) { s with heap := h' }) :
    wpAny (model prog w) A (pyIter (.ref D)) Q E s := by
  refine wpAny_pyIter_range (a := 0) (b := n) (c := 1) (N _ hm).1 ?_ ?_
  · unfold Builtin.Range.small
    rw [range_size]
    simp [Builtin.Range.rangeFitsLong]
    lia
  · rw [range_size]
    have e : ({ cls := .type "range_iterator", data := .fields #[rawInt 0, rawInt (n : Int), rawInt 1] } : Obj) = ritObj 0 n := by simp [ritObj]
    rw [e]
    exact h _ _ (F.push _) (News.push F N _ rfl) (fun p hp => Heap.lt_size (N p hp).1)
theorem rnext_item {i n : Nat} {Q : Option Value → Shared → Prop} (hh : A.handled = none) (F : Fr h₀ L s.heap m) (N : News h₀ L s.heap ((I, ritObj i n) :: news)) (hI : ∀ p ∈ news, p.1 ≠ I) (hi : i < n)
    (h : ∀ h' tk' t, Fr h₀ L h' m → News h₀ L h' ((I, ritObj (i + 1) n) :: news) → Q (some (.int (0 + (i : Int)) t)) { s with heap := h', toks := tk' }) :
    wpAny (model prog w) A (pyNext (.ref I)) Q E s := by
  have z := N _ (List.mem_cons_self ..)
  refine (LCg.range_walks (prog := prog) (w := w) (A := A) (I := I) hh 0 n).item i s Q E hi z.1 ?_
  rintro v h' tk' ⟨t, rfl⟩ st hk
  have hk' : ∀ b o, b ≠ I → s.heap.get? b = some o → h'.get? b = some o := fun b o hb e => hk b o (by simpa using hb) e
  refine h h' tk' t (LCg.fr_but F (fun b o hb e => hk b o hb e) (Ne.symm z.2.1) z.2.2) fun p hp => ?_
  rcases List.mem_cons.mp hp with rfl | hp
  · exact ⟨st, z.2⟩
  · exact ⟨hk' _ _ (hI p hp) (N p (List.mem_cons_of_mem _ hp)).1, (N p (List.mem_cons_of_mem _ hp)).2⟩
theorem rnext_done {n : Nat} {Q : Option Value → Shared → Prop} (hh : A.handled = none) (F : Fr h₀ L s.heap m) (N : News h₀ L s.heap ((I, ritObj n n) :: news)) (hI : ∀ p ∈ news, p.1 ≠ I)
    (h : ∀ h' tk', Fr h₀ L h' m → News h₀ L h' news → Q none { s with heap := h', toks := tk' }) :
    wpAny (model prog w) A (pyNext (.ref I)) Q E s := by
  have z := N _ (List.mem_cons_self ..)
  refine (LCg.range_walks (prog := prog) (w := w) (A := A) (I := I) hh 0 n).done s Q E z.1 ?_
  intro h' tk' hk
  have hk' : ∀ b o, b ≠ I → s.heap.get? b = some o → h'.get? b = some o := fun b o hb e => hk b o (by simpa using hb) e
  refine h h' tk' (LCg.fr_but F (fun b o hb e => hk b o hb e) (Ne.symm z.2.1) z.2.2) fun p hp => ?_
  exact ⟨hk' _ _ (hI p hp) (N p (List.mem_cons_of_mem _ hp)).1, (N p (List.mem_cons_of_mem _ hp)).2⟩
end
end Mine
end
section
open PySem PySem.W PyProof.Rows PySem.Calls
namespace Mine
set_option maxRecDepth 100000
set_option maxHeartbeats 8000000
set_option linter.unusedVariables false
section
variable {prog : Program} {w : World} {A : Around} {R : Result → Shared → Prop} {s : Shared} {env : Env}
noncomputable abbrev tests (ifs : List Expr) (env : Env) : Sem Bool := forIn ifs true fun c r => if r = true then do let ok ← isTrue c env (eval c env); pure (ForInStep.yield ok) else pure (ForInStep.yield r)

noncomputable def More (P : Prop) : Prop := P
/-- one turn of a comprehension of one clause -/
theorem turn1 {elt target iter : Expr} {ifs : List Expr} {scope : Scope} {pos : Pos} {it acc : Value}
    (h : wpAny (model prog w) A (pyNext it) (fun r s₁ => match r with
      | none => R (.ok .next) s₁
      | some v => wpAny (model prog w) A (letOwnedTupleGo target it v) (fun _ s₂ => wpAny (model prog w) A (assign target env v) (fun _ s₃ =>
          wpAny (model prog w) A (tests ifs env) (fun ok s₄ =>
            if ok = true then wpAny (model prog w) A (eval elt env) (fun x s₅ => wpAny (model prog w) A (call (.builtin "list.append") [acc, x]) (fun _ s₆ => More (codeAny (model prog w) A (.compLoop (.ListComp elt [⟨target, iter, ifs, 0⟩] scope pos) 0 it acc env) R s₆)) (notedBy (model prog w) A env fun e s' => R (.error e) s') s₅) (notedBy (model prog w) A env fun e s' => R (.error e) s') s₄
            else More (codeAny (model prog w) A (.compLoop (.ListComp elt [⟨target, iter, ifs, 0⟩] scope pos) 0 it acc env) R s₄)) (notedBy (model prog w) A env fun e s' => R (.error e) s') s₃) (notedBy (model prog w) A env fun e s' => R (.error e) s') s₂) (notedBy (model prog w) A env fun e s' => R (.error e) s') s₁) (notedBy (model prog w) A env fun e s' => R (.error e) s') s) :
    codeAny (model prog w) A (.compLoop (.ListComp elt [⟨target, iter, ifs, 0⟩] scope pos) 0 it acc env) R s := by
  refine codeAny_of_tree ?_
  show wpAny _ A ((compTurn (.ListComp elt [⟨target, iter, ifs, 0⟩] scope pos) 0 it acc env).onRaise (fun x => do noteFrame x env; theTreesLotGoes x)) _ _ s
  refine wpAny_noted ?_
  rw [compTurn_list]
  refine wpAny_bind (wpAny_standAt (wpAny_bind (wpAny_mono h (fun r s₁ h₁ => ?_) fun _ _ h' => h')))
  cases r with
  | none => exact wpAny_pure h₁
  | some v =>
    refine wpAny_bind (wpAny_mono h₁ (fun _ s₂ h₂ => wpAny_bind (wpAny_mono h₂ (fun _ s₃ h₃ => wpAny_bind (wpAny_mono h₃ (fun ok s₄ h₄ => ?_) fun _ _ h' => h')) fun _ _ h' => h')) fun _ _ h' => h')
    cases ok with
    | false => exact wpAny_pure ⟨rfl, h₄⟩
    | true =>
      exact wpAny_bind (wpAny_bind (wpAny_mono h₄ (fun x s₅ h₅ => wpAny_bind (wpAny_mono h₅ (fun _ s₆ h₆ => wpAny_pure (wpAny_pure ⟨rfl, h₆⟩)) fun _ _ h' => h')) fun _ _ h' => h'))

theorem turn20_eq (elt t1 i1 t2 i2 : Expr) (f1 f2 : List Expr) (scope : Scope) (pos : Pos) (it acc : Value) (env : Env) :
    compTurn (.ListComp elt [⟨t1, i1, f1, 0⟩, ⟨t2, i2, f2, 0⟩] scope pos) 0 it acc env = (do
      standAt i1.pos
      match ← pyNext it with
      | none => pure (.done .next)
      | some v =>
        letOwnedTupleGo t1 it v
        assign t1 env v
        let mut ok := true
        for c in f1 do
          if ok then ok ← isTrue c env (eval c env)
        if ok then
          let x ← eval i2 env
          standAt i2.pos
          let x ← foldedSetIterable i2 env x
          let _ ← runOwn (.compStart (.ListComp elt [⟨t1, i1, f1, 0⟩, ⟨t2, i2, f2, 0⟩] scope pos) 1 (← holding [x] (pyIter x)) acc env) env
        again (.compLoop (.ListComp elt [⟨t1, i1, f1, 0⟩, ⟨t2, i2, f2, 0⟩] scope pos) 0 it acc env)) := by rfl
theorem turn21_eq (elt t1 i1 t2 i2 : Expr) (f1 f2 : List Expr) (scope : Scope) (pos : Pos) (it acc : Value) (env : Env) :
    compTurn (.ListComp elt [⟨t1, i1, f1, 0⟩, ⟨t2, i2, f2, 0⟩] scope pos) 1 it acc env = (do
      standAt i2.pos
      match ← pyNext it with
      | none => pure (.done .next)
      | some v =>
        letOwnedTupleGo t2 it v
        assign t2 env v
        let mut ok := true
        for c in f2 do
          if ok then ok ← isTrue c env (eval c env)
        if ok then
          (do let _ ← call (.builtin "list.append") [acc, ← eval elt env])
        again (.compLoop (.ListComp elt [⟨t1, i1, f1, 0⟩, ⟨t2, i2, f2, 0⟩] scope pos) 1 it acc env)) := by rfl

theorem turn21 {elt t1 i1 target iter : Expr} {f1 ifs : List Expr} {scope : Scope} {pos : Pos} {it acc : Value}
    (h : wpAny (model prog w) A (pyNext it) (fun r s₁ => match r with
      | none => R (.ok .next) s₁
      | some v => wpAny (model prog w) A (letOwnedTupleGo target it v) (fun _ s₂ => wpAny (model prog w) A (assign target env v) (fun _ s₃ =>
          wpAny (model prog w) A (tests ifs env) (fun ok s₄ =>
            if ok = true then wpAny (model prog w) A (eval elt env) (fun x s₅ => wpAny (model prog w) A (call (.builtin "list.append") [acc, x]) (fun _ s₆ => More (codeAny (model prog w) A (.compLoop (.ListComp elt [⟨t1, i1, f1, 0⟩, ⟨target, iter, ifs, 0⟩] scope pos) 1 it acc env) R s₆)) (notedBy (model prog w) A env fun e s' => R (.error e) s') s₅) (notedBy (model prog w) A env fun e s' => R (.error e) s') s₄
            else More (codeAny (model prog w) A (.compLoop (.ListComp elt [⟨t1, i1, f1, 0⟩, ⟨target, iter, ifs, 0⟩] scope pos) 1 it acc env) R s₄)) (notedBy (model prog w) A env fun e s' => R (.error e) s') s₃) (notedBy (model prog w) A env fun e s' => R (.error e) s') s₂) (notedBy (model prog w) A env fun e s' => R (.error e) s') s₁) (notedBy (model prog w) A env fun e s' => R (.error e) s') s) :
    codeAny (model prog w) A (.compLoop (.ListComp elt [⟨t1, i1, f1, 0⟩, ⟨target, iter, ifs, 0⟩] scope pos) 1 it acc env) R s := by
  refine codeAny_of_tree ?_
  show wpAny _ A ((compTurn (.ListComp elt [⟨t1, i1, f1, 0⟩, ⟨target, iter, ifs, 0⟩] scope pos) 1 it acc env).onRaise (fun x => do noteFrame x env; theTreesLotGoes x)) _ _ s
  refine wpAny_noted ?_
  rw [turn21_eq]
  refine wpAny_bind (wpAny_standAt (wpAny_bind (wpAny_mono h (fun r s₁ h₁ => ?_) fun _ _ h' => h')))
  cases r with
  | none => exact wpAny_pure h₁
  | some v =>
    refine wpAny_bind (wpAny_mono h₁ (fun _ s₂ h₂ => wpAny_bind (wpAny_mono h₂ (fun _ s₃ h₃ => wpAny_bind (wpAny_mono h₃ (fun ok s₄ h₄ => ?_) fun _ _ h' => h')) fun _ _ h' => h')) fun _ _ h' => h')
    cases ok with
    | false => exact wpAny_pure ⟨rfl, h₄⟩
    | true =>
      exact wpAny_bind (wpAny_bind (wpAny_mono h₄ (fun x s₅ h₅ => wpAny_bind (wpAny_mono h₅ (fun _ s₆ h₆ => wpAny_pure (wpAny_pure ⟨rfl, h₆⟩)) fun _ _ h' => h')) fun _ _ h' => h'))

noncomputable def Inner (prog : Program) (w : World) (A : Around) (e : Expr) (it acc : Value) (env : Env) (R : Result → Shared → Prop) (r : Result) (s' : Shared) : Prop :=
  match r with | .ok _ => codeAny (model prog w) A (.compLoop e 0 it acc env) R s' | .error _ => False

/-- the start of the second clause -/
theorem start1 {elt t1 i1 target iter : Expr} {f1 ifs : List Expr} {scope : Scope} {pos : Pos} {it acc : Value}
    (h0 : codeAny (model prog w) A (.compLoop (.ListComp elt [⟨t1, i1, f1, 0⟩, ⟨target, iter, ifs, 0⟩] scope pos) 1 it acc env) R s)
    (h : wpAny (model prog w) A (pyIter it) (fun it' s' => codeAny (model prog w) A (.compLoop (.ListComp elt [⟨t1, i1, f1, 0⟩, ⟨target, iter, ifs, 0⟩] scope pos) 1 it' acc env) R s')
      (notedBy (model prog w) A env fun x s' => R (.error x) s') s) :
    codeAny (model prog w) A (.compStart (.ListComp elt [⟨t1, i1, f1, 0⟩, ⟨target, iter, ifs, 0⟩] scope pos) 1 it acc env) R s := by
  refine codeAny_of_tree ?_
  show wpAny _ _ ((compStart (.ListComp elt [⟨t1, i1, f1, 0⟩, ⟨target, iter, ifs, 0⟩] scope pos) 1 it acc env).onRaise (fun x => do noteFrame x env; standAt theWindowsPlace)) _ _ s
  refine wpAny_notedAt ?_
  unfold compStart
  show wpAny _ _ (ask >>= _) _ _ s
  refine wpAny_bind (wpAny_askSetting (wpAny_ite ?_))
  split
  · first
      | exact wpAny_bind (wpAny_pure (wpAny_pure (And.intro rfl h0)))
      | exact wpAny_pure (And.intro rfl h0)
  · first
      | exact wpAny_bind (wpAny_rule (wpAny_bind (wpAny_standAt (wpAny_bind (wpAny_mono h (fun it' s' h' => wpAny_pure (And.intro rfl h')) fun _ _ x => x)))))
      | (refine wpAny_bind (wpAny_rule ?_); show wpAny _ _ (standAt iter.pos >>= _) _ _ s; exact wpAny_bind (wpAny_standAt (wpAny_bind (wpAny_mono h (fun it' s' h' => wpAny_pure (And.intro rfl h')) fun _ _ x => x))))

theorem turn20 {elt target iter t2 i2 : Expr} {f2 : List Expr} {scope : Scope} {pos : Pos} {it acc : Value}
    (hs : ∀ x, foldedSetIterable i2 env x = pure x)
    (h : wpAny (model prog w) A (pyNext it) (fun r s₁ => match r with
      | none => R (.ok .next) s₁
      | some v => wpAny (model prog w) A (letOwnedTupleGo target it v) (fun _ s₂ => wpAny (model prog w) A (assign target env v) (fun _ s₃ =>
            wpAny (model prog w) A (eval i2 env) (fun x s₅ => wpAny (model prog w) A (pyIter x) (fun it' s₆ => codeAny (model prog w) A (.compStart (.ListComp elt [⟨target, iter, [], 0⟩, ⟨t2, i2, f2, 0⟩] scope pos) 1 it' acc env)
               (Inner prog w A (.ListComp elt [⟨target, iter, [], 0⟩, ⟨t2, i2, f2, 0⟩] scope pos) it acc env R) s₆) (notedBy (model prog w) A env fun e s' => R (.error e) s') s₅) (notedBy (model prog w) A env fun e s' => R (.error e) s') s₃
           ) (notedBy (model prog w) A env fun e s' => R (.error e) s') s₂) (notedBy (model prog w) A env fun e s' => R (.error e) s') s₁) (notedBy (model prog w) A env fun e s' => R (.error e) s') s) :
    codeAny (model prog w) A (.compLoop (.ListComp elt [⟨target, iter, [], 0⟩, ⟨t2, i2, f2, 0⟩] scope pos) 0 it acc env) R s := by
  refine codeAny_of_tree ?_
  show wpAny _ A ((compTurn (.ListComp elt [⟨target, iter, [], 0⟩, ⟨t2, i2, f2, 0⟩] scope pos) 0 it acc env).onRaise (fun x => do noteFrame x env; theTreesLotGoes x)) _ _ s
  refine wpAny_noted ?_
  rw [turn20_eq]
  refine wpAny_bind (wpAny_standAt (wpAny_bind (wpAny_mono h (fun r s₁ h₁ => ?_) fun _ _ h' => h')))
  cases r with
  | none => exact wpAny_pure h₁
  | some v =>
    refine wpAny_bind (wpAny_mono h₁ (fun _ s₂ h₂ => wpAny_bind (wpAny_mono h₂ (fun _ s₃ h₃ => wpAny_bind (wpAny_mono (wpAny_tests_nil (Q := fun ok s₄ => ok = true ∧ s₄ = s₃) ⟨rfl, rfl⟩) (fun ok s₄ h₄ => ?_) fun _ _ h' => h')) fun _ _ h' => h')) fun _ _ h' => h')
    obtain ⟨rfl, rfl⟩ := h₄
    refine wpAny_bind (wpAny_mono h₃ (fun x s₅ h₅ => wpAny_bind (wpAny_standAt (wpAny_bind (wpAny_of_eq (hs x) (wpAny_bind (wpAny_holding (wpAny_mono h₅ (fun it' s₆ h₆ => wpAny_bind (wpAny_runOwn (codeAny_mono h₆ fun r s₇ h₇ => ?_))) fun _ _ h' => h'))))))) fun _ _ h' => h')
    cases r with
    | ok f => exact wpAny_pure ⟨rfl, h₇⟩
    | error e => exact h₇.elim
end
end Mine
end
section
open PySem PySem.W PyProof.Rows PySem.Calls
namespace Mine
set_option maxRecDepth 100000
set_option maxHeartbeats 8000000
set_option linter.unusedVariables false
section
variable {w : World} {A : Around} {E : Value → Shared → Prop} {s : Shared} {h₀ : Heap} {L I C D : Addr} {m : Str → Option Value} {rest news : List (Addr × Obj)} {env : Env}

theorem keep_ne {X : Addr} {l : List (Addr × Obj)} {h h' : Heap} (N : News h₀ L h l) (hk : ∀ b o, b ≠ X → h.get? b = some o → h'.get? b = some o) (hX : ∀ p ∈ l, p.1 ≠ X) : News h₀ L h' l :=
  fun p hp => ⟨hk _ _ (hX p hp) (N p hp).1, (N p hp).2⟩
theorem news_cons {X : Addr} {o : Obj} {l : List (Addr × Obj)} {h : Heap} (e : h.get? X = some o) (hL : X ≠ L) (h0 : h₀.get? X = none) (N : News h₀ L h l) : News h₀ L h ((X, o) :: l) := fun p hp => by
  rcases List.mem_cons.mp hp with rfl | hp
  · exact ⟨e, hL, h0⟩
  · exact N p hp
theorem news_rest {a : Addr × Obj} {l : List (Addr × Obj)} {h : Heap} (N : News h₀ L h (a :: l)) : News h₀ L h l := fun p hp => N p (List.mem_cons_of_mem _ hp)

/-- a name stored in the block's own namespace -/
theorem c_store {scope : Scope} {cl : List (Str × Addr)} {x : Str} {v : Value} {px : Pos} {oC : Obj} {mm : Str → Option Value} {Q : Unit → Shared → Prop}
    (F : Fr h₀ L s.heap m) (N : News h₀ L s.heap ((C, oC) :: rest)) (hC : ∀ p ∈ rest, p.1 ≠ C) (hns : LCg.NsObj oC mm) (hx : scope.names.lookup x = some .local) (hkind : scope.kind = .function)
    (h : ∀ h' oC', Fr h₀ L h' m → News h₀ L h' ((C, oC') :: rest) → LCg.NsObj oC' (fun z => if z = x then some v else mm z) → Q () { s with heap := h', toks := s.toks + 1 }) :
    wpAny (model prog w) A (assign (.Name x px) (compEnvC scope cl C env) v) Q E s := by
  have z := N _ (List.mem_cons_self ..)
  refine wpAny_assign_Name (wpAny_storeName_local (lookup_relabel_local hx) (hns.ns z.1) (fun h' hn' hs' => ?_) (by simp [compEnvC, relabel, hkind]))
  obtain ⟨oC', e', hns'⟩ := LCg.ns_obj hn'
  exact h h' oC' (F.change hs' z.2.1 z.2.2) (news_cons e' z.2.1 z.2.2 (keep_ne (news_rest N) (fun b o hb e => hs'.extBut b o hb e) hC)) hns'
theorem swap2 {a b : Addr × Obj} {l : List (Addr × Obj)} {h : Heap} (N : News h₀ L h (a :: b :: l)) : News h₀ L h (b :: a :: l) := (njoin (nhd (ntl N)) (njoin (nhd N) (ntl (ntl N))))
/-- the next item of a block's list, stored under one name -/
theorem c_name {scope : Scope} {cl : List (Str × Addr)} {x : Str} {v : Value} {px : Pos} {ax : Addr} {us : List Value} {i n : Nat} {oI oC : Obj} {mm : Str → Option Value} {X : Shared → Prop} {Q : Unit → Shared → Prop} {E1 E2 : Value → Shared → Prop}
    (F : Fr h₀ L s.heap m) (N : News h₀ L s.heap ((I, oI) :: (C, oC) :: rest)) (hIC : I ≠ C) (hI : ∀ p ∈ rest, p.1 ≠ I) (hC : ∀ p ∈ rest, p.1 ≠ C) (li : LiIs oI ax i) (hns : LCg.NsObj oC mm) (hm : (ax, listOf us.toArray n) ∈ rest) (hv : us[i]? = some v)
    (hx : scope.names.lookup x = some .local) (hkind : scope.kind = .function)
    (h : ∀ h' tk oI' oC' m2, Fr h₀ L h' m → News h₀ L h' ((I, oI') :: (C, oC') :: rest) → LiIs oI' ax (i + 1) → LCg.NsObj oC' m2 → m2 x = some v → (∀ z, z ≠ x → m2 z = mm z) → Q () { s with heap := h', toks := tk }) :
    wpAny (model prog w) A (pyNext (.ref I)) (fun r s₁ => match r with | none => X s₁ | some v => wpAny (model prog w) A (letOwnedTupleGo (.Name x px) (.ref I) v) (fun _ s₂ => wpAny (model prog w) A (assign (.Name x px) (compEnvC scope cl C env) v) Q E1 s₂) E2 s₁) E s := by
  refine lnext_item F N (List.forall_mem_cons.mpr ⟨Ne.symm hIC, hI⟩) li (List.mem_cons_of_mem _ hm) hv fun h₁ oI₁ F₁ N₁ li₁ => ?_
  show wpAny _ _ (pure ()) _ _ _
  refine wpAny_pure ?_
  refine c_store (rest := (I, oI₁) :: rest) F₁ (swap2 N₁) (List.forall_mem_cons.mpr ⟨hIC, hC⟩) hns hx hkind fun h' oC' F' N' hns' => ?_
  exact h _ _ _ _ _ F' (swap2 N') li₁ hns' (by simp) (fun z hz => by simp [hz])
/-- the next item of a block's list, a list of four, stored under four names -/
theorem c_tup {scope : Scope} {cl : List (Str × Addr)} {x1 x2 x3 x4 : Str} {v1 v2 v3 v4 : Value} {p1 p2 p3 p4 tp : Pos} {kk : Nat} {q ax : Addr} {us : List Value} {i n e : Nat} {oI oC : Obj} {mm : Str → Option Value} {X : Shared → Prop} {Q : Unit → Shared → Prop} {E1 E2 : Value → Shared → Prop}
    (hh : A.handled = none)
    (F : Fr h₀ L s.heap m) (N : News h₀ L s.heap ((I, oI) :: (C, oC) :: rest)) (hIC : I ≠ C) (hI : ∀ p ∈ rest, p.1 ≠ I) (hC : ∀ p ∈ rest, p.1 ≠ C) (li : LiIs oI ax i) (hns : LCg.NsObj oC mm) (hm : (ax, listOf us.toArray n) ∈ rest) (hv : us[i]? = some (.ref q))
    (hq : (q, listOf #[v1, v2, v3, v4] e) ∈ rest)
    (hx1 : scope.names.lookup x1 = some .local) (hx2 : scope.names.lookup x2 = some .local) (hx3 : scope.names.lookup x3 = some .local) (hx4 : scope.names.lookup x4 = some .local) (hkind : scope.kind = .function) (hnd : [x4, x3, x2, x1].Nodup)
    (h : ∀ h' tk oI' oC' m2, Fr h₀ L h' m → News h₀ L h' ((I, oI') :: (C, oC') :: rest) → LiIs oI' ax (i + 1) → LCg.NsObj oC' m2 → m2 x1 = some v1 → m2 x2 = some v2 → m2 x3 = some v3 → m2 x4 = some v4 → Q () { s with heap := h', toks := tk }) :
    wpAny (model prog w) A (pyNext (.ref I)) (fun r s₁ => match r with | none => X s₁ | some v => wpAny (model prog w) A (letOwnedTupleGo (.Tuple [.Name x1 p1, .Name x2 p2, .Name x3 p3, .Name x4 p4] kk tp) (.ref I) v) (fun _ s₂ => wpAny (model prog w) A (assign (.Tuple [.Name x1 p1, .Name x2 p2, .Name x3 p3, .Name x4 p4] kk tp) (compEnvC scope cl C env) v) Q E1 s₂) E2 s₁) E s := by
  refine lnext_item F N (List.forall_mem_cons.mpr ⟨Ne.symm hIC, hI⟩) li (List.mem_cons_of_mem _ hm) hv fun h₁ oI₁ F₁ N₁ li₁ => ?_
  dsimp only
  refine wpAny_letOwnedTupleGo_listiter (l := ax) (i := i + 1) ⟨oI₁, (N₁ _ (List.mem_cons_self ..)).1, li₁.1, li₁.2⟩ ?_
  refine kun_list F₁ N₁ (items := #[v1, v2, v3, v4]) ⟨_, (N₁ _ (List.mem_cons_of_mem _ (List.mem_cons_of_mem _ hq))).1, rfl, _, rfl⟩ hh rfl rfl fun h₂ F₂ N₂ => ?_
  show wpAny _ _ (assignInOrder [assign (.Name x1 p1) (compEnvC scope cl C env), assign (.Name x2 p2) (compEnvC scope cl C env), assign (.Name x3 p3) (compEnvC scope cl C env), assign (.Name x4 p4) (compEnvC scope cl C env)] [v1, v2, v3, v4]) _ _ _
  have hC' : ∀ p ∈ (I, oI₁) :: rest, p.1 ≠ C := List.forall_mem_cons.mpr ⟨hIC, hC⟩
  refine assignInOrder_cons (c_store F₂ (swap2 N₂) hC' hns hx1 hkind fun h₃ oC₃ F₃ N₃ hns₃ => ?_)
  refine assignInOrder_cons (c_store F₃ N₃ hC' hns₃ hx2 hkind fun h₄ oC₄ F₄ N₄ hns₄ => ?_)
  refine assignInOrder_cons (c_store F₄ N₄ hC' hns₄ hx3 hkind fun h₅ oC₅ F₅ N₅ hns₅ => ?_)
  refine assignInOrder_cons (c_store F₅ N₅ hC' hns₅ hx4 hkind fun h₆ oC₆ F₆ N₆ hns₆ => ?_)
  refine assignInOrder_nil ?_
  simp only [List.nodup_cons, List.mem_cons, List.not_mem_nil, or_false, not_or] at hnd
  obtain ⟨⟨a1, a2, a3⟩, ⟨b1, b2⟩, c1, _⟩ := hnd
  refine h _ _ _ _ _ F₆ (swap2 N₆) li₁ hns₆ ?_ ?_ ?_ ?_
  · simp [Ne.symm a3, Ne.symm b2, Ne.symm c1]
  · simp [Ne.symm a2, Ne.symm b1]
  · simp [Ne.symm a1]
  · simp
/-- the end of a block's list -/
theorem c_done {ax : Addr} {us : List Value} {i n : Nat} {oI : Obj} {X : Shared → Prop} {Y : Value → Shared → Prop}
    (hh : A.handled = none) (F : Fr h₀ L s.heap m) (N : News h₀ L s.heap ((I, oI) :: rest)) (hI : ∀ p ∈ rest, p.1 ≠ I) (li : LiIs oI ax i) (hm : (ax, listOf us.toArray n) ∈ rest) (hv : us[i]? = none)
    (h : ∀ h', Fr h₀ L h' m → News h₀ L h' rest → X { s with heap := h' }) :
    wpAny (model prog w) A (pyNext (.ref I)) (fun r s₁ => match r with | none => X s₁ | some v => Y v s₁) E s :=
  lnext_done hh F N hI li hm hv fun h' F' N' => h h' F' N'
/-- the block's end -/
noncomputable def CDone (C D : Addr) (Q : Value → Shared → Prop) (r : Result) (s' : Shared) : Prop :=
  match r with | .ok _ => ∃ mm, s'.heap.Ns C mm ∧ ∀ h', Heap.SameBut C s'.heap h' → Q (.ref D) { s' with heap := h' } | .error _ => False
theorem c_fin {oC : Obj} {mm : Str → Option Value} {Q : Value → Shared → Prop} (F : Fr h₀ L s.heap m) (N : News h₀ L s.heap ((C, oC) :: rest)) (hC : ∀ p ∈ rest, p.1 ≠ C) (hns : LCg.NsObj oC mm)
    (h : ∀ h', Fr h₀ L h' m → News h₀ L h' rest → Q (.ref D) { s with heap := h' }) : CDone C D Q (.ok .next) s := by
  have z := N _ (List.mem_cons_self ..)
  exact ⟨mm, hns.ns z.1, fun h' hs' => h h' (F.change hs' z.2.1 z.2.2) (keep_ne (news_rest N) (fun b o hb e => hs'.extBut b o hb e) hC)⟩
/-- what stands behind a block's first source -/
noncomputable def CSrc (w : World) (A : Around) (h₀ : Heap) (L : Addr) (m : Str → Option Value) (e : Expr) (scope : Scope) (cl : List (Str × Addr)) (env : Env) (Q : Value → Shared → Prop) (xv : Value) (s₁ : Shared) : Prop :=
  ∃ (ax : Addr) (us : List Value) (n : Nat) (news : List (Addr × Obj)), xv = .ref ax ∧ Fr h₀ L s₁.heap m ∧ News h₀ L s₁.heap news ∧ (ax, listOf us.toArray n) ∈ news ∧
    ∀ I C D h tk oI oC mm, Fr h₀ L h m → News h₀ L h ((I, oI) :: (C, oC) :: (D, LCg.lst []) :: news) → LiIs oI ax 0 → LCg.NsObj oC mm → (∀ p ∈ news, @LT.lt Nat _ p.1 I) → @LT.lt Nat _ I D → @LT.lt Nat _ D C →
      codeAny (model prog w) A (.compLoop e 0 (.ref I) (.ref D) (compEnvC scope cl C env)) (CDone C D Q) { s₁ with heap := h, toks := tk }
theorem c_src {e : Expr} {scope : Scope} {cl : List (Str × Addr)} {Q : Value → Shared → Prop} {ax : Addr} {us : List Value} {n : Nat} (F : Fr h₀ L s.heap m) (N : News h₀ L s.heap news) (hm : (ax, listOf us.toArray n) ∈ news)
    (h : ∀ I C D h tk oI oC mm, Fr h₀ L h m → News h₀ L h ((I, oI) :: (C, oC) :: (D, LCg.lst []) :: news) → LiIs oI ax 0 → LCg.NsObj oC mm → (∀ p ∈ news, @LT.lt Nat _ p.1 I) → @LT.lt Nat _ I D → @LT.lt Nat _ D C →
      codeAny (model prog w) A (.compLoop e 0 (.ref I) (.ref D) (compEnvC scope cl C env)) (CDone C D Q) { s with heap := h, toks := tk }) :
    CSrc w A h₀ L m e scope cl env Q (.ref ax) s := ⟨ax, us, n, news, rfl, F, N, hm, h⟩
theorem c_open {elt target iter : Expr} {ifs : List Expr} {gs : List Comprehension} {scope : Scope} {cl : List (Str × Addr)} {pos : Pos} {Q : Value → Shared → Prop}
    (_F : Fr h₀ L s.heap m) (hclos : closureFor scope env = pure cl) (hcell : ∀ y ∈ scope.names, y.2 ≠ .cell) (hkind : scope.kind = .function)
    (hnames : ∀ y ∈ scope.names, y.2 = .local → scope.names.lookup y.1 = some .local)
    (h : wpAny (model prog w) A (eval iter env) (CSrc w A h₀ L m (.ListComp elt (⟨target, iter, ifs, 0⟩ :: gs) scope pos) scope cl env Q) E s)
    (hs : ∀ x, foldedSetIterable iter env x = pure x) :
    wpAny (model prog w) A (eval (.ListComp elt (⟨target, iter, ifs, 0⟩ :: gs) scope pos) env) Q E s := by
  rw [eval_ListComp]
  refine wpAny_comprehension_free (use := none) rfl hs hclos hkind hnames (wpAny_mono h (fun xv s₁ h₁ => ?_) fun _ _ e => e)
  obtain ⟨ax, us, n, news, rfl, F, N, hm, H⟩ := h₁
  refine iterL F N hm fun I h₂ oI F₂ N₂ li hlt => ?_
  refine wpAny_newObj_type ?_
  have F₃ := F₂.push { cls := .type "list", dict := none, data := .seq ([] : List Value).toArray }
  have N₃ := News.push F₂ N₂ { cls := .type "list", dict := none, data := .seq ([] : List Value).toArray } rfl
  have hlt₃ : ∀ p ∈ (I, oI) :: news, p.1 < h₂.objs.size := fun p hp => Heap.lt_size (N₂ p hp).1
  dsimp only at *
  generalize hH : h₂.push { cls := .type "list", dict := none, data := .seq ([] : List Value).toArray } = H₃ at F₃ N₃ ⊢
  have hsz : H₃.objs.size = h₂.objs.size + 1 := by rw [← hH, Heap.size_push]
  refine wpAny_newFunctionEnv hcell (by intro y hy; simp at hy) (fun h₄ hns₄ hsb₄ => ?_) hkind
  dsimp only at hns₄ hsb₄ ⊢
  have hltC : ∀ p ∈ (h₂.objs.size, _) :: (I, oI) :: news, p.1 < H₃.objs.size := fun p hp => Heap.lt_size (N₃ p hp).1
  have ex : ∀ b o, b ≠ H₃.objs.size → H₃.get? b = some o → h₄.get? b = some o := fun b o hb e => hsb₄.extBut b o hb (Heap.get?_push_of_some _ e)
  have exI : ∀ b o, H₃.get? b = some o → h₄.get? b = some o := fun b o e => ex b o (Nat.ne_of_lt (Heap.lt_size e)) e
  obtain ⟨oC, eC, hnsC⟩ := LCg.ns_obj hns₄
  have F₄ : Fr h₀ L h₄ m := F₃.keeps exI
  have hCL : H₃.objs.size ≠ L := fun q => Nat.lt_irrefl _ (q ▸ F₃.ns.lt : H₃.objs.size < H₃.objs.size)
  have hC0 : h₀.get? H₃.objs.size = none := by
    cases e : h₀.get? H₃.objs.size with
    | none => rfl
    | some o' => exact absurd (Heap.lt_size (F₃.keep _ _ e)) (Nat.lt_irrefl _)
  have N₄ : News h₀ L h₄ ((I, oI) :: (H₃.objs.size, oC) :: (h₂.objs.size, LCg.lst []) :: news) := by
    have N₄' := news_cons eC hCL hC0 (N₃.grown exI)
    exact (njoin (nhd (ntl (ntl N₄'))) (njoin (nhd N₄') (njoin (nhd (ntl N₄')) (ntl (ntl (ntl N₄'))))))
  have loop := H I H₃.objs.size h₂.objs.size h₄ (s₁.toks + ([] : List (Str × Value)).length) oI oC _ F₄ N₄ li hnsC (fun p hp => hlt p hp) (hlt₃ _ (List.mem_cons_self ..)) (hltC _ (List.mem_cons_self ..))
  have loop' := codeAny_mono loop (R' := compPost (model prog w) A E none Q (.ref h₂.objs.size) H₃.objs.size) (fun r s' hr => by
    cases r with
    | ok f => exact hr
    | error x => exact hr.elim)
  exact codeAny_compStart_list loop' (wpAny_pyIter_listiter (l := ax) (i := 0) ⟨oI, (N₄ _ (List.mem_cons_self ..)).1, li.1, li.2⟩ loop')
end
end Mine
end
section
open PySem PySem.W PyProof.Rows PySem.Calls
namespace Mine
set_option maxRecDepth 100000
set_option maxHeartbeats 8000000
set_option linter.unusedVariables false
section
variable {w : World} {A : Around} {E : Value → Shared → Prop} {s : Shared} {h₀ : Heap} {L I C D : Addr} {m : Str → Option Value} {rest news : List (Addr × Obj)} {env : Env}
/-- the block's end, its list stored under a name first -/
noncomputable def CDoneU (w : World) (A : Around) (E : Value → Shared → Prop) (env : Env) (y : Str) (py : Pos) (C D : Addr) (Q : Flow → Shared → Prop) (r : Result) (s' : Shared) : Prop :=
  match r with
  | .ok _ => wpAny (model prog w) A (assign (.Name y py) env (.ref D)) (fun _ s'' => ∃ mm, s''.heap.Ns C mm ∧ ∀ h', Heap.SameBut C s''.heap h' → Q .next { s'' with heap := h' }) E s'
  | .error _ => False
theorem c_finU {cn : Str} {cs : Scope} {a : Addr} {ccd : Value} {cl : List (Str × Addr)} {y : Str} {py : Pos} {oC : Obj} {mm : Str → Option Value} {Q : Flow → Shared → Prop} (F : Fr h₀ L s.heap m) (N : News h₀ L s.heap ((C, oC) :: rest)) (hC : ∀ p ∈ rest, p.1 ≠ C) (hns : LCg.NsObj oC mm)
    (h : ∀ h', Fr h₀ L h' (fun z => if z = y then some (.ref D) else m z) → News h₀ L h' rest → Q .next { s with heap := h', toks := s.toks + 1 })
    (hk : cs.kind = .function) (hx : (envX cn cs L a ccd cl).kindOf y = some .local) : CDoneU w A E (envX cn cs L a ccd cl) y py C D Q (.ok .next) s := by
  refine wpAny_assign_Name (storeX_L F N (fun h₁ F₁ N₁ => ?_) hk hx)
  have z := N₁ _ (List.mem_cons_self ..)
  exact ⟨mm, hns.ns z.1, fun h' hs' => h h' (F₁.change hs' z.2.1 z.2.2) (keep_ne (news_rest N₁) (fun b o hb e => hs'.extBut b o hb e) hC)⟩
noncomputable def CSrcU (w : World) (A : Around) (E : Value → Shared → Prop) (h₀ : Heap) (L : Addr) (m : Str → Option Value) (e : Expr) (scope : Scope) (cl : List (Str × Addr)) (env : Env) (y : Str) (py : Pos) (Q : Flow → Shared → Prop) (xv : Value) (s₁ : Shared) : Prop :=
  ∃ (ax : Addr) (us : List Value) (n : Nat) (news : List (Addr × Obj)), xv = .ref ax ∧ Fr h₀ L s₁.heap m ∧ News h₀ L s₁.heap news ∧ (ax, listOf us.toArray n) ∈ news ∧
    ∀ I C D h tk oI oC mm, Fr h₀ L h m → News h₀ L h ((I, oI) :: (C, oC) :: (D, LCg.lst []) :: news) → LiIs oI ax 0 → LCg.NsObj oC mm → (∀ p ∈ news, @LT.lt Nat _ p.1 I) → @LT.lt Nat _ I D → @LT.lt Nat _ D C →
      codeAny (model prog w) A (.compLoop e 0 (.ref I) (.ref D) (compEnvC scope cl C env)) (CDoneU w A E env y py C D Q) { s₁ with heap := h, toks := tk }
theorem c_srcU {e : Expr} {scope : Scope} {cl : List (Str × Addr)} {y : Str} {py : Pos} {Q : Flow → Shared → Prop} {ax : Addr} {us : List Value} {n : Nat} (F : Fr h₀ L s.heap m) (N : News h₀ L s.heap news) (hm : (ax, listOf us.toArray n) ∈ news)
    (h : ∀ I C D h tk oI oC mm, Fr h₀ L h m → News h₀ L h ((I, oI) :: (C, oC) :: (D, LCg.lst []) :: news) → LiIs oI ax 0 → LCg.NsObj oC mm → (∀ p ∈ news, @LT.lt Nat _ p.1 I) → @LT.lt Nat _ I D → @LT.lt Nat _ D C →
      codeAny (model prog w) A (.compLoop e 0 (.ref I) (.ref D) (compEnvC scope cl C env)) (CDoneU w A E env y py C D Q) { s with heap := h, toks := tk }) :
    CSrcU w A E h₀ L m e scope cl env y py Q (.ref ax) s := ⟨ax, us, n, news, rfl, F, N, hm, h⟩
theorem c_openU {elt target iter : Expr} {ifs : List Expr} {gs : List Comprehension} {scope : Scope} {cl : List (Str × Addr)} {pos spos : Pos} {y : Str} {py : Pos} {Q : Flow → Shared → Prop}
    (hsw : swapsWith (.ListComp elt (⟨target, iter, ifs, 0⟩ :: gs) scope pos) (some (.Name y py)) spos.line env = pure true)
    (_F : Fr h₀ L s.heap m) (hclos : closureFor scope env = pure cl) (hcell : ∀ y ∈ scope.names, y.2 ≠ .cell) (hkind : scope.kind = .function)
    (hnames : ∀ y ∈ scope.names, y.2 = .local → scope.names.lookup y.1 = some .local)
    (h : wpAny (model prog w) A (eval iter env) (CSrcU w A E h₀ L m (.ListComp elt (⟨target, iter, ifs, 0⟩ :: gs) scope pos) scope cl env y py Q) E s)
    (hs : ∀ x, foldedSetIterable iter env x = pure x) :
    wpAny (model prog w) A (exec (.Assign [.Name y py] (.ListComp elt (⟨target, iter, ifs, 0⟩ :: gs) scope pos) spos) env) Q E s := by
  rw [exec_Assign_Name_used _ _ _ _ hsw]
  refine wpAny_bind (wpAny_standAt (wpAny_bind ?_))
  show wpAny _ A (do let _ ← comprehension (.ListComp elt (⟨target, iter, ifs, 0⟩ :: gs) scope pos) scope env _ (newList []) false (eval iter env) (some (assign (.Name y py) env))) _ _ s
  refine wpAny_bind (wpAny_mono (wpAny_comprehension_free (use := some (assign (.Name y py) env)) (Q := fun _ s' => Q .next s') rfl hs hclos hkind hnames
    (wpAny_mono h (fun xv s₁ h₁ => ?_) fun _ _ e => e)) (fun _ s' hq => wpAny_pure (wpAny_pure hq)) fun _ _ e => e)
  obtain ⟨ax, us, n, news, rfl, F, N, hm, H⟩ := h₁
  refine iterL F N hm fun I h₂ oI F₂ N₂ li hlt => ?_
  refine wpAny_newObj_type ?_
  have F₃ := F₂.push { cls := .type "list", dict := none, data := .seq ([] : List Value).toArray }
  have N₃ := News.push F₂ N₂ { cls := .type "list", dict := none, data := .seq ([] : List Value).toArray } rfl
  have hlt₃ : ∀ p ∈ (I, oI) :: news, p.1 < h₂.objs.size := fun p hp => Heap.lt_size (N₂ p hp).1
  dsimp only at *
  generalize hH : h₂.push { cls := .type "list", dict := none, data := .seq ([] : List Value).toArray } = H₃ at F₃ N₃ ⊢
  have hsz : H₃.objs.size = h₂.objs.size + 1 := by rw [← hH, Heap.size_push]
  refine wpAny_newFunctionEnv hcell (by intro y hy; simp at hy) (fun h₄ hns₄ hsb₄ => ?_) hkind
  dsimp only at hns₄ hsb₄ ⊢
  have hltC : ∀ p ∈ (h₂.objs.size, _) :: (I, oI) :: news, p.1 < H₃.objs.size := fun p hp => Heap.lt_size (N₃ p hp).1
  have ex : ∀ b o, b ≠ H₃.objs.size → H₃.get? b = some o → h₄.get? b = some o := fun b o hb e => hsb₄.extBut b o hb (Heap.get?_push_of_some _ e)
  have exI : ∀ b o, H₃.get? b = some o → h₄.get? b = some o := fun b o e => ex b o (Nat.ne_of_lt (Heap.lt_size e)) e
  obtain ⟨oC, eC, hnsC⟩ := LCg.ns_obj hns₄
  have F₄ : Fr h₀ L h₄ m := F₃.keeps exI
  have hCL : H₃.objs.size ≠ L := fun q => Nat.lt_irrefl _ (q ▸ F₃.ns.lt : H₃.objs.size < H₃.objs.size)
  have hC0 : h₀.get? H₃.objs.size = none := by
    cases e : h₀.get? H₃.objs.size with
    | none => rfl
    | some o' => exact absurd (Heap.lt_size (F₃.keep _ _ e)) (Nat.lt_irrefl _)
  have N₄ : News h₀ L h₄ ((I, oI) :: (H₃.objs.size, oC) :: (h₂.objs.size, LCg.lst []) :: news) := by
    have N₄' := news_cons eC hCL hC0 (N₃.grown exI)
    exact (njoin (nhd (ntl (ntl N₄'))) (njoin (nhd N₄') (njoin (nhd (ntl N₄')) (ntl (ntl (ntl N₄'))))))
  have loop := H I H₃.objs.size h₂.objs.size h₄ (s₁.toks + ([] : List (Str × Value)).length) oI oC _ F₄ N₄ li hnsC (fun p hp => hlt p hp) (hlt₃ _ (List.mem_cons_self ..)) (hltC _ (List.mem_cons_self ..))
  have loop' := codeAny_mono loop (R' := compPost (model prog w) A E (some (assign (.Name y py) env)) (fun _ s' => Q .next s') (.ref h₂.objs.size) H₃.objs.size) (fun r s' hr => by
    cases r with
    | ok f => exact hr
    | error x => exact hr.elim)
  exact codeAny_compStart_list loop' (wpAny_pyIter_listiter (l := ax) (i := 0) ⟨oI, (N₄ _ (List.mem_cons_self ..)).1, li.1, li.2⟩ loop')
end
end Mine
end
section
open PySem PySem.W PyProof.Rows PySem.Calls
namespace Mine
set_option maxRecDepth 100000
set_option maxHeartbeats 8000000
set_option linter.unusedVariables false
section
variable {w : World} {A : Around} {s : Shared} {env : Env} {R : Result → Shared → Prop}
noncomputable def NextOf (w : World) (A : Around) (c : Code) (R : Result → Shared → Prop) (f : Flow) (s₃ : Shared) : Prop :=
  match f with
  | .next | .cont => codeAny (model prog w) A c R s₃
  | .brk => R (.ok .next) s₃
  | .ret v => R (.ok (.ret v)) s₃
/-- one turn of a for loop -/
theorem for1 {target : Expr} {it : Value} {body : List Stmt}
    (h : wpAny (model prog w) A (pyNext it) (fun r s₁ => match r with
      | none => R (.ok .next) s₁
      | some v => wpAny (model prog w) A (letOwnedTupleGo target it v) (fun _ s₁' =>
          wpAny (model prog w) A (assign target env v) (fun _ s₂ => wpAny (model prog w) A (execs body env) (NextOf w A (.forLoop target it body [] env) R) (notedBy (model prog w) A env fun e s' => R (.error e) s') s₂) (notedBy (model prog w) A env fun e s' => R (.error e) s') s₁') (notedBy (model prog w) A env fun e s' => R (.error e) s') s₁) (notedBy (model prog w) A env fun e s' => R (.error e) s') s) :
    codeAny (model prog w) A (.forLoop target it body [] env) R s := by
  refine codeAny_of_tree ?_
  show wpAny _ A ((forTurn target it body [] env).onRaise (fun x => do noteFrame x env; theTreesLotGoes x)) _ _ s
  refine wpAny_noted ?_
  simp only [forTurn]
  refine wpAny_bind (wpAny_standAt (wpAny_bind (wpAny_onRaise (wpAny_mono h (fun r s₁ h₁ => ?_) fun _ _ h' => wpAny_standAt h'))))
  cases r with
  | none => exact wpAny_pure ⟨rfl, codeAny_block (wpAny_execs_nil h₁)⟩
  | some v =>
    refine wpAny_bind (wpAny_mono h₁ (fun _ s₁' h₁' => ?_) fun _ _ h' => h')
    refine wpAny_bind (wpAny_mono h₁' (fun _ s₂ h₂ => wpAny_bind (wpAny_mono h₂ (fun f s₃ h₃ => ?_) fun _ _ h' => h')) fun _ _ h' => h')
    cases f with
    | next => exact wpAny_pure ⟨rfl, h₃⟩
    | cont => exact wpAny_pure ⟨rfl, h₃⟩
    | brk => exact wpAny_pure h₃
    | ret v => exact wpAny_pure h₃
end
end Mine
end
section
open PySem PySem.W PyProof.Rows PySem.Calls
namespace Mine
set_option maxRecDepth 100000
set_option maxHeartbeats 8000000
set_option linter.unusedVariables false
section
variable {w : World} {A : Around} {E Q : Value → Shared → Prop} {s : Shared} {h₀ h : Heap} {L D : Addr} {m : Str → Option Value} {news : List (Addr × Obj)} {t u : Tok}
theorem pow2 {r : Nat} (hr : r ≤ 20) (h : Q (.int ((2 ^ r : Nat) : Int) s.toks) { s with toks := s.toks + 1 }) : wpAny (model prog w) A (binaryOp .Pow (.int 2 t) (.int (r : Int) u)) Q E s := by
  refine pow_int_small (by ktr_room) (by ktr_room) (by decide) ?_
  have e : (2 : Int) ^ ((r : Int)).toNat = ((2 ^ r : Nat) : Int) := by simp
  rw [e]
  exact h
theorem divP {n : Int} {b : Nat} (hb : 0 < b) (hb2 : b < 2 ^ 30) (h : Q (.int (n / (b : Int)) s.toks) { s with toks := s.toks + 1 }) : wpAny (model prog w) A (binaryOp .FloorDiv (.int n t) (.int (b : Int) u)) Q E s := by
  refine floordiv_int (by ktr_room) ?_ (Or.inl (PyProof.noPylong_of_log2 ?_))
  · rw [Int.fdiv_eq_ediv_of_nonneg _ (by ktr_room)]
    exact h
  · have : ((b : Int)).natAbs = b := by simp
    rw [this]
    exact Nat.lt_trans ((Nat.log2_lt (by ktr_room)).mpr hb2) (by decide)
theorem pow2b {r b : Nat} (hb : 2 ^ r = b) (hr : r ≤ 20) (h : Q (.int (b : Int) s.toks) { s with toks := s.toks + 1 }) : wpAny (model prog w) A (binaryOp .Pow (.int 2 t) (.int (r : Int) u)) Q E s := pow2 hr (hb ▸ h)
theorem divB {n k : Int} {b : Nat} (hk : n / (b : Int) = k) (hb : 0 < b) (hb2 : b < 2 ^ 30) (h : Q (.int k s.toks) { s with toks := s.toks + 1 }) : wpAny (model prog w) A (binaryOp .FloorDiv (.int n t) (.int (b : Int) u)) Q E s := divP hb hb2 (hk ▸ h)
noncomputable def runS (k : Nat) : Str := ⟨(List.replicate k 92).toArray⟩
theorem runS_len (k : Nat) : (runS k).length = k := by simp [runS, Str.length]
theorem mul_run {i : Int} (h0 : 0 ≤ i) : Txt.mul (Str.ofString "\\") i = runS i.toNat := by
  obtain ⟨k, rfl⟩ := Int.eq_ofNat_of_zero_le h0
  unfold Txt.mul runS
  have hx : (Str.ofString "\\").cps = #[92] := by decide
  have hl : (Str.ofString "\\").length = 1 := by decide
  rcases k with _ | _ | k
  · rw [if_pos (by decide)]; rfl
  · rw [if_neg (by decide), if_pos (by decide)]
    apply Str.ext'
    rw [hx]; rfl
  · rw [if_neg (by ktr_room), if_neg (by rw [hl]; simp; ktr_room), hx]
    congr 1
    have key : ∀ (j : Nat) (acc : Array Nat), List.foldl (fun x1 x2 => x1 ++ x2) acc (List.replicate j #[92]) = acc ++ (List.replicate j 92).toArray := by
      intro j
      induction j with
      | zero => intro acc; simp
      | succ j ih => intro acc; rw [List.replicate_succ, List.foldl_cons, ih, List.replicate_succ, Array.append_assoc]; congr 1; apply Array.ext'; simp [List.replicate_succ]
    rw [key]
    simp
theorem mulB {i : Int} (h0 : 0 ≤ i) (h1 : i ≤ 1000000) (h : ∀ t' k, Q (.str (runS i.toNat) t') { s with toks := k }) : wpAny (model prog w) A (binaryOp .Mult (.str (Str.ofString "\\") t) (.int i u)) Q E s := by
  refine KXi.mul (n := 1) (by decide) (by decide) (by ktr_room) (by ktr_room) fun t' k _ _ => ?_
  rw [mul_run h0]
  exact h t' k
theorem addS {x y : Str} (hl : x.length + y.length ≤ 16777216) (h : ∀ t' k, Q (.str (x ++ y) t') { s with toks := k }) : wpAny (model prog w) A (binaryOp .Add (.str x t) (.str y u)) Q E s :=
  KOpn.add hl fun t' k _ => h t' k
theorem app_len' (y z : Str) : (y ++ z).length = y.length + z.length := by show (y.cps ++ z.cps).size = _; simp [Str.length]
theorem joinS {us : List Value} {n : Nat} {ys : List Str} (N : News h₀ L s.heap news) (hm : (D, listOf us.toArray n) ∈ news) (hi : StrsAre us ys) (hl : (ys.map (·.length)).sum ≤ 1000000) (h : ∀ t' k, Q (.str (Txt.join (Str.ofString "") ys) t') { s with toks := k }) :
    wpAny (model prog w) A (call (.builtin "str.join") [.str (Str.ofString "") t, .ref D]) Q E s :=
  join_list (items := us.toArray) ⟨_, (N _ hm).1, rfl, _, rfl⟩ (by simpa using hi) (by rw [show (Str.ofString "").length = 0 by decide]; ktr_room) fun t' k => h t' k
end
end Mine
end
section
open PySem PySem.W PyProof.Rows PySem.Calls
namespace Mine
set_option maxRecDepth 100000
set_option maxHeartbeats 8000000

theorem owner_ci : Manifest.owners.lookup (String.ofList ['r', 'o', 't', 'a', 'r', 'e', 't', 'i', '_', 'e', 'l', 'b', 'a', 'l', 'l', 'a', 'c'].reverse) = some Manifest.sig_callable_iterator := by kernel_rfl
theorem slot_ci_next : Slot "callable_iterator" "__next__" "callable_iterator.__next__" :=
  .of (owner := "callable_iterator") (n := "__next__") (by rw [typeLookup_type, builtinLookup_eq_fast]; kernel_rfl) (by decide +kernel) (by decide +kernel) (by decide +kernel)
    (by first | exact .inl (by decide +kernel) | exact .inr (by decide +kernel)) (by rw [isSubtype_type]; kernel_rfl)
theorem slot_ci_iter : Slot "callable_iterator" "__iter__" "callable_iterator.__iter__" :=
  .of (owner := "callable_iterator") (n := "__iter__") (by rw [typeLookup_type, builtinLookup_eq_fast]; kernel_rfl) (by decide +kernel) (by decide +kernel) (by decide +kernel)
    (by first | exact .inl (by decide +kernel) | exact .inr (by decide +kernel)) (by rw [isSubtype_type]; kernel_rfl)
theorem entry_ci_next : entryFor table "callable_iterator.__next__" = some Builtin.«callable_iterator.__next__» := entryFor_of_tree (by kernel_rfl)
theorem entry_ci_iter : entryFor table "callable_iterator.__iter__" = some Builtin.«dict_keyiterator.__iter__» :=
  entryFor_alias (id' := "dict_keyiterator.__iter__") (by kernel_rfl) (by first | rfl | decide +kernel | (unfold String.splitOn; simp +decide [String.splitOnAux])) (by decide +kernel) (by kernel_rfl)
theorem args_ci_next (a : Value) : argsOk "callable_iterator.__next__" ⟨[a], []⟩ := by
  unfold argsOk; rw [signature?_of (id := "callable_iterator.__next__") (n := ['_', '_', 't', 'x', 'e', 'n', '_', '_']) (o := ['r', 'o', 't', 'a', 'r', 'e', 't', 'i', '_', 'e', 'l', 'b', 'a', 'l', 'l', 'a', 'c']) (by kernel_rfl) owner_ci]; kernel_rfl
theorem args_ci_iter (a : Value) : argsOk "callable_iterator.__iter__" ⟨[a], []⟩ := by
  unfold argsOk; rw [signature?_of (id := "callable_iterator.__iter__") (n := ['_', '_', 'r', 'e', 't', 'i', '_', '_']) (o := ['r', 'o', 't', 'a', 'r', 'e', 't', 'i', '_', 'e', 'l', 'b', 'a', 'l', 'l', 'a', 'c']) (by kernel_rfl) owner_ci]; kernel_rfl

noncomputable abbrev ciObj (f : Value) (sent : Value) (b : Bool) : Obj := { cls := .type "callable_iterator", data := .fields #[f, sent, .bool b] }

section
variable {w : World} {A : Around} {E : Value → Shared → Prop} {s : Shared}
theorem borrowed_call {f : Value} {pos : List Value} {Q : Value → Shared → Prop}
    (hc : codeAny (model prog w) A (.call f ⟨pos, []⟩) (fun r s' => match r with | .ok (.ret v) => Q v s' | .ok _ => False | .error e => E e s') s) :
    wpAny (model prog w) A (callBorrowed f pos) Q E s := fun Γ p hΓ => by
  unfold callBorrowed
  have := hc _ p rfl (hΓ.enter (.call f ⟨pos, []⟩) none p (by intro x; cases x))
  show wpCode _ _ _ _ _
  refine wpCode_mono (fun r s' h => ?_) this
  cases r with
  | error e => exact h
  | ok fl => cases fl with
    | ret v => exact h
    | _ => exact h.elim

theorem ci_self {fi : Addr} {f se : Value} {b : Bool} {Q : Value → Shared → Prop} (hi : s.heap.get? fi = some (ciObj f se b)) (h : Q (.ref fi) s) : wpAny (model prog w) A (pyIter (.ref fi)) Q E s := by
  have hT : s.TypeIs (.ref fi) "callable_iterator" := (show ∃ o, s.heap.get? fi = some o ∧ o.cls = .type "callable_iterator" from ⟨_, hi, rfl⟩)
  refine wpAny_pyIter_slot hT slot_ci_iter (wpAny_call_entry slot_ci_iter hT entry_ci_iter ?_ (args_ci_iter _))
  show wpAny _ _ (ret (.ref fi)) _ _ s
  exact wpAny_pure ⟨_, rfl, "callable_iterator", _, hT, slot_ci_next.lookup, h⟩
end

section
variable {w : World} {A : Around} {E : Value → Shared → Prop} {s : Shared}

noncomputable def CiBack (fi bm fn : Addr) (self : Value) (oc : Value) (od : Option Addr) (fd : FuncData) (sl : Array (Option Value)) (te : Tok) (Q : Option Value → Shared → Prop) (v : Value) (s' : Shared) : Prop :=
  ∃ x t, v = .str x t ∧ s'.heap.get? fi = some (ciObj (.ref bm) (.str (Str.ofString "") te) false) ∧ s'.heap.get? bm = some (methodObj (.ref fn) self) ∧ s'.heap.get? fn = some ⟨oc, od, .func fd, sl⟩ ∧
    (x ≠ Str.ofString "" → Q (some v) s') ∧
    (x = Str.ofString "" → ∀ h', h'.get? fi = some (ciObj .none .none true) → (∀ b o, b ≠ fi → s'.heap.get? b = some o → h'.get? b = some o) → Q none { s' with heap := h' })

theorem ci_stop {α : Type} {R : α → Shared → Prop} {Q : Option Value → Shared → Prop} (hh : A.handled = none)
    (h : ∀ h', (∀ b o, s.heap.get? b = some o → h'.get? b = some o) → Q none { s with heap := h' }) :
    wpAny (model prog w) A.in1 (Builtin.SmallTypes.stopIteration (α := α)) R (fun e s' => wpAny (model prog w) A (isInstance e (.type "StopIteration") >>= fun b => if b = true then pure none else throw e) Q E s') s := by
  unfold Builtin.SmallTypes.stopIteration
  refine wpAny_bind ?_
  simp only [newExc, newTuple]
  refine wpAny_bind (wpAny_newObj_type ?_ (by size_fits))
  refine wpAny_bind (m := firstArgMember _ _) (wpAny_of_eq (a := Value.none) (by first | rfl | (simp only [firstArgMember]; rfl)) ?_)
  refine wpAny_newObj_type ?_ (by size_fits)
  simp only [raiseNew]
  refine wpAny_bind (wpAny_handled ?_)
  rw [show A.in1.handled = none from hh]
  refine wpAny_bind (wpAny_pure (wpAny_throw ?_))
  refine wpAny_bind (wpAny_isInstance (T := "StopIteration") (b := true) ⟨_, Heap.get?_push_size _ rfl, rfl⟩ isSubtype_stop ?_)
  rw [if_pos rfl]
  exact wpAny_pure (h _ fun b o e => Heap.get?_push_of_some _ (Heap.get?_push_of_some _ e))

theorem ci_ended {fi : Addr} {Q : Option Value → Shared → Prop} (hh : A.handled = none) (hi : s.heap.get? fi = some (ciObj .none .none true))
    (h : ∀ h', (∀ b o, s.heap.get? b = some o → h'.get? b = some o) → Q none { s with heap := h' }) : wpAny (model prog w) A (pyNext (.ref fi)) Q E s := by
  have hT : s.TypeIs (.ref fi) "callable_iterator" := (show ∃ o, s.heap.get? fi = some o ∧ o.cls = .type "callable_iterator" from ⟨_, hi, rfl⟩)
  unfold pyNext
  refine wpAny_bind (wpAny_attempt (wpAny_callSpecial?_slot (name := Str.ofString "__next__") hT slot_ci_next
    (wpAny_call_entry slot_ci_next hT entry_ci_next ?_ (args_ci_next _))))
  unfold Builtin.«callable_iterator.__next__»
  refine wpAny_bind (m := slotArgs "__next__" 0 _) (wpAny_of_eq (a := (.ref fi, [])) rfl ?_)
  dsimp only
  refine wpAny_bind (wpAny_field hi rfl (x := .bool true) rfl ?_)
  rw [if_pos (by decide)]
  refine wpAny_bind (wpAny_rule ?_)
  refine wpAny_bind ?_
  exact ci_stop hh h

theorem ci_next {fi bm fn : Addr} {self oc : Value} {od : Option Addr} {fd : FuncData} {sl : Array (Option Value)} {te : Tok} {Q : Option Value → Shared → Prop} (hh : A.handled = none)
    (hi : s.heap.get? fi = some (ciObj (.ref bm) (.str (Str.ofString "") te) false)) (hb : s.heap.get? bm = some (methodObj (.ref fn) self)) (hf : s.heap.get? fn = some ⟨oc, od, .func fd, sl⟩)
    (h : codeAny (model prog w) A.in1 (.call (.ref bm) ⟨[], []⟩) (fun r s' => match r with | .ok (.ret v) => CiBack fi bm fn self oc od fd sl te Q v s' | .ok _ => False | .error _ => False) s) :
    wpAny (model prog w) A (pyNext (.ref fi)) Q E s := by
  have hT : s.TypeIs (.ref fi) "callable_iterator" := (show ∃ o, s.heap.get? fi = some o ∧ o.cls = .type "callable_iterator" from ⟨_, hi, rfl⟩)
  unfold pyNext
  refine wpAny_bind (wpAny_attempt (wpAny_callSpecial?_slot (name := Str.ofString "__next__") hT slot_ci_next
    (wpAny_call_entry slot_ci_next hT entry_ci_next ?_ (args_ci_next _))))
  unfold Builtin.«callable_iterator.__next__»
  refine wpAny_bind (m := slotArgs "__next__" 0 _) (wpAny_of_eq (a := (.ref fi, [])) rfl ?_)
  dsimp only
  refine wpAny_bind (wpAny_field hi rfl (x := .bool false) rfl ?_)
  rw [if_neg (by decide)]
  refine wpAny_bind (wpAny_field hi rfl (x := .ref bm) rfl ?_)
  have bw : ∀ {s : Shared} {B : Around} {E : Value → Shared → Prop} {Q : Bool → Shared → Prop}, s.heap.get? bm = some (methodObj (.ref fn) self) → s.heap.get? fn = some ⟨oc, od, .func fd, sl⟩ → Q true s → wpAny (model prog w) B (borrowsExactly (.ref bm)) Q E s := by
    intro s B E Q hb hf hq
    unfold borrowsExactly
    refine wpAny_bind (wpAny_load hb ?_)
    dsimp only
    rw [if_pos (by decide)]
    refine wpAny_bind (wpAny_load hf ?_)
    exact wpAny_pure hq
  refine wpAny_bind (wpAny_attempt ?_)
  unfold callOutOfASlot
  refine wpAny_bind (bw hb hf ?_)
  rw [if_pos rfl]
  refine borrowed_call (codeAny_mono h (fun r s' hr => ?_))
  cases r with
  | error e => exact hr.elim
  | ok fl => cases fl with
    | next => exact hr.elim
    | brk => exact hr.elim
    | cont => exact hr.elim
    | ret v =>
      obtain ⟨x, t, rfl, hi', hb', hf', q1, q2⟩ := hr
      dsimp only
      refine wpAny_bind (wpAny_field hi' rfl (x := .bool false) rfl ?_)
      rw [if_neg (by decide)]
      refine wpAny_bind (wpAny_field hi' rfl (x := .str (Str.ofString "") te) rfl ?_)
      refine wpAny_bind (wpAny_holding (wpAny_eqBool_str ?_))
      by_cases hx : x = Str.ofString ""
      · subst hx
        rw [if_neg (by simp)]
        refine wpAny_bind (wpAny_rule ?_)
        refine wpAny_bind ?_
        refine wpAny_bind (m := field (.ref fi) 0) (wpAny_field hi' rfl (x := .ref bm) rfl ?_)
        refine wpAny_bind ?_
        unfold slotLetsGo
        dsimp only
        refine wpAny_bind (bw hb' hf' ?_)
        rw [if_pos rfl]
        refine wpAny_pure ?_
        refine wpAny_bind (wpAny_setField hi' rfl (by simp) ?_)
        have e1 : (s'.heap.update fi (Obj.mapFields (·.setIfInBounds 0 .none))).get? fi = some (ciObj .none (.str (Str.ofString "") te) false) := by
          rw [Heap.get?_update_self _ hi' rfl]; rfl
        refine wpAny_bind (wpAny_setField e1 rfl (by simp) ?_)
        have e2 : ((s'.heap.update fi (Obj.mapFields (·.setIfInBounds 0 .none))).update fi (Obj.mapFields (·.setIfInBounds 1 .none))).get? fi = some (ciObj .none .none false) := by
          rw [Heap.get?_update_self _ e1 rfl]; rfl
        refine wpAny_setField e2 rfl (by simp) ?_
        have e3 : (((s'.heap.update fi (Obj.mapFields (·.setIfInBounds 0 .none))).update fi (Obj.mapFields (·.setIfInBounds 1 .none))).update fi (Obj.mapFields (·.setIfInBounds 2 (.bool true)))).get? fi = some (ciObj .none .none true) := by
          rw [Heap.get?_update_self _ e2 rfl]; rfl
        refine ci_stop hh ?_
        intro h' ext
        refine (q2 rfl _ (ext _ _ e3) fun b o hb ho => ext _ _ ?_)
        rw [Heap.get?_update_other _ _ (Ne.symm hb), Heap.get?_update_other _ _ (Ne.symm hb), Heap.get?_update_other _ _ (Ne.symm hb)]
        exact ho
      · rw [if_pos (by simp [Ne.symm hx])]
        exact wpAny_pure ⟨_, rfl, wpAny_pure (q1 hx)⟩
end

theorem args_iter2 (a b : Value) : argsOk "iter" ⟨[a, b], []⟩ := by unfold argsOk; kernel_rfl
theorem lookup_method_call : ∃ r, typeLookup (.type "method") (Str.ofString "__call__") = pure (some r) := ⟨.builtin "method.__call__", by rw [typeLookup_type, builtinLookup_eq_fast]; kernel_rfl⟩
section
variable {w : World} {A : Around} {E : Value → Shared → Prop} {s : Shared} {h₀ : Heap} {L : Addr} {m : Str → Option Value} {news : List (Addr × Obj)}
theorem iter2 {bm : Addr} {f self se : Value} {Q : Value → Shared → Prop} (F : Fr h₀ L s.heap m) (N : News h₀ L s.heap news) (hm : (bm, methodObj f self) ∈ news)
    (h : ∀ fi h', Fr h₀ L h' m → News h₀ L h' ((fi, ciObj (.ref bm) se false) :: news) → (∀ p ∈ news, p.1 < fi) → Q (.ref fi) { s with heap := h' }) :
    wpAny (model prog w) A (call (.builtin "iter") [.ref bm, se]) Q E s := by
  refine call_function_entry (by decide +kernel) (by decide +kernel) kdk_entry_iter (args_iter2 _ _) ?_
  unfold Builtin.«iter»
  refine wpAny_bind (m := someArgs "iter" 1 2 _) (wpAny_of_eq (a := [Value.ref bm, se]) (by first | rfl | kernel_rfl!) ?_)
  obtain ⟨r, hr⟩ := lookup_method_call
  have hT : s.TypeIs (.ref bm) "method" := (show ∃ o, s.heap.get? bm = some o ∧ o.cls = .type "method" from ⟨_, (N _ hm).1, rfl⟩)
  refine wpAny_bind (wpAny_specialOf hT hr ?_)
  rw [if_neg (by simp)]
  refine wpAny_bind (wpAny_rule ?_)
  refine wpAny_bind ?_
  unfold newFields
  refine wpAny_newObj_type ?_ (by size_fits)
  exact wpAny_pure ⟨_, rfl, h _ _ (F.push _) (News.push F N _ rfl) (fun q hq => Heap.lt_size (N q hq).1)⟩
end
end Mine
end
section
open PySem.Calls Mine
local macro_rules | `(tactic| k_room) => `(tactic| ((try simp only [depth_under_make, depth_under_kw, depth_in1, depth_deeper, depth_caller]); ktr_room))
local macro_rules | `(tactic| k_units) => `(tactic| ((try simp only [units_in1, units_deeper, Around.mark_units, units_caller]); ktr_room))
local macro_rules | `(tactic| walk_at "call builtin:list.append") => `(tactic| (k_here; k_dflt (refine' appendL ?F ?N ?U ?z ?_; (case F => k_asm); (case N => k_asm); (case U => k_upd); (case z => first | ktr_room | (simp only [List.length_append, List.length_cons, List.length_nil]; ktr_room))); intro h' F' N'))
local macro_rules | `(tactic| walk_at "call builtin:list.pop") => `(tactic| (k_here; k_dflt (refine' pop0 ?F ?N ?U ?z ?_; (case F => k_asm); (case N => k_asm); (case U => k_upd); (case z => ktr_room)); intro h' F' N'))
local macro_rules | `(tactic| walk_at "call builtin:len") => `(tactic| (k_here; k_dflt (refine' lenL ?N ?m ?z ?_; (case N => k_asm); (case m => k_mem); (case z => ktr_room))))
local macro_rules | `(tactic| walk_at "compareOp In int ref") => `(tactic| (k_here; refine hold ?_))
local macro_rules | `(tactic| walk_at "call ref") => `(tactic| (k_here; (first | (k_dflt show wpAny _ _ (call (Value.ref 42) [Value.ref (RC.x2 _)]) _ _ _) | (with_reducible show wpAny _ _ (call (Value.ref 35) _) _ _ _) | (with_reducible show wpAny _ _ (call (Value.ref 52) _) _ _ _) | (with_reducible show wpAny _ _ (call (Value.ref 134) _) _ _ _) | (with_reducible show wpAny _ _ (call (Value.ref 115) _) _ _ _)); refine hold ?_))
local macro_rules | `(tactic| walk_at "truthy ref") => `(tactic| (k_here; k_dflt (first | (refine' truthy_cons ?N ?m ?z ?_; (case N => k_asm); (case m => k_mem); (case z => ktr_room)) | (refine' truthy_nil ?N ?m ?_; (case N => k_asm); (case m => k_mem)))))
section
open PySem.Calls Mine
local macro_rules | `(tactic| walk_at "exec For Name Name cons nil") => `(tactic| (refine wpAny_For ?_))
section
open PySem PySem.W PyProof.Rows PySem.Calls
namespace Mine
theorem offRead68 : True := by
  w_top off
  trivial
set_option maxRecDepth 100000
set_option maxHeartbeats 8000000
theorem fill1 : PySem.Challenge.rw_pk0068_01 = PySem.Challenge.rw_pk0068_01 ∧ hd.heap_39 = hd.heap_39 := by
  k_fill
  exact ⟨rfl, rfl⟩

noncomputable abbrev key (w : World) (x : String) (t : Tok) (v : Value) : DictEntry := { hash := PyData.keyHash w.params (Str.ofString x), key := .str (Str.ofString x) t, val := v }
noncomputable abbrev RC.led (r : RC) (w : World) (vs : List Value) (ep : Nat) (ln : Int) (t1 : Tok) (rest : List (Addr × Obj)) : List (Addr × Obj) :=
  (r.sg, listOf vs.toArray ep) :: (r.d2, dictOf [key w "lineno" r.t0 (.int ln t1), key w "instream" r.t2 (.ref r.x1), key w "whitespace" r.t3 (.str (Str.ofString "\n\t\x0d ") r.t4), key w "pushback" r.t5 (.ref r.prb)] 4) ::
      (r.x2, instObj 52 r.d2) :: (r.prb, listOf #[] 0) :: (r.x1, instObj 52 r.d1) ::
      (r.d1, dictOf [key w "lineno" r.t6 (.int 1 r.t7), key w "instream" r.t8 .none, key w "whitespace" r.t9 (.str (Str.ofString "\n\t\x0d ") r.t10), key w "pushback" r.t11 (.ref r.tpb), key w "read" r.t12 (.ref r.f)] 5) ::
      (r.f, kla_obj (Str.ofString "<lambda>") r.qual lamArgs lamBody lamScope [(Str.ofString "signs", r.cS)] r.pm r.c r.ctv) :: (r.c, r.oc) :: (r.cS, r.oS) :: rest
structure RC.Ok (r : RC) : Prop where
  code : ∃ vsC tq, r.oc.data = .fields vsC ∧ vsC[1]? = some (.str r.qual tq)
  cell : r.oS.data = .cell (some (.ref r.sg))
  o0 : @LT.lt Nat _ r.cS r.sg
  o1 : @LT.lt Nat _ r.sg r.d1
  o2 : @LT.lt Nat _ r.d1 r.x1
  o3 : @LT.lt Nat _ r.x1 r.c
  o4 : @LT.lt Nat _ r.c r.f
  o5 : @LT.lt Nat _ r.f r.d2
  o6 : @LT.lt Nat _ r.d2 r.x2
  o7 : @LT.lt Nat _ r.x2 r.prb

section
variable {w : World} {dp un : Nat} {gd : Option (List Code)} {cn : Str} {cs : Scope} {a : Addr} {ccd : Value} {cl : List (Str × Addr)} {outer : List Env} {A₀ : Around} {base h₀ : Heap} {L : Addr} {m : Str → Option Value}  {s : Shared} {p : Program} {loose : List Str} {mean : ExcName → Option Value} {mg mb : Str → Option Value} {R : Result → Shared → Prop}

theorem read_cons {r : RC} {vs : List Value} {ep : Nat} {ln : Int} {t1 tc : Tok} {c : Nat} {rest : List (Addr × Obj)}
   (B : Below A₀ base outer h₀) (F : Fr h₀ L s.heap m) (X : (hd.heap_39 w.params).In h₀) (T : Top p loose mean mg mb h₀) (hk : cs.kind = .function) (hdp : dp + 20 < recursionLimit) (hun : un + 100 < cLine)
   (codeHd : CodeHd base 138 136) (ok : r.Ok)
   (N : News h₀ L s.heap (r.led w (Value.str ⟨#[c]⟩ tc :: vs) ep ln t1 rest)) (hz : vs.length ≤ 100000)
   (r1 : ∀ p ∈ rest, p.1 ≠ r.sg) (r2 : ∀ p ∈ rest, p.1 ≠ r.d2)
   (ret : ∀ h' tk' t1', Fr h₀ L h' m → News h₀ L h' (r.led w vs (ep + 1) (ln + if c = 10 then 1 else 0) t1' rest) → R (.ok (.ret (.str ⟨#[c]⟩ tc))) { s with heap := h', toks := tk' }) :
   codeAny (model prog w) (ktrTop dp un gd cn cs L a ccd cl outer) (.call (.ref 35) ⟨[.ref r.x2], []⟩) R s := by
  obtain ⟨⟨vsC, tq, hoc, hvc⟩, hoS, o0, o1, o2, o3, o4, o5, o6, o7⟩ := ok
  obtain ⟨sg, d2, x2, prb, x1, d1, f, c', cS, tpb, oc, oS, qual, pm, ctv, t0, t2, t3, t4, t5, t6, t7, t8, t9, t10, t11, t12⟩ := r
  dsimp only [RC.led] at *
  conv at N in (occs := *) lamArgs => whnf
  conv at N in (occs := *) lamBody => whnf
  conv at N in (occs := *) lamScope => whnf
  k_dflt ktr_enter
  k_steps
  · rename ((_ : Str) == _) = true => hc
    rename News h₀ L _ _ => kN
    rename Fr h₀ L _ _ => kF
    have e : c = 10 := by
      have := eq_of_beq hc
      have h2 : (⟨#[c]⟩ : Str).cps = #[10] := by rw [this]; decide
      simpa using h2
    subst e
    exact ret _ _ _ kF kN
  · rename ((_ : Str) == _) = false => hc
    rename News h₀ L _ _ => kN
    rename Fr h₀ L _ _ => kF
    have e : c ≠ 10 := by
      intro e; subst e
      exact absurd hc (by decide)
    refine ret _ _ t1 kF ?_
    rw [if_neg e, Int.add_zero]
    exact kN

theorem read_nil {r : RC} {ep : Nat} {ln : Int} {t1 : Tok} {rest : List (Addr × Obj)}
   (B : Below A₀ base outer h₀) (F : Fr h₀ L s.heap m) (X : (hd.heap_39 w.params).In h₀) (T : Top p loose mean mg mb h₀) (hk : cs.kind = .function) (hdp : dp + 20 < recursionLimit) (hun : un + 100 < cLine)
   (codeHd : CodeHd base 138 136) (ok : r.Ok)
   (N : News h₀ L s.heap (r.led w [] ep ln t1 rest))
   (r1 : ∀ p ∈ rest, p.1 ≠ r.sg) (r2 : ∀ p ∈ rest, p.1 ≠ r.d2)
   (ret : ∀ h' tk' te, Fr h₀ L h' m → News h₀ L h' (r.led w [] ep ln t1 rest) → R (.ok (.ret (.str (Str.ofString "") te))) { s with heap := h', toks := tk' }) :
   codeAny (model prog w) (ktrTop dp un gd cn cs L a ccd cl outer) (.call (.ref 35) ⟨[.ref r.x2], []⟩) R s := by
  obtain ⟨⟨vsC, tq, hoc, hvc⟩, hoS, o0, o1, o2, o3, o4, o5, o6, o7⟩ := ok
  obtain ⟨sg, d2, x2, prb, x1, d1, f, c', cS, tpb, oc, oS, qual, pm, ctv, t0, t2, t3, t4, t5, t6, t7, t8, t9, t10, t11, t12⟩ := r
  dsimp only [RC.led] at *
  conv at N in (occs := *) lamArgs => whnf
  conv at N in (occs := *) lamBody => whnf
  conv at N in (occs := *) lamScope => whnf
  k_dflt ktr_enter
  k_steps
  all_goals exact ret _ _ _ (by assumption) (by assumption)
/-- the next sign, or none: one way on for both -/
theorem read_any {r : RC} {vs : List Value} {chs : List Nat} {ep : Nat} {ln : Int} {t1 : Tok} {rest : List (Addr × Obj)}
   (B : Below A₀ base outer h₀) (F : Fr h₀ L s.heap m) (X : (hd.heap_39 w.params).In h₀) (T : Top p loose mean mg mb h₀) (hk : cs.kind = .function) (hdp : dp + 20 < recursionLimit) (hun : un + 100 < cLine)
   (codeHd : CodeHd base 138 136) (ok : r.Ok)
   (N : News h₀ L s.heap (r.led w vs ep ln t1 rest)) (hC : Chars vs chs) (hz : chs.length ≤ 100000)
   (r1 : ∀ p ∈ rest, p.1 ≠ r.sg) (r2 : ∀ p ∈ rest, p.1 ≠ r.d2)
   (ret : ∀ h' tk' t1' y ty vs' ep' ln', Fr h₀ L h' m → y.cps.toList = chs.take 1 → Chars vs' (chs.drop 1) → ln' + ((chs.drop 1).count 10 : Int) = ln + (chs.count 10 : Int) → News h₀ L h' (r.led w vs' ep' ln' t1' rest) → R (.ok (.ret (.str y ty))) { s with heap := h', toks := tk' }) :
   codeAny (model prog w) (ktrTop dp un gd cn cs L a ccd cl outer) (.call (.ref 35) ⟨[.ref r.x2], []⟩) R s := by
  cases hC with
  | nil => exact read_nil B F X T hk hdp hun codeHd ok N r1 r2 fun h' tk' te F' N' => ret _ _ _ _ _ _ _ _ F' (by decide) .nil rfl N'
  | @cons vs cs c tc hC =>
    have hl := hC.length
    simp only [List.length_cons] at hz
    refine read_cons B F X T hk hdp hun codeHd ok N (by lia) r1 r2 fun h' tk' t1' F' N' => ret _ _ _ _ _ _ _ _ F' rfl hC ?_ N'
    show _ + ((cs.count 10 : Nat) : Int) = _
    rw [List.count_cons]
    by_cases e : c = 10
    · subst e; simp; lia
    · simp [e]
end
end Mine
end
section
open PySem PySem.W PyProof.Rows PySem.Calls
namespace Mine
set_option maxRecDepth 100000
set_option maxHeartbeats 8000000
set_option linter.unusedVariables false
set_option pp.deepTerms.threshold 8

section
variable {w : World} {dp un : Nat} {gd : Option (List Code)} {cn : Str} {cs : Scope} {a : Addr} {ccd : Value} {cl : List (Str × Addr)} {outer : List Env} {A₀ : Around} {base h₀ : Heap} {L : Addr} {m : Str → Option Value}  {s : Shared} {p : Program} {loose : List Str} {mean : ExcName → Option Value} {mg mb : Str → Option Value} {R : Result → Shared → Prop} {Q : Option Value → Shared → Prop} {E : Value → Shared → Prop}

theorem change_head {h h' : Heap} {fi : Addr} {o o' : Obj} {pre post : List (Addr × Obj)} (F : Fr h₀ L h m) (N : News h₀ L h (pre ++ (fi, o) :: post)) (hp : ∀ p ∈ pre ++ post, p.1 ≠ fi)
    (h1 : h'.get? fi = some o') (h2 : ∀ b x, b ≠ fi → h.get? b = some x → h'.get? b = some x) : Fr h₀ L h' m ∧ News h₀ L h' (pre ++ (fi, o') :: post) := by
  have D := N (fi, o) (by simp)
  obtain ⟨oL, es, ep, hL, r⟩ := F.ns
  refine ⟨⟨⟨oL, es, ep, h2 _ _ (Ne.symm D.2.1) hL, r⟩, fun b x q => h2 _ _ (fun z => ?_) (F.keep b x q), F.above⟩, fun q hq => ?_⟩
  · have := D.2.2; rw [← z, q] at this; cases this
  · rcases List.mem_append.mp hq with z | z
    · exact ⟨h2 _ _ (hp q (List.mem_append_left _ z)) (N q (List.mem_append_left _ z)).1, (N q (List.mem_append_left _ z)).2⟩
    · rcases List.mem_cons.mp z with rfl | z
      · exact ⟨h1, D.2⟩
      · have := N q (List.mem_append_right _ (List.mem_cons_of_mem _ z))
        exact ⟨h2 _ _ (hp q (List.mem_append_right _ z)) this.1, this.2⟩

theorem fn35 (X : (hd.heap_39 w.params).In h₀) : ∃ oc od fd sl, ∀ {h : Heap}, (∀ b o, h₀.get? b = some o → h.get? b = some o) → h.get? 35 = some ⟨oc, od, .func fd, sl⟩ := by
  have e := X 35 _ (by k_is)
  exact ⟨_, _, _, _, fun k => k _ _ e⟩

noncomputable abbrev runs (r : RC) (fi bm : Addr) (te : Tok) (rest : List (Addr × Obj)) : List (Addr × Obj) := (fi, ciObj (.ref bm) (.str (Str.ofString "") te) false) :: (bm, methodObj (.ref 35) (.ref r.x2)) :: rest
noncomputable abbrev ended (r : RC) (fi bm : Addr) (rest : List (Addr × Obj)) : List (Addr × Obj) := (fi, ciObj .none .none true) :: (bm, methodObj (.ref 35) (.ref r.x2)) :: rest

theorem next_cons {r : RC} {vs : List Value} {ep : Nat} {ln : Int} {t1 tc te : Tok} {c : Nat} {fi bm : Addr} {rest : List (Addr × Obj)}
   (B : Below A₀ base outer h₀) (F : Fr h₀ L s.heap m) (X : (hd.heap_39 w.params).In h₀) (T : Top p loose mean mg mb h₀) (hk : cs.kind = .function) (hdp : dp + 20 < recursionLimit) (hun : un + 110 < cLine)
   (codeHd : CodeHd base 138 136) (ok : r.Ok)
   (N : News h₀ L s.heap (r.led w (Value.str ⟨#[c]⟩ tc :: vs) ep ln t1 (runs r fi bm te rest))) (hz : vs.length ≤ 100000)
   (r1 : ∀ p ∈ runs r fi bm te rest, p.1 ≠ r.sg) (r2 : ∀ p ∈ runs r fi bm te rest, p.1 ≠ r.d2)
   (h : ∀ h' tk' t1', Fr h₀ L h' m → News h₀ L h' (r.led w vs (ep + 1) (ln + if c = 10 then 1 else 0) t1' (runs r fi bm te rest)) → Q (some (.str ⟨#[c]⟩ tc)) { s with heap := h', toks := tk' }) :
   wpAny (model prog w) (ktrTop dp un gd cn cs L a ccd cl outer) (pyNext (.ref fi)) Q E s := by
  obtain ⟨oc, od, fd, sl, hf⟩ := fn35 X
  have m1 : ∀ {vs ep ln t1}, (fi, ciObj (.ref bm) (.str (Str.ofString "") te) false) ∈ r.led w vs ep ln t1 (runs r fi bm te rest) := by intros; simp [RC.led, runs]
  have m2 : ∀ {vs ep ln t1}, (bm, methodObj (.ref 35) (.ref r.x2)) ∈ r.led w vs ep ln t1 (runs r fi bm te rest) := by intros; simp [RC.led, runs]
  refine ci_next rfl (N _ m1).1 (N _ m2).1 (hf F.keep) (method_call (N _ m2).1 ?_)
  refine read_cons (dp := dp) (un := un + 1) B F X T hk (by ktr_room) (by ktr_room) codeHd ok N hz r1 r2 ?_
  intro h' tk' t1' F' N'
  refine ⟨_, _, rfl, (N' _ m1).1, (N' _ m2).1, hf F'.keep, fun _ => h _ _ _ F' N', fun e => absurd e ?_⟩
  intro e
  have q : 1 = (Str.ofString "").cps.size := congrArg (fun x : Str => x.cps.size) e
  exact absurd q (by decide)

theorem next_nil {r : RC} {ep : Nat} {ln : Int} {t1 te : Tok} {fi bm : Addr} {rest : List (Addr × Obj)}
   (B : Below A₀ base outer h₀) (F : Fr h₀ L s.heap m) (X : (hd.heap_39 w.params).In h₀) (T : Top p loose mean mg mb h₀) (hk : cs.kind = .function) (hdp : dp + 20 < recursionLimit) (hun : un + 110 < cLine)
   (codeHd : CodeHd base 138 136) (ok : r.Ok)
   (N : News h₀ L s.heap (r.led w [] ep ln t1 (runs r fi bm te rest)))
   (r1 : ∀ p ∈ runs r fi bm te rest, p.1 ≠ r.sg) (r2 : ∀ p ∈ runs r fi bm te rest, p.1 ≠ r.d2) (r3 : ∀ p ∈ r.led w [] ep ln t1 ((bm, methodObj (.ref 35) (.ref r.x2)) :: rest), p.1 ≠ fi)
   (h : ∀ h' tk', Fr h₀ L h' m → News h₀ L h' (r.led w [] ep ln t1 (ended r fi bm rest)) → Q none { s with heap := h', toks := tk' }) :
   wpAny (model prog w) (ktrTop dp un gd cn cs L a ccd cl outer) (pyNext (.ref fi)) Q E s := by
  obtain ⟨oc, od, fd, sl, hf⟩ := fn35 X
  have m1 : ∀ {vs ep ln t1}, (fi, ciObj (.ref bm) (.str (Str.ofString "") te) false) ∈ r.led w vs ep ln t1 (runs r fi bm te rest) := by intros; simp [RC.led, runs]
  have m2 : ∀ {vs ep ln t1}, (bm, methodObj (.ref 35) (.ref r.x2)) ∈ r.led w vs ep ln t1 (runs r fi bm te rest) := by intros; simp [RC.led, runs]
  refine ci_next rfl (N _ m1).1 (N _ m2).1 (hf F.keep) (method_call (N _ m2).1 ?_)
  refine read_nil (dp := dp) (un := un + 1) B F X T hk (by ktr_room) (by ktr_room) codeHd ok N r1 r2 ?_
  intro h' tk' te' F' N'
  refine ⟨_, _, rfl, (N' _ m1).1, (N' _ m2).1, hf F'.keep, fun e => absurd rfl e, fun _ h₂ e1 e2 => ?_⟩
  have z := change_head (pre := r.led w [] ep ln t1 []) (post := (bm, methodObj (.ref 35) (.ref r.x2)) :: rest) F' N' r3 e1 e2
  exact h _ _ z.1 z.2

theorem next_ended {fi : Addr} {news : List (Addr × Obj)}
   (F : Fr h₀ L s.heap m) (N : News h₀ L s.heap news) (hm : (fi, ciObj .none .none true) ∈ news)
   (h : ∀ h', Fr h₀ L h' m → News h₀ L h' news → Q none { s with heap := h' }) :
   wpAny (model prog w) (ktrTop dp un gd cn cs L a ccd cl outer) (pyNext (.ref fi)) Q E s :=
  ci_ended rfl (N _ hm).1 fun h' k => h h' (F.keeps k) (N.grown k)
end
end Mine
end
section
open PySem.Calls Mine
local macro_rules | `(tactic| walk_at "call builtin:iter") => `(tactic| (k_here; k_dflt (refine' iter2 ?F ?N ?m ?_; (case F => k_asm); (case N => k_asm); (case m => k_mem)); intro fi h' F' N' l1; (try k_lt l1)))
local macro_rules | `(tactic| walk_at "pyIter ref") => `(tactic| (k_here; k_dflt (refine ci_self (News.get (by k_asm) (by k_mem)) ?_)))
local macro_rules | `(tactic| walk_at "eval Name") => `(tactic| (k_here; k_dflt (refine' ld ?k1 ?k2 ?_; (case k1 => k_asm); (case k2 => assumption); k_whole)))
local macro_rules | `(tactic| walk_at "loadName") => `(tactic| (k_here; k_dflt (refine' ldn ?k1 ?k2 ?_; (case k1 => k_asm); (case k2 => assumption); k_whole)))
section
open PySem PySem.W PyProof.Rows PySem.Calls
namespace Mine
theorem offLoop68 : True := by
  w_top off
  trivial
set_option maxRecDepth 100000
set_option maxHeartbeats 8000000
set_option linter.unusedVariables false
set_option pp.deepTerms.threshold 8

section
variable {w : World} {dp un : Nat} {gd : Option (List Code)} {cn : Str} {cs : Scope} {a : Addr} {ccd : Value} {cl : List (Str × Addr)} {outer : List Env} {A₀ : Around} {base h₀ : Heap} {L : Addr} {m : Str → Option Value}  {s : Shared} {p : Program} {loose : List Str} {mean : ExcName → Option Value} {mg mb : Str → Option Value} {R : Result → Shared → Prop}

noncomputable def Again (I : Nat → Shared → Prop) (n : Nat) (s : Shared) : Prop := ∃ m, m < n ∧ I m s
theorem for_loop {A : Around} {target it body orelse env} (I : Nat → Shared → Prop)
    (turn : ∀ n s, I n s → wpAny (model prog w) A (pyNext it) (fun r s₁ => match r with
      | none => wpAny (model prog w) A (execs orelse env) (fun f s₃ => R (.ok f) s₃) (notedBy (model prog w) A env fun e s' => R (.error e) s') s₁
      | some v => wpAny (model prog w) A (assign target env v) (fun _ s₂ => wpAny (model prog w) A (execs body env) (fun f s₃ => match f with
          | .next | .cont => Again I n s₃
          | .brk => R (.ok .next) s₃
          | .ret v => R (.ok (.ret v)) s₃) (notedBy (model prog w) A env fun e s' => R (.error e) s') s₂) (notedBy (model prog w) A env fun e s' => R (.error e) s') s₁) (notedBy (model prog w) A env fun e s' => R (.error e) s') s)
    (n : Nat) (h : I n s) (ht : ∀ v, letOwnedTupleGo target it v = pure ()) : codeAny (model prog w) A (.forLoop target it body orelse env) R s :=
  codeAny_forLoop I turn n h ht

noncomputable def gtDef : Stmt := stAt (stBody (topAt 1)) 2
noncomputable def gtScope : Scope := stScope gtDef
noncomputable def gtFor : Stmt := stAt (stBody gtDef) 3
noncomputable def qFor : Stmt := stAt (stBody (stAt (stBody gtFor) 1)) 0
noncomputable def wFor : Stmt := stAt (stElse (stAt (stBody gtFor) 1)) 2
noncomputable def forTarget (f : Stmt) : Expr := stVal f
noncomputable def wTarget : Expr := forTarget wFor
noncomputable def wBody : List Stmt := stBody wFor
noncomputable def qTarget : Expr := forTarget qFor
noncomputable def qBody : List Stmt := stBody qFor

inductive InI (spec : List Nat → List Nat → List Nat × List Nat) (r : RC) (w : World) (s : Shared) (g : Heap) (L fi bm : Addr) (te : Tok) (rest : List (Addr × Obj)) (res : List Nat × List Nat) (kk : Int) : Nat → Shared → Prop
  | mk {h : Heap} {tk : Nat} {mm : Str → Option Value} {x : Str} {t : Tok} {cs : List Nat} {vs : List Value} {ep : Nat} {ln : Int} {t1 : Tok} :
    Fr g L h mm → mm (Str.ofString "self") = some (.ref r.x2) → mm (Str.ofString "fiter") = some (.ref fi) → mm (Str.ofString "token") = some (.str x t) → Chars vs cs → x.length + cs.length ≤ 50000 → ln + (cs.count 10 : Int) = kk → spec cs x.cps.toList = res →
    News g L h (r.led w vs ep ln t1 (runs r fi bm te rest)) → InI spec r w s g L fi bm te rest res kk cs.length { s with heap := h, toks := tk }

theorem app_list (y z : Str) : (y ++ z).cps.toList = y.cps.toList ++ z.cps.toList := by show (y.cps ++ z.cps).toList = _; simp
theorem app_nil (y : Str) : (y ++ Str.ofString "").cps.toList = y.cps.toList := by rw [app_list, show (Str.ofString "").cps.toList = [] by decide, List.append_nil]
theorem app_len (y z : Str) : (y ++ z).length = y.length + z.length := by show (y.cps ++ z.cps).size = _; simp [Str.length]
theorem ws_of {c : Nat} {b : Bool} (h : (Builtin.Str.occurrences (Str.ofString "\n\t\x0d ") ⟨#[c]⟩ 0 (Str.ofString "\n\t\x0d ").length 1).isEmpty = b) : isWs c = !b := by
  rw [empty_one] at h
  rw [← h, Bool.not_not]
  unfold isWs
  rw [show (Str.ofString "\n\t\x0d ").cps.toList = [10, 9, 13, 32] by decide]
theorem is_of {c k : Nat} {z : Str} (hz : z.cps = #[k]) (h : ((⟨#[c]⟩ : Str) == z) = true) : c = k := by
  have := eq_of_beq h
  rw [← this] at hz
  simpa using hz
theorem not_of {c k : Nat} {z : Str} (hz : z.cps = #[k]) (h : ((⟨#[c]⟩ : Str) == z) = false) : c ≠ k := by
  intro e
  subst e
  obtain ⟨zc⟩ := z
  dsimp only at hz
  subst hz
  simp at h
theorem count_step {c : Nat} {ln kk : Int} {cs : List Nat} (h : ln + ((c :: cs).count 10 : Int) = kk) : (ln + if c = 10 then 1 else 0) + (cs.count 10 : Int) = kk := by
  rw [List.count_cons] at h
  by_cases e : c = 10
  · subst e; simp at h ⊢; ktr_room
  · simp [e] at h ⊢; ktr_room

theorem word_loop {r : RC} {chs : List Nat} {vs : List Value} {ep : Nat} {ln : Int} {t1 te tx : Tok} {x : Str} {fi bm : Addr} {rest : List (Addr × Obj)}
   (B : Below A₀ base outer h₀) (F : Fr h₀ L s.heap m) (X : (hd.heap_39 w.params).In h₀) (T : Top p loose mean mg mb h₀) (hdp : dp + 25 < recursionLimit) (hun : un + 115 < cLine)
   (codeHd : CodeHd base 138 136) (ok : r.Ok)
   (N : News h₀ L s.heap (r.led w vs ep ln t1 (runs r fi bm te rest))) (hz : x.length + chs.length ≤ 50000) (hch : Chars vs chs)
   (q1 : ∀ p ∈ runs r fi bm te rest, p.1 ≠ r.sg) (q2 : ∀ p ∈ runs r fi bm te rest, p.1 ≠ r.d2) (q3 : ∀ {ep ln t1}, ∀ p ∈ r.led w [] ep ln t1 ((bm, methodObj (.ref 35) (.ref r.x2)) :: rest), p.1 ≠ fi)
   (hself : m (Str.ofString "self") = some (.ref r.x2)) (hfit : m (Str.ofString "fiter") = some (.ref fi)) (htok : m (Str.ofString "token") = some (.str x tx))
   (ret : ∀ x' tx' h' tk' vs' ep' ln' t1' m', Fr h₀ L h' m' → x'.cps.toList = (wordL chs x.cps.toList).1 → Chars vs' (wordL chs x.cps.toList).2 → ln' + ((wordL chs x.cps.toList).2.count 10 : Int) = ln + (chs.count 10 : Int) →
     News h₀ L h' (r.led w vs' ep' ln' t1' (runs r fi bm te rest)) → R (.ok (.ret (.str x' tx'))) { s with heap := h', toks := tk' })
   (nxt : ∀ x' tx' h' tk' ep' t1' m', Fr h₀ L h' m' → m' (Str.ofString "self") = some (.ref r.x2) → m' (Str.ofString "fiter") = some (.ref fi) → m' (Str.ofString "token") = some (.str x' tx') →
     wordL chs x.cps.toList = (x'.cps.toList, []) → News h₀ L h' (r.led w [] ep' (ln + (chs.count 10 : Int)) t1' (ended r fi bm rest)) → R (.ok .next) { s with heap := h', toks := tk' }) :
   codeAny (model prog w) (ktrTop dp un gd (Str.ofString "_netrclex.get_token") gtScope L 42 (.ref 41) [] outer) (.forLoop wTarget (.ref fi) wBody [] (envOf (Str.ofString "_netrclex.get_token") gtScope L 42 (.ref 41))) R s := by
  conv in (occs := *) gtScope => all_goals whnf
  conv in wBody => whnf
  conv in wTarget => whnf
  refine for_loop (InI wordL r w s h₀ L fi bm te rest (wordL chs x.cps.toList) (ln + (chs.count 10 : Int))) ?_ chs.length (.mk F hself hfit htok hch hz rfl rfl N) (by intro _; rfl)
  clear F N hself hfit htok
  rintro n s' @⟨h, tk, mm, y, ty, cs', vs', ep', ln', t1', Fm, hself, hfit, htok, hC, hlen, hcnt, hres, Nm⟩
  cases hC with
  | nil =>
    refine next_nil B Fm X T rfl (by ktr_room) (by ktr_room) codeHd ok Nm q1 q2 q3 ?_
    intro h' tk' F' N'
    dsimp only
    k_steps
    refine nxt y ty _ _ ep' t1' mm F' hself hfit htok hres.symm ?_
    rw [← hcnt]
    simpa using N'
  | @cons vs'' cs'' c tc hC =>
    have hcnt' := count_step hcnt
    rw [wordL_cons'] at hres
    have hvl := hC.length
    simp only [List.length_cons] at hlen
    refine next_cons B Fm X T rfl (by ktr_room) (by ktr_room) codeHd ok Nm (by ktr_room) q1 q2 ?_
    intro h' tk' t1' F' N'
    dsimp only
    refine wpAny_assign_Name ?_
    k_steps
    · rename (Builtin.Str.occurrences _ _ _ _ _).isEmpty = _ => hws
      rename ((_ : Str) == Str.ofString "\\") = _ => hbs
      rw [ws_of hws, if_neg (by decide), if_pos (is_of (by decide) hbs)] at hres
      unfold Hold
      refine wpAny_call ?_
      k_dflt (refine' read_any (by k_asm) (by k_asm) (by k_asm) (by k_asm) rfl ?d9 ?u9 (by assumption) (by assumption) (by k_asm) hC ?z9 (by assumption) (by assumption) ?_; (case d9 => ktr_room); (case u9 => ktr_room); (case z9 => ktr_room))
      intro h' tk' t1' z tz vs3 ep3 ln3 F' hz1 hC3 hcnt3 N'
      have hzl : z.length + (cs''.drop 1).length = cs''.length := by rw [show z.length = z.cps.toList.length by simp [Str.length], hz1, ← List.length_append, List.take_append_drop]
      (try dsimp only)
      k_steps
      rename Fr h₀ L _ _ => FF
      rename News h₀ L _ _ => NN
      exact ⟨(cs''.drop 1).length, by simp only [List.length_drop, List.length_cons]; ktr_room, .mk FF hself hfit rfl hC3 (by rw [app_len]; ktr_room) (hcnt3.trans hcnt') (by rw [app_list, hz1]; exact hres) NN⟩
    · rename (Builtin.Str.occurrences _ _ _ _ _).isEmpty = _ => hws
      rename ((_ : Str) == Str.ofString "\\") = _ => hbs
      rename Fr h₀ L _ _ => FF
      rename News h₀ L _ _ => NN
      rw [ws_of hws, if_neg (by decide), if_neg (not_of (by decide) hbs)] at hres
      exact ⟨cs''.length, by simp only [List.length_cons]; ktr_room, .mk FF hself hfit rfl hC (by rw [app_len]; simp [Str.length]; simp [Str.length] at hlen; ktr_room) (hcnt') (by rw [app_list]; exact hres) NN⟩
    · rename (Builtin.Str.occurrences _ _ _ _ _).isEmpty = _ => hws
      rename Fr h₀ L _ _ => FF
      rename News h₀ L _ _ => NN
      rw [ws_of hws, if_pos (by decide)] at hres
      exact ret y ty _ _ _ _ _ _ _ FF (by rw [← hres]) (by rw [← hres]; exact hC) (by rw [← hres]; exact hcnt') NN
theorem quote_loop {r : RC} {chs : List Nat} {vs : List Value} {ep : Nat} {ln : Int} {t1 te tx : Tok} {x : Str} {fi bm : Addr} {rest : List (Addr × Obj)}
   (B : Below A₀ base outer h₀) (F : Fr h₀ L s.heap m) (X : (hd.heap_39 w.params).In h₀) (T : Top p loose mean mg mb h₀) (hdp : dp + 25 < recursionLimit) (hun : un + 115 < cLine)
   (codeHd : CodeHd base 138 136) (ok : r.Ok)
   (N : News h₀ L s.heap (r.led w vs ep ln t1 (runs r fi bm te rest))) (hz : x.length + chs.length ≤ 50000) (hch : Chars vs chs)
   (q1 : ∀ p ∈ runs r fi bm te rest, p.1 ≠ r.sg) (q2 : ∀ p ∈ runs r fi bm te rest, p.1 ≠ r.d2) (q3 : ∀ {ep ln t1}, ∀ p ∈ r.led w [] ep ln t1 ((bm, methodObj (.ref 35) (.ref r.x2)) :: rest), p.1 ≠ fi)
   (hself : m (Str.ofString "self") = some (.ref r.x2)) (hfit : m (Str.ofString "fiter") = some (.ref fi)) (htok : m (Str.ofString "token") = some (.str x tx))
   (ret : ∀ x' tx' h' tk' vs' ep' ln' t1' m', Fr h₀ L h' m' → x'.cps.toList = (quoteL chs x.cps.toList).1 → Chars vs' (quoteL chs x.cps.toList).2 → ln' + ((quoteL chs x.cps.toList).2.count 10 : Int) = ln + (chs.count 10 : Int) →
     News h₀ L h' (r.led w vs' ep' ln' t1' (runs r fi bm te rest)) → R (.ok (.ret (.str x' tx'))) { s with heap := h', toks := tk' })
   (nxt : ∀ x' tx' h' tk' ep' t1' m', Fr h₀ L h' m' → m' (Str.ofString "self") = some (.ref r.x2) → m' (Str.ofString "fiter") = some (.ref fi) → m' (Str.ofString "token") = some (.str x' tx') →
     quoteL chs x.cps.toList = (x'.cps.toList, []) → News h₀ L h' (r.led w [] ep' (ln + (chs.count 10 : Int)) t1' (ended r fi bm rest)) → R (.ok .next) { s with heap := h', toks := tk' }) :
   codeAny (model prog w) (ktrTop dp un gd (Str.ofString "_netrclex.get_token") gtScope L 42 (.ref 41) [] outer) (.forLoop qTarget (.ref fi) qBody [] (envOf (Str.ofString "_netrclex.get_token") gtScope L 42 (.ref 41))) R s := by
  conv in (occs := *) gtScope => all_goals whnf
  conv in qBody => whnf
  conv in qTarget => whnf
  refine for_loop (InI quoteL r w s h₀ L fi bm te rest (quoteL chs x.cps.toList) (ln + (chs.count 10 : Int))) ?_ chs.length (.mk F hself hfit htok hch hz rfl rfl N) (by intro _; rfl)
  clear F N hself hfit htok
  rintro n s' @⟨h, tk, mm, y, ty, cs', vs', ep', ln', t1', Fm, hself, hfit, htok, hC, hlen, hcnt, hres, Nm⟩
  cases hC with
  | nil =>
    refine next_nil B Fm X T rfl (by ktr_room) (by ktr_room) codeHd ok Nm q1 q2 q3 ?_
    intro h' tk' F' N'
    dsimp only
    k_steps
    refine nxt y ty _ _ ep' t1' mm F' hself hfit htok hres.symm ?_
    rw [← hcnt]
    simpa using N'
  | @cons vs'' cs'' c tc hC =>
    have hcnt' := count_step hcnt
    rw [quoteL_cons'] at hres
    have hvl := hC.length
    simp only [List.length_cons] at hlen
    refine next_cons B Fm X T rfl (by ktr_room) (by ktr_room) codeHd ok Nm (by ktr_room) q1 q2 ?_
    intro h' tk' t1' F' N'
    dsimp only
    refine wpAny_assign_Name ?_
    k_steps
    · rename ((_ : Str) == Str.ofString "\"") = _ => hws
      rename Fr h₀ L _ _ => FF
      rename News h₀ L _ _ => NN
      rw [if_pos (is_of (by decide) hws)] at hres
      exact ret y ty _ _ _ _ _ _ _ FF (by rw [← hres]) (by rw [← hres]; exact hC) (by rw [← hres]; exact hcnt') NN
    · rename ((_ : Str) == Str.ofString "\"") = _ => hws
      rename ((_ : Str) == Str.ofString "\\") = _ => hbs
      rw [if_neg (not_of (by decide) hws), if_pos (is_of (by decide) hbs)] at hres
      unfold Hold
      refine wpAny_call ?_
      k_dflt (refine' read_any (by k_asm) (by k_asm) (by k_asm) (by k_asm) rfl ?d9 ?u9 (by assumption) (by assumption) (by k_asm) hC ?z9 (by assumption) (by assumption) ?_; (case d9 => ktr_room); (case u9 => ktr_room); (case z9 => ktr_room))
      intro h' tk' t1' z tz vs3 ep3 ln3 F' hz1 hC3 hcnt3 N'
      have hzl : z.length + (cs''.drop 1).length = cs''.length := by rw [show z.length = z.cps.toList.length by simp [Str.length], hz1, ← List.length_append, List.take_append_drop]
      (try dsimp only)
      k_steps
      rename Fr h₀ L _ _ => FF
      rename News h₀ L _ _ => NN
      exact ⟨(cs''.drop 1).length, by simp only [List.length_drop, List.length_cons]; ktr_room, .mk FF hself hfit rfl hC3 (by rw [app_len]; ktr_room) (hcnt3.trans hcnt') (by rw [app_list, hz1]; exact hres) NN⟩
    · rename ((_ : Str) == Str.ofString "\"") = _ => hws
      rename ((_ : Str) == Str.ofString "\\") = _ => hbs
      rename Fr h₀ L _ _ => FF
      rename News h₀ L _ _ => NN
      rw [if_neg (not_of (by decide) hws), if_neg (not_of (by decide) hbs)] at hres
      exact ⟨cs''.length, by simp only [List.length_cons]; ktr_room, .mk FF hself hfit rfl hC (by rw [app_len]; simp [Str.length]; simp [Str.length] at hlen; ktr_room) (hcnt') (by rw [app_list]; exact hres) NN⟩
end
end Mine
end
section
open PySem PySem.W PyProof.Rows PySem.Calls
namespace Mine
theorem offTok68 : True := by
  w_top off
  trivial
set_option maxRecDepth 100000
set_option maxHeartbeats 8000000
set_option linter.unusedVariables false
set_option linter.unusedSimpArgs false

section
variable {w : World} {dp un : Nat} {gd : Option (List Code)} {cn : Str} {cs : Scope} {a : Addr} {ccd : Value} {cl : List (Str × Addr)} {outer : List Env} {A₀ : Around} {base h₀ : Heap} {L : Addr} {m : Str → Option Value}  {s : Shared} {p : Program} {loose : List Str} {mean : ExcName → Option Value} {mg mb : Str → Option Value} {R : Result → Shared → Prop}

/-- the outer loop between two turns: signs are left and no token stands, or the signs are at their end and the token stands -/
inductive OutI (r : RC) (w : World) (s : Shared) (g : Heap) (L fi bm : Addr) (te : Tok) (rest : List (Addr × Obj)) (res : List Nat × List Nat) (kk : Int) : Nat → Shared → Prop
  | go {h : Heap} {tk : Nat} {mm : Str → Option Value} {t : Tok} {cs : List Nat} {vs : List Value} {ep : Nat} {ln : Int} {t1 : Tok} : Fr g L h mm → mm (Str.ofString "self") = some (.ref r.x2) → mm (Str.ofString "fiter") = some (.ref fi) →
    mm (Str.ofString "token") = some (.str (Str.ofString "") t) → Chars vs cs → cs.length ≤ 50000 → ln + (cs.count 10 : Int) = kk → lexTok cs = res → News g L h (r.led w vs ep ln t1 (runs r fi bm te rest)) → OutI r w s g L fi bm te rest res kk (cs.length + 1) { s with heap := h, toks := tk }
  | fin {h : Heap} {tk : Nat} {mm : Str → Option Value} {x : Str} {t : Tok} {ep : Nat} {t1 : Tok} : Fr g L h mm → mm (Str.ofString "self") = some (.ref r.x2) → mm (Str.ofString "fiter") = some (.ref fi) →
    mm (Str.ofString "token") = some (.str x t) → res = (x.cps.toList, []) → News g L h (r.led w [] ep kk t1 (ended r fi bm rest)) → OutI r w s g L fi bm te rest res kk 0 { s with heap := h, toks := tk }

theorem get_tok {r : RC} {chs : List Nat} {vs : List Value} {ep : Nat} {ln : Int} {t1 : Tok} {rest : List (Addr × Obj)}
   (B : Below A₀ base outer h₀) (F : Fr h₀ L s.heap m) (X : (hd.heap_39 w.params).In h₀) (T : Top p loose mean mg mb h₀) (hk : cs.kind = .function) (hdp : dp + 30 < recursionLimit) (hun : un + 120 < cLine)
   (codeHd : CodeHd base 138 136) (ok : r.Ok)
   (N : News h₀ L s.heap (r.led w vs ep ln t1 rest)) (hz : chs.length ≤ 50000) (hch : Chars vs chs)
   (r1 : ∀ p ∈ rest, p.1 ≠ r.sg) (r2 : ∀ p ∈ rest, p.1 ≠ r.d2)
   (ret : ∀ x tx h' tk' vs' ep' ln' t1', Fr h₀ L h' m → x.cps.toList = (lexTok chs).1 → Chars vs' (lexTok chs).2 → ln' + ((lexTok chs).2.count 10 : Int) = ln + (chs.count 10 : Int) → News h₀ L h' (r.led w vs' ep' ln' t1' rest) →
     R (.ok (.ret (.str x tx))) { s with heap := h', toks := tk' }) :
   codeAny (model prog w) (ktrTop dp un gd cn cs L a ccd cl outer) (.call (.ref 42) ⟨[.ref r.x2], []⟩) R s := by
  obtain ⟨⟨vsC, tq, hoc, hvc⟩, hoS, o0, o1, o2, o3, o4, o5, o6, o7⟩ := id ok
  dsimp only [RC.led] at N
  k_dflt ktr_enter
  k_steps
  rename_i g L' h4 FG B1 X1 T1 tk1 tk2 h3 bm h2 lb fi h1 lf h F1 N1
  have N2 : News g L' h (r.led w vs ep ln t1 (runs r fi bm (tk2 + 1 + 1 + 1) rest)) := (njoin (nhd (ntl (ntl N1))) (njoin (nhd (ntl (ntl (ntl N1)))) (njoin (nhd (ntl (ntl (ntl (ntl N1))))) (njoin (nhd (ntl (ntl (ntl (ntl (ntl N1)))))) (njoin (nhd (ntl (ntl (ntl (ntl (ntl (ntl N1))))))) (njoin (nhd (ntl (ntl (ntl (ntl (ntl (ntl (ntl N1)))))))) (njoin (nhd (ntl (ntl (ntl (ntl (ntl (ntl (ntl (ntl N1))))))))) (njoin (nhd (ntl (ntl (ntl (ntl (ntl (ntl (ntl (ntl (ntl N1)))))))))) (njoin (nhd (ntl (ntl (ntl (ntl (ntl (ntl (ntl (ntl (ntl (ntl N1))))))))))) (njoin (nhd N1) (njoin (nhd (ntl N1)) (ntl (ntl (ntl (ntl (ntl (ntl (ntl (ntl (ntl (ntl (ntl N1))))))))))))))))))))))
  clear N1
  generalize tk2 + 1 + 1 + 1 = te at *
  have q1 : ∀ p ∈ runs r fi bm te rest, p.1 ≠ r.sg := by
    simp only [runs, List.forall_mem_cons]
    exact ⟨(by k_ne), (by k_ne), r1⟩
  have q2 : ∀ p ∈ runs r fi bm te rest, p.1 ≠ r.d2 := by
    simp only [runs, List.forall_mem_cons]
    exact ⟨(by k_ne), (by k_ne), r2⟩
  have lr : ∀ p ∈ rest, p.1 ≠ fi := by
    have h1 : AllLt fi rest := by
      repeat (first | exact lf | replace lf := lf.2)
    exact fun q hq => Nat.ne_of_lt (allLt_all h1 q hq)
  have q3 : ∀ {ep ln t1}, ∀ p ∈ r.led w [] ep ln t1 ((bm, methodObj (.ref 35) (.ref r.x2)) :: rest), p.1 ≠ fi := by
    intro ep ln t1
    simp only [RC.led, List.forall_mem_cons]
    exact ⟨(by k_ne), (by k_ne), (by k_ne), (by k_ne), (by k_ne), (by k_ne), (by k_ne), (by k_ne), (by k_ne), (by k_ne), lr⟩
  have drop : ∀ {h vs ep ln t1} {o : Obj}, News g L' h (r.led w vs ep ln t1 ((fi, o) :: (bm, methodObj (.ref 35) (.ref r.x2)) :: rest)) → News g L' h (r.led w vs ep ln t1 rest) := by
    intro h vs ep ln t1 o N
    exact (njoin (nhd N) (njoin (nhd (ntl N)) (njoin (nhd (ntl (ntl N))) (njoin (nhd (ntl (ntl (ntl N)))) (njoin (nhd (ntl (ntl (ntl (ntl N))))) (njoin (nhd (ntl (ntl (ntl (ntl (ntl N)))))) (njoin (nhd (ntl (ntl (ntl (ntl (ntl (ntl N))))))) (njoin (nhd (ntl (ntl (ntl (ntl (ntl (ntl (ntl N)))))))) (njoin (nhd (ntl (ntl (ntl (ntl (ntl (ntl (ntl (ntl N))))))))) (ntl (ntl (ntl (ntl (ntl (ntl (ntl (ntl (ntl (ntl (ntl N))))))))))))))))))))
  have fin1 : ∀ x' tx' h2 tk2 vs2 ep2 ln2 t2 m2, Fr g L' h2 m2 → x'.cps.toList = (lexTok chs).1 → Chars vs2 (lexTok chs).2 → ln2 + ((lexTok chs).2.count 10 : Int) = ln + (chs.count 10 : Int) → News g L' h2 (r.led w vs2 ep2 ln2 t2 rest) → qk (.ret (.str x' tx')) { s with heap := h2, toks := tk2 } := by
    intro x' tx' h2 tk2 vs2 ep2 ln2 t2 m2 F2 hx hc2 hn2 N2
    clear F1
    k_steps
    rename News h₀ L _ _ => NN
    rename Fr h₀ L _ _ => FF
    exact ret _ _ _ _ _ _ _ _ FF hx hc2 hn2 NN
  refine for_loop (OutI r w s g L' fi bm te rest (lexTok chs) (ln + (chs.count 10 : Int))) ?_ (chs.length + 1) (.go F1 rfl rfl rfl hch hz rfl rfl N2) (by intro _; rfl)
  clear F1 N2
  rintro n s' (@⟨h, tk, mm, tt, cs', vs', ep', ln', t1', Fm, hself, hfit, htok, hC, hlen, hcnt, hlex, Nm⟩ | @⟨h, tk, mm, x, tx, ep', t1', Fm, hself, hfit, htok, hres, Nm⟩)
  · cases hC with
    | nil =>
      refine next_nil (dp := dp + 1) (un := un + 3) B1 Fm X1 T1 rfl (by ktr_room) (by ktr_room) codeHd ok Nm q1 q2 q3 ?_
      intro h' tk' F' N'
      replace N' := drop N'
      dsimp only
      k_steps
      rename News h₀ L _ _ => NN
      rename Fr h₀ L _ _ => FF
      exact ret _ _ _ _ [] _ _ _ FF (by rw [← hlex]; decide) (by rw [← hlex]; exact .nil) (by rw [← hlex]; exact hcnt) NN
    | @cons vs'' cs'' c tc hC =>
      have hcnt' := count_step hcnt
      simp only [List.length_cons] at hlen
      have hvl := hC.length
      rw [lexTok_cons'] at hlex
      refine next_cons (dp := dp + 1) (un := un + 3) B1 Fm X1 T1 rfl (by ktr_room) (by ktr_room) codeHd ok Nm (by ktr_room) q1 q2 ?_
      intro h' tk' t1' F' N'
      dsimp only
      refine wpAny_assign_Name ?_
      k_steps
      · rename ((_ : Str) == Str.ofString "\"") = _ => hq
        rename (Builtin.Str.occurrences _ _ _ _ _).isEmpty = _ => hws
        rw [ws_of hws, if_neg (by decide), if_pos (is_of (by decide) hq)] at hlex
        rename Fr g L' _ _ => FF
        rename News g L' _ _ => NN
        refine quote_loop (dp := dp + 1) (un := un + 3) B1 FF X1 T1 (by ktr_room) (by ktr_room) codeHd ok NN (chs := cs'') (x := Str.ofString "") (by rw [show (Str.ofString "").length = 0 by decide]; (try simp only [List.length_cons, List.length_nil] at hlen ⊢); ktr_room) hC q1 q2 q3 hself hfit (by first | exact htok | rfl) ?_ ?_
        · intro x' tx' h2 tk2 vs2 ep2 ln2 t2 m2 F2 hx hc2 hn2 N2
          have e : quoteL cs'' (Str.ofString "").cps.toList = lexTok chs := by first | exact hlex | (rw [← hlex]; congr 1)
          rw [e] at hx hc2 hn2
          exact fin1 _ _ _ _ _ _ _ _ _ F2 hx hc2 (hn2.trans hcnt') (drop N2)
        · intro x' tx' h2 tk2 ep2 t2 m2 F2 hs2 hf2 ht2 hx N2
          dsimp only
          k_steps
          dsimp only
          have e : quoteL cs'' (Str.ofString "").cps.toList = lexTok chs := by first | exact hlex | (rw [← hlex]; congr 1)
          rw [e] at hx
          refine ⟨0, Nat.succ_pos _, .fin (ep := ep2) (t1 := t2) F2 hs2 hf2 ht2 hx ?_⟩
          rw [hcnt'] at N2
          exact N2
      · rename ((_ : Str) == Str.ofString "\"") = _ => hq
        rename ((_ : Str) == Str.ofString "\\") = _ => hbs
        rename (Builtin.Str.occurrences _ _ _ _ _).isEmpty = _ => hws
        rw [ws_of hws, if_neg (by decide), if_neg (not_of (by decide) hq), if_pos (is_of (by decide) hbs)] at hlex
        unfold Hold
        refine wpAny_call ?_
        k_dflt (refine' read_any (by k_asm) (by k_asm) (by k_asm) (by k_asm) rfl ?d9 ?u9 (by assumption) (by assumption) (by k_asm) hC ?z9 (by assumption) (by assumption) ?_; (case d9 => ktr_room); (case u9 => ktr_room); (case z9 => ktr_room))
        intro h' tk' t1' z tz vs3 ep3 ln3 F' hz1 hC3 hcnt3 N'
        have hzl : z.length + (cs''.drop 1).length = cs''.length := by rw [show z.length = z.cps.toList.length by simp [Str.length], hz1, ← List.length_append, List.take_append_drop]
        (try dsimp only)
        k_steps
        rename Fr g L' _ _ => FF
        rename News g L' _ _ => NN
        have e : wordL (cs''.drop 1) (Str.ofString "" ++ z).cps.toList = lexTok chs := by rw [← hlex, app_list, hz1]; congr 1
        refine word_loop (dp := dp + 1) (un := un + 3) B1 FF X1 T1 (by ktr_room) (by ktr_room) codeHd ok NN (chs := cs''.drop 1) (x := Str.ofString "" ++ z) (by rw [app_len, show (Str.ofString "").length = 0 by decide]; ktr_room) hC3 q1 q2 q3 hself hfit (by first | exact htok | rfl) ?_ ?_
        · intro x' tx' h2 tk2 vs2 ep2 ln2 t2 m2 F2 hx hc2 hn2 N2
          rw [e] at hx hc2 hn2
          exact fin1 _ _ _ _ _ _ _ _ _ F2 hx hc2 (hn2.trans (hcnt3.trans hcnt')) (drop N2)
        · intro x' tx' h2 tk2 ep2 t2 m2 F2 hs2 hf2 ht2 hx N2
          dsimp only
          k_steps
          dsimp only
          rw [e] at hx
          refine ⟨0, Nat.succ_pos _, .fin (ep := ep2) (t1 := t2) F2 hs2 hf2 ht2 hx ?_⟩
          rw [hcnt3.trans hcnt'] at N2
          exact N2
      · rename ((_ : Str) == Str.ofString "\"") = _ => hq
        rename ((_ : Str) == Str.ofString "\\") = _ => hbs
        rename (Builtin.Str.occurrences _ _ _ _ _).isEmpty = _ => hws
        rw [ws_of hws, if_neg (by decide), if_neg (not_of (by decide) hq), if_neg (not_of (by decide) hbs)] at hlex
        rename Fr g L' _ _ => FF
        rename News g L' _ _ => NN
        refine word_loop (dp := dp + 1) (un := un + 3) B1 FF X1 T1 (by ktr_room) (by ktr_room) codeHd ok NN (chs := cs'') (x := Str.ofString "" ++ (⟨#[c]⟩ : Str)) (by rw [app_len, show (Str.ofString "").length = 0 by decide]; (try simp only [List.length_cons, List.length_nil, Str.length, List.size_toArray] at hlen ⊢); ktr_room) hC q1 q2 q3 hself hfit (by first | exact htok | rfl) ?_ ?_
        · intro x' tx' h2 tk2 vs2 ep2 ln2 t2 m2 F2 hx hc2 hn2 N2
          have e : wordL cs'' (Str.ofString "" ++ (⟨#[c]⟩ : Str)).cps.toList = lexTok chs := by first | exact hlex | (rw [← hlex]; congr 1)
          rw [e] at hx hc2 hn2
          exact fin1 _ _ _ _ _ _ _ _ _ F2 hx hc2 (hn2.trans hcnt') (drop N2)
        · intro x' tx' h2 tk2 ep2 t2 m2 F2 hs2 hf2 ht2 hx N2
          dsimp only
          k_steps
          dsimp only
          have e : wordL cs'' (Str.ofString "" ++ (⟨#[c]⟩ : Str)).cps.toList = lexTok chs := by first | exact hlex | (rw [← hlex]; congr 1)
          rw [e] at hx
          refine ⟨0, Nat.succ_pos _, .fin (ep := ep2) (t1 := t2) F2 hs2 hf2 ht2 hx ?_⟩
          rw [hcnt'] at N2
          exact N2
      · rename (Builtin.Str.occurrences _ _ _ _ _).isEmpty = _ => hws
        rename Fr g L' _ _ => FF
        rename News g L' _ _ => NN
        rw [ws_of hws, if_pos (by decide)] at hlex
        dsimp only
        exact ⟨cs''.length + 1, by simp, .go FF hself hfit htok hC (by (try simp only [List.length_cons, List.length_nil] at hlen ⊢); ktr_room) hcnt' hlex NN⟩
  · refine next_ended (dp := dp + 1) (un := un + 3) Fm Nm (by simp [RC.led, ended]) ?_
    intro h' F' N'
    replace N' := drop N'
    dsimp only
    k_steps
    rename News h₀ L _ _ => NN
    rename Fr h₀ L _ _ => FF
    exact ret _ _ _ _ [] _ _ _ FF (by rw [hres]) (by rw [hres]; exact .nil) (by rw [hres]; simp) NN
end
end Mine
end
end
section
open PySem PySem.W PyProof.Rows PySem.Calls
namespace Mine
set_option maxRecDepth 100000
set_option maxHeartbeats 8000000
set_option linter.unusedVariables false

noncomputable def rep1 (c : Nat) (z : List Nat) (l : List Nat) : List Nat := l.flatMap fun d => if d = c then z else [d]
theorem rep1_free (c : Nat) (z : List Nat) : ∀ l : List Nat, c ∉ l → rep1 c z l = l
  | [], _ => rfl
  | k :: r, h => by
    have h1 : ¬ k = c := fun e => h (e ▸ List.mem_cons_self ..)
    have h2 := rep1_free c z r fun m => h (List.mem_cons_of_mem _ m)
    unfold rep1 at h2 ⊢
    rw [List.flatMap_cons, h2, if_neg h1]; rfl
theorem rep1_append (c : Nat) (z a b : List Nat) : rep1 c z (a ++ b) = rep1 c z a ++ rep1 c z b := List.flatMap_append
theorem rep1_join (c : Nat) (z : Str) : ∀ parts : List Str, (∀ p ∈ parts, c ∉ p.cps.toList) → rep1 c z.cps.toList (Str.join ⟨#[c]⟩ parts).cps.toList = (Str.join z parts).cps.toList
  | [], _ => rfl
  | [p], h => rep1_free c _ _ (h p (List.mem_singleton.mpr rfl))
  | p :: q :: r, h => by
    have ih := rep1_join c z (q :: r) fun a ha => h a (List.mem_cons_of_mem _ ha)
    show rep1 c z.cps.toList (p ++ ⟨#[c]⟩ ++ Str.join ⟨#[c]⟩ (q :: r)).cps.toList = (p ++ z ++ Str.join z (q :: r)).cps.toList
    simp only [Str.cps_append, Array.toList_append]
    rw [rep1_append, rep1_append, ih, rep1_free c _ _ (h p (List.mem_cons_self ..))]
    show p.cps.toList ++ rep1 c z.cps.toList [c] ++ _ = _
    simp [rep1]
theorem replace_is (x : Str) (c : Nat) (z : Str) : (Txt.replace x ⟨#[c]⟩ z).cps.toList = rep1 c z.cps.toList x.cps.toList := by
  rw [StrLaws.replace_one, ← rep1_join c _ _ (StrLaws.split_free x c), StrLaws.join_split]

noncomputable def escL : List (Nat × List Nat) → List Nat → List Nat
  | [], l => l
  | (c, z) :: r, l => escL r (rep1 c z l)
noncomputable def tabOf : List (Nat × List Nat) → Nat → List Nat
  | [], d => [d]
  | (c, z) :: r, d => if d = c then z else tabOf r d
noncomputable def goodPs : List (Nat × List Nat) → Bool
  | [] => true
  | (_, z) :: r => decide (z.length ≤ 6) && (r.all fun p => !z.contains p.1) && goodPs r
theorem escL_append (l : List Nat) : ∀ (ps qs : List (Nat × List Nat)) , escL (ps ++ qs) l = escL qs (escL ps l) := by
  intro ps
  induction ps generalizing l with
  | nil => intro qs; rfl
  | cons p r ih => intro qs; exact ih _ _
theorem tab_free : ∀ (r : List (Nat × List Nat)) (z : List Nat), (r.all fun p => !z.contains p.1) = true → z.flatMap (tabOf r) = z := by
  intro r z h
  have one : ∀ d ∈ z, tabOf r d = [d] := by
    intro d hd
    induction r with
    | nil => rfl
    | cons p r ih =>
      obtain ⟨c, y⟩ := p
      simp only [List.all_cons, Bool.and_eq_true] at h
      have hne : d ≠ c := by
        intro e; subst e
        have := h.1
        simp [hd] at this
      rw [tabOf, if_neg hne]
      exact ih h.2
  induction z with
  | nil => rfl
  | cons d z ih =>
    rw [List.flatMap_cons, one d (List.mem_cons_self ..), ih ?_ fun e he => one e (List.mem_cons_of_mem _ he)]
    · rfl
    · rw [List.all_eq_true] at h ⊢
      intro p hp
      have := h p hp
      simp at this ⊢
      exact this.2
theorem escL_tab : ∀ (ps : List (Nat × List Nat)) (l : List Nat), goodPs ps = true → escL ps l = l.flatMap (tabOf ps)
  | [], l, _ => by simp only [escL]; induction l with | nil => rfl | cons d l ih => rw [List.flatMap_cons, ← ih]; rfl
  | (c, z) :: r, l, h => by
    simp only [goodPs, Bool.and_eq_true] at h
    rw [escL, escL_tab r _ h.2]
    unfold rep1
    rw [List.flatMap_assoc]
    congr 1
    funext d
    simp only [tabOf]
    split
    · exact tab_free r z h.1.2
    · simp
theorem tab_len : ∀ (ps : List (Nat × List Nat)) (d : Nat), goodPs ps = true → (tabOf ps d).length ≤ 6
  | [], d, _ => by simp [tabOf]
  | (c, z) :: r, d, h => by
    simp only [goodPs, Bool.and_eq_true, decide_eq_true_eq] at h
    rw [tabOf]
    split
    · exact h.1.1
    · exact tab_len r d h.2
theorem escL_len (ps : List (Nat × List Nat)) (l : List Nat) (h : goodPs ps = true) : (escL ps l).length ≤ 6 * l.length := by
  rw [escL_tab ps l h]
  induction l with
  | nil => simp
  | cons d l ih =>
    rw [List.flatMap_cons, List.length_append, List.length_cons]
    have := tab_len ps d h
    ktr_room

section
variable {w : World} {A : Around} {E : Value → Shared → Prop} {s : Shared} {h₀ : Heap} {L a : Addr} {m : Str → Option Value} {news : List (Addr × Obj)} {cn : Str} {sc : Scope} {cd : Value} {Q : Flow → Shared → Prop}

theorem if_rep {t z c' : Str} {c : Nat} {tk : Tok} {k1 k2 k3 : Nat} {p1 p2 p3 p4 p5 p6 p7 p8 p9 p10 p11 : Pos} {pl : Sem Bool} (h1 : 0 ≤ s.toks) (F : Fr h₀ L s.heap m) (N : News h₀ L s.heap news) (hx : m (Str.ofString "text") = some (.str t tk)) {ps : List (Nat × List Nat)} {t0 : List Nat} (ht : t.cps.toList = escL ps t0) (h0 : t0.length ≤ 100000) (hg : goodPs (ps ++ [(c, z.cps.toList)]) = true) (hgp : goodPs ps = true) (hz : z.length ≤ 14) (hc : c' = ⟨#[c]⟩) (hne : (c' == z) = false)
    (h : ∀ h' tk' t' tk2, 0 ≤ tk' → t'.cps.toList = escL (ps ++ [(c, z.cps.toList)]) t0 → Fr h₀ L h' (fun y => if y = (Str.ofString "text") then some (.str t' tk2) else m y) → News h₀ L h' news → Q .next { s with heap := h', toks := tk' })
    (hk : sc.kind = .function) (hl : (envOf cn sc L a cd).kindOf (Str.ofString "text") = some .local)
    (he : eval (.Call (.Attribute (.Name (Str.ofString "text") p5) (Str.ofString "replace") p6) [.Constant (.str c') k2 p7, .Constant (.str z) k3 p8] [] p9) (envOf cn sc L a cd) = (do
      let ov ← eval (.Name (Str.ofString "text") p5) (envOf cn sc L a cd)
      standAt p6.atName
      let (f, first) ← holding [ov] (getMethod ov (Str.ofString "replace") pl)
      callWith p9 f first (backTo p9 (starEach [.Constant (.str c') k2 p7, .Constant (.str z) k3 p8] (envOf cn sc L a cd))) [])) :
    wpAny (model prog w) A (exec (.If (.Compare (.Constant (.str c') k1 p1) [.In] [.Name (Str.ofString "text") p2] p3) [.Assign [.Name (Str.ofString "text") p4] (.Call (.Attribute (.Name (Str.ofString "text") p5) (Str.ofString "replace") p6) [.Constant (.str c') k2 p7, .Constant (.str z) k3 p8] [] p9) p10] [] p11) (envOf cn sc L a cd)) Q E s := by
  subst hc
  have hlen : t.length ≤ 1000000 := by
    have h2 := escL_len ps t0 hgp
    rw [← ht] at h2
    have h3 : t.cps.toList.length = t.length := by simp [Str.length]
    ktr_room
  have hap : ∀ t' : Str, t'.cps.toList = rep1 c z.cps.toList t.cps.toList → t'.cps.toList = escL (ps ++ [(c, z.cps.toList)]) t0 := by
    intro t' e
    rw [escL_append, ← ht]
    exact e
  refine wpAny_If (wpAny_isTrue_Compare1 (wpAny_Constant_str (ld F hx (in_str (wpAny_truthy_bool ?_)) hk hl (by decide))))
  cases hi : (!(Builtin.Str.occurrences t ⟨#[c]⟩ 0 t.length 1).isEmpty) with
  | false =>
    rw [if_neg Bool.false_ne_true]
    refine wpAny_execs_nil (h s.heap _ t tk (by show 0 ≤ s.toks + 1; ktr_room) (hap _ ?_) ?_ N)
    · rw [rep1_free]
      have : (Builtin.Str.occurrences t ⟨#[c]⟩ 0 t.length 1).isEmpty = true := by simpa using hi
      rw [empty_one] at this
      simpa using this
    · have e : (fun y => if y = (Str.ofString "text") then some (Value.str t tk) else m y) = m := by
        funext y
        by_cases q : y = (Str.ofString "text")
        · rw [if_pos q, q, hx]
        · rw [if_neg q]
      rw [e]; exact F
  | true =>
    rw [if_pos rfl]
    refine wpAny_execs_cons (wpAny_Assign_Name ?_ rfl)
    refine MethodCall_ (ld F hx (GM.replace (callWith_method1 (spliced_more (wpAny_Constant_str (spliced_more (wpAny_Constant_str (spliced_none ?_))))))) hk hl (by decide)) he
    refine wpAny_with_toks (n := 0) (by show 0 ≤ s.toks + 1 + 1 + 1; ktr_room) ?_
    refine SC.replaceW (by show s.toks + 1 ≠ 0; ktr_room) (by show s.toks + 1 + 1 ≠ 0; ktr_room) (by show s.toks + 1 ≠ s.toks + 1 + 1; ktr_room) hne (by ktr_room) hz ?_
    intro t' k hk1
    refine stN F N (fun h' F' N' => wpAny_execs_nil (h h' _ _ t' (by show 0 ≤ k + 1; ktr_room) (hap _ (replace_is t c z)) F' N')) hk hl
end
end Mine
end
section
open PySem PySem.W PyProof.Rows PySem.Calls
namespace Mine
theorem offEscC68 : True := by
  w_top off
  trivial
set_option maxRecDepth 100000
set_option maxHeartbeats 8000000
set_option linter.unusedVariables false
noncomputable abbrev cps (x : String) : List Nat := (Str.ofString x).cps.toList
noncomputable def esc1 : List (Nat × List Nat) := [(38, cps "&amp;"), (60, cps "&lt;"), (62, cps "&gt;")]
noncomputable def esc2 : List (Nat × List Nat) := [(38, cps "&amp;"), (60, cps "&lt;"), (62, cps "&gt;"), (34, cps "&quot;"), (13, cps "&#13;"), (10, cps "&#10;"), (9, cps "&#09;")]
noncomputable def esc3 : List (Nat × List Nat) := [(38, cps "&amp;"), (62, cps "&gt;"), (34, cps "&quot;")]
noncomputable def esc4 : List (Nat × List Nat) := [(38, cps "&amp;"), (60, cps "&lt;"), (62, cps "&gt;"), (13, cps "&#xD;")]
noncomputable def esc5 : List (Nat × List Nat) := [(38, cps "&amp;"), (60, cps "&lt;"), (34, cps "&quot;"), (9, cps "&#x9;"), (10, cps "&#xA;"), (13, cps "&#xD;")]
section
variable {w : World} {dp un : Nat} {gd : Option (List Code)} {cn : Str} {cs : Scope} {a : Addr} {ccd : Value} {cl : List (Str × Addr)} {outer : List Env} {A₀ : Around} {base h₀ : Heap} {L : Addr} {m : Str → Option Value} {news : List (Addr × Obj)} {s : Shared} {p : Program} {loose : List Str} {mean : ExcName → Option Value} {mg mb : Str → Option Value} {Q E : Value → Shared → Prop}
theorem esc_call1 {t : Str} {tk : Tok}
   (B : Below A₀ base outer h₀) (F : Fr h₀ L s.heap m) (X : (hd.heap_39 w.params).In h₀) (N : News h₀ L s.heap news) (T : Top p loose mean mg mb h₀) (hk : cs.kind = .function) (hdp : dp + 20 < recursionLimit) (hun : un + 100 < cLine)
   (h1 : 0 ≤ s.toks) (ht : t.cps.toList.length ≤ 100000)
   (ret : ∀ t' tt h' tk', 0 ≤ tk' → t'.cps.toList = escL esc1 t.cps.toList → Fr h₀ L h' m → News h₀ L h' news → Q (.str t' tt) { s with heap := h', toks := tk' }) :
   wpAny (model prog w) (ktrTop dp un gd cn cs L a ccd cl outer) (call (.ref 70) [.str t tk]) Q E s := by
  refine wpAny_call ?_
  k_dflt ktr_enter
  rename_i g L' h' FG F0 N0 B1 X1 T1
  have q0 : 0 ≤ s.toks + 1 := by ktr_room
  have e0 : t.cps.toList = escL [] t.cps.toList := rfl
  refine wpAny_execs_cons ?_
  walk1
  refine wpAny_execs_cons ?_
  with_unfolding_all refine if_rep (c := 38) (z := Str.ofString "&amp;") q0 F0 N0 rfl e0 ht (by decide) (by decide) (by decide) (by decide) (by decide) ?_ (by rfl) (by rfl) (by rfl)
  intro g1 k1 t1 u1 q1 e1 F1 N1
  dsimp only
  refine wpAny_execs_cons ?_
  with_unfolding_all refine if_rep (c := 60) (z := Str.ofString "&lt;") q1 F1 N1 rfl e1 ht (by decide) (by decide) (by decide) (by decide) (by decide) ?_ (by rfl) (by rfl) (by rfl)
  intro g2 k2 t2 u2 q2 e2 F2 N2
  dsimp only
  refine wpAny_execs_cons ?_
  with_unfolding_all refine if_rep (c := 62) (z := Str.ofString "&gt;") q2 F2 N2 rfl e2 ht (by decide) (by decide) (by decide) (by decide) (by decide) ?_ (by rfl) (by rfl) (by rfl)
  intro g3 k3 t3 u3 q3 e3 F3 N3
  dsimp only
  refine wpAny_execs_cons ?_
  k_steps
  rename News h₀ L _ _ => NN
  rename Fr h₀ L _ _ => FF
  exact ret _ _ _ _ q3 e3 FF NN
theorem esc_call2 {t : Str} {tk : Tok}
   (B : Below A₀ base outer h₀) (F : Fr h₀ L s.heap m) (X : (hd.heap_39 w.params).In h₀) (N : News h₀ L s.heap news) (T : Top p loose mean mg mb h₀) (hk : cs.kind = .function) (hdp : dp + 20 < recursionLimit) (hun : un + 100 < cLine)
   (h1 : 0 ≤ s.toks) (ht : t.cps.toList.length ≤ 100000)
   (ret : ∀ t' tt h' tk', 0 ≤ tk' → t'.cps.toList = escL esc2 t.cps.toList → Fr h₀ L h' m → News h₀ L h' news → Q (.str t' tt) { s with heap := h', toks := tk' }) :
   wpAny (model prog w) (ktrTop dp un gd cn cs L a ccd cl outer) (call (.ref 77) [.str t tk]) Q E s := by
  refine wpAny_call ?_
  k_dflt ktr_enter
  rename_i g L' h' FG F0 N0 B1 X1 T1
  have q0 : 0 ≤ s.toks + 1 := by ktr_room
  have e0 : t.cps.toList = escL [] t.cps.toList := rfl
  refine wpAny_execs_cons ?_
  walk1
  refine wpAny_execs_cons ?_
  with_unfolding_all refine if_rep (c := 38) (z := Str.ofString "&amp;") q0 F0 N0 rfl e0 ht (by decide) (by decide) (by decide) (by decide) (by decide) ?_ (by rfl) (by rfl) (by rfl)
  intro g1 k1 t1 u1 q1 e1 F1 N1
  dsimp only
  refine wpAny_execs_cons ?_
  with_unfolding_all refine if_rep (c := 60) (z := Str.ofString "&lt;") q1 F1 N1 rfl e1 ht (by decide) (by decide) (by decide) (by decide) (by decide) ?_ (by rfl) (by rfl) (by rfl)
  intro g2 k2 t2 u2 q2 e2 F2 N2
  dsimp only
  refine wpAny_execs_cons ?_
  with_unfolding_all refine if_rep (c := 62) (z := Str.ofString "&gt;") q2 F2 N2 rfl e2 ht (by decide) (by decide) (by decide) (by decide) (by decide) ?_ (by rfl) (by rfl) (by rfl)
  intro g3 k3 t3 u3 q3 e3 F3 N3
  dsimp only
  refine wpAny_execs_cons ?_
  with_unfolding_all refine if_rep (c := 34) (z := Str.ofString "&quot;") q3 F3 N3 rfl e3 ht (by decide) (by decide) (by decide) (by decide) (by decide) ?_ (by rfl) (by rfl) (by rfl)
  intro g4 k4 t4 u4 q4 e4 F4 N4
  dsimp only
  refine wpAny_execs_cons ?_
  with_unfolding_all refine if_rep (c := 13) (z := Str.ofString "&#13;") q4 F4 N4 rfl e4 ht (by decide) (by decide) (by decide) (by decide) (by decide) ?_ (by rfl) (by rfl) (by rfl)
  intro g5 k5 t5 u5 q5 e5 F5 N5
  dsimp only
  refine wpAny_execs_cons ?_
  with_unfolding_all refine if_rep (c := 10) (z := Str.ofString "&#10;") q5 F5 N5 rfl e5 ht (by decide) (by decide) (by decide) (by decide) (by decide) ?_ (by rfl) (by rfl) (by rfl)
  intro g6 k6 t6 u6 q6 e6 F6 N6
  dsimp only
  refine wpAny_execs_cons ?_
  with_unfolding_all refine if_rep (c := 9) (z := Str.ofString "&#09;") q6 F6 N6 rfl e6 ht (by decide) (by decide) (by decide) (by decide) (by decide) ?_ (by rfl) (by rfl) (by rfl)
  intro g7 k7 t7 u7 q7 e7 F7 N7
  dsimp only
  refine wpAny_execs_cons ?_
  k_steps
  rename News h₀ L _ _ => NN
  rename Fr h₀ L _ _ => FF
  exact ret _ _ _ _ q7 e7 FF NN
theorem esc_call3 {t : Str} {tk : Tok}
   (B : Below A₀ base outer h₀) (F : Fr h₀ L s.heap m) (X : (hd.heap_39 w.params).In h₀) (N : News h₀ L s.heap news) (T : Top p loose mean mg mb h₀) (hk : cs.kind = .function) (hdp : dp + 20 < recursionLimit) (hun : un + 100 < cLine)
   (h1 : 0 ≤ s.toks) (ht : t.cps.toList.length ≤ 100000)
   (ret : ∀ t' tt h' tk', 0 ≤ tk' → t'.cps.toList = escL esc3 t.cps.toList → Fr h₀ L h' m → News h₀ L h' news → Q (.str t' tt) { s with heap := h', toks := tk' }) :
   wpAny (model prog w) (ktrTop dp un gd cn cs L a ccd cl outer) (call (.ref 84) [.str t tk]) Q E s := by
  refine wpAny_call ?_
  k_dflt ktr_enter
  rename_i g L' h' FG F0 N0 B1 X1 T1
  have q0 : 0 ≤ s.toks + 1 := by ktr_room
  have e0 : t.cps.toList = escL [] t.cps.toList := rfl
  refine wpAny_execs_cons ?_
  walk1
  refine wpAny_execs_cons ?_
  with_unfolding_all refine if_rep (c := 38) (z := Str.ofString "&amp;") q0 F0 N0 rfl e0 ht (by decide) (by decide) (by decide) (by decide) (by decide) ?_ (by rfl) (by rfl) (by rfl)
  intro g1 k1 t1 u1 q1 e1 F1 N1
  dsimp only
  refine wpAny_execs_cons ?_
  with_unfolding_all refine if_rep (c := 62) (z := Str.ofString "&gt;") q1 F1 N1 rfl e1 ht (by decide) (by decide) (by decide) (by decide) (by decide) ?_ (by rfl) (by rfl) (by rfl)
  intro g2 k2 t2 u2 q2 e2 F2 N2
  dsimp only
  refine wpAny_execs_cons ?_
  with_unfolding_all refine if_rep (c := 34) (z := Str.ofString "&quot;") q2 F2 N2 rfl e2 ht (by decide) (by decide) (by decide) (by decide) (by decide) ?_ (by rfl) (by rfl) (by rfl)
  intro g3 k3 t3 u3 q3 e3 F3 N3
  dsimp only
  refine wpAny_execs_cons ?_
  k_steps
  rename News h₀ L _ _ => NN
  rename Fr h₀ L _ _ => FF
  exact ret _ _ _ _ q3 e3 FF NN
theorem esc_call4 {t : Str} {tk : Tok}
   (B : Below A₀ base outer h₀) (F : Fr h₀ L s.heap m) (X : (hd.heap_39 w.params).In h₀) (N : News h₀ L s.heap news) (T : Top p loose mean mg mb h₀) (hk : cs.kind = .function) (hdp : dp + 20 < recursionLimit) (hun : un + 100 < cLine)
   (h1 : 0 ≤ s.toks) (ht : t.cps.toList.length ≤ 100000)
   (ret : ∀ t' tt h' tk', 0 ≤ tk' → t'.cps.toList = escL esc4 t.cps.toList → Fr h₀ L h' m → News h₀ L h' news → Q (.str t' tt) { s with heap := h', toks := tk' }) :
   wpAny (model prog w) (ktrTop dp un gd cn cs L a ccd cl outer) (call (.ref 91) [.str t tk]) Q E s := by
  refine wpAny_call ?_
  k_dflt ktr_enter
  rename_i g L' h' FG F0 N0 B1 X1 T1
  have q0 : 0 ≤ s.toks + 1 := by ktr_room
  have e0 : t.cps.toList = escL [] t.cps.toList := rfl
  refine wpAny_execs_cons ?_
  walk1
  refine wpAny_execs_cons ?_
  with_unfolding_all refine if_rep (c := 38) (z := Str.ofString "&amp;") q0 F0 N0 rfl e0 ht (by decide) (by decide) (by decide) (by decide) (by decide) ?_ (by rfl) (by rfl) (by rfl)
  intro g1 k1 t1 u1 q1 e1 F1 N1
  dsimp only
  refine wpAny_execs_cons ?_
  with_unfolding_all refine if_rep (c := 60) (z := Str.ofString "&lt;") q1 F1 N1 rfl e1 ht (by decide) (by decide) (by decide) (by decide) (by decide) ?_ (by rfl) (by rfl) (by rfl)
  intro g2 k2 t2 u2 q2 e2 F2 N2
  dsimp only
  refine wpAny_execs_cons ?_
  with_unfolding_all refine if_rep (c := 62) (z := Str.ofString "&gt;") q2 F2 N2 rfl e2 ht (by decide) (by decide) (by decide) (by decide) (by decide) ?_ (by rfl) (by rfl) (by rfl)
  intro g3 k3 t3 u3 q3 e3 F3 N3
  dsimp only
  refine wpAny_execs_cons ?_
  with_unfolding_all refine if_rep (c := 13) (z := Str.ofString "&#xD;") q3 F3 N3 rfl e3 ht (by decide) (by decide) (by decide) (by decide) (by decide) ?_ (by rfl) (by rfl) (by rfl)
  intro g4 k4 t4 u4 q4 e4 F4 N4
  dsimp only
  refine wpAny_execs_cons ?_
  k_steps
  rename News h₀ L _ _ => NN
  rename Fr h₀ L _ _ => FF
  exact ret _ _ _ _ q4 e4 FF NN
theorem esc_call5 {t : Str} {tk : Tok}
   (B : Below A₀ base outer h₀) (F : Fr h₀ L s.heap m) (X : (hd.heap_39 w.params).In h₀) (N : News h₀ L s.heap news) (T : Top p loose mean mg mb h₀) (hk : cs.kind = .function) (hdp : dp + 20 < recursionLimit) (hun : un + 100 < cLine)
   (h1 : 0 ≤ s.toks) (ht : t.cps.toList.length ≤ 100000)
   (ret : ∀ t' tt h' tk', 0 ≤ tk' → t'.cps.toList = escL esc5 t.cps.toList → Fr h₀ L h' m → News h₀ L h' news → Q (.str t' tt) { s with heap := h', toks := tk' }) :
   wpAny (model prog w) (ktrTop dp un gd cn cs L a ccd cl outer) (call (.ref 98) [.str t tk]) Q E s := by
  refine wpAny_call ?_
  k_dflt ktr_enter
  rename_i g L' h' FG F0 N0 B1 X1 T1
  have q0 : 0 ≤ s.toks + 1 := by ktr_room
  have e0 : t.cps.toList = escL [] t.cps.toList := rfl
  refine wpAny_execs_cons ?_
  walk1
  refine wpAny_execs_cons ?_
  with_unfolding_all refine if_rep (c := 38) (z := Str.ofString "&amp;") q0 F0 N0 rfl e0 ht (by decide) (by decide) (by decide) (by decide) (by decide) ?_ (by rfl) (by rfl) (by rfl)
  intro g1 k1 t1 u1 q1 e1 F1 N1
  dsimp only
  refine wpAny_execs_cons ?_
  with_unfolding_all refine if_rep (c := 60) (z := Str.ofString "&lt;") q1 F1 N1 rfl e1 ht (by decide) (by decide) (by decide) (by decide) (by decide) ?_ (by rfl) (by rfl) (by rfl)
  intro g2 k2 t2 u2 q2 e2 F2 N2
  dsimp only
  refine wpAny_execs_cons ?_
  with_unfolding_all refine if_rep (c := 34) (z := Str.ofString "&quot;") q2 F2 N2 rfl e2 ht (by decide) (by decide) (by decide) (by decide) (by decide) ?_ (by rfl) (by rfl) (by rfl)
  intro g3 k3 t3 u3 q3 e3 F3 N3
  dsimp only
  refine wpAny_execs_cons ?_
  with_unfolding_all refine if_rep (c := 9) (z := Str.ofString "&#x9;") q3 F3 N3 rfl e3 ht (by decide) (by decide) (by decide) (by decide) (by decide) ?_ (by rfl) (by rfl) (by rfl)
  intro g4 k4 t4 u4 q4 e4 F4 N4
  dsimp only
  refine wpAny_execs_cons ?_
  with_unfolding_all refine if_rep (c := 10) (z := Str.ofString "&#xA;") q4 F4 N4 rfl e4 ht (by decide) (by decide) (by decide) (by decide) (by decide) ?_ (by rfl) (by rfl) (by rfl)
  intro g5 k5 t5 u5 q5 e5 F5 N5
  dsimp only
  refine wpAny_execs_cons ?_
  with_unfolding_all refine if_rep (c := 13) (z := Str.ofString "&#xD;") q5 F5 N5 rfl e5 ht (by decide) (by decide) (by decide) (by decide) (by decide) ?_ (by rfl) (by rfl) (by rfl)
  intro g6 k6 t6 u6 q6 e6 F6 N6
  dsimp only
  refine wpAny_execs_cons ?_
  k_steps
  rename News h₀ L _ _ => NN
  rename Fr h₀ L _ _ => FF
  exact ret _ _ _ _ q6 e6 FF NN
end
end Mine
end
local macro_rules | `(tactic| walk_at "execs cons") => `(tactic| (refine wpAny_execs_cons ?_))
local macro_rules | `(tactic| walk_at "execs nil") => `(tactic| (refine wpAny_execs_nil ?_))
section
open PySem PySem.W PyProof.Rows PySem.Calls
namespace Mine
theorem offWri68 : True := by
  w_top off
  trivial
set_option maxRecDepth 100000
set_option maxHeartbeats 8000000
set_option linter.unusedVariables false
local macro_rules | `(tactic| walk_at "call ref") => `(tactic| (refine hold ?_))

noncomputable def escOf (d : Int) : List (Nat × List Nat) := if d = 1 then esc1 else if d = 2 then esc2 else if d = 3 then esc3 else if d = 4 then esc4 else esc5
section
variable {w : World} {dp un : Nat} {gd : Option (List Code)} {cn : Str} {cs : Scope} {a : Addr} {ccd : Value} {cl : List (Str × Addr)} {outer : List Env} {A₀ : Around} {base h₀ : Heap} {L : Addr} {m : Str → Option Value} {news : List (Addr × Obj)} {s : Shared} {p : Program} {loose : List Str} {mean : ExcName → Option Value} {mg mb : Str → Option Value} {Q E : Value → Shared → Prop}
theorem written_call {t : Str} {tk td : Tok} {d : Int}
   (B : Below A₀ base outer h₀) (F : Fr h₀ L s.heap m) (X : (hd.heap_39 w.params).In h₀) (N : News h₀ L s.heap news) (T : Top p loose mean mg mb h₀) (hk : cs.kind = .function) (hdp : dp + 22 < recursionLimit) (hun : un + 110 < cLine)
   (h1 : 0 ≤ s.toks) (ht : t.cps.toList.length ≤ 100000)
   (ret : ∀ t' tt h' tk', 0 ≤ tk' → t'.cps.toList = escL (escOf d) t.cps.toList → Fr h₀ L h' m → News h₀ L h' news → Q (.str t' tt) { s with heap := h', toks := tk' }) :
   wpAny (model prog w) (ktrTop dp un gd cn cs L a ccd cl outer) (call (.ref 134) [.int d td, .str t tk]) Q E s := by
  refine wpAny_call ?_
  k_dflt ktr_enter
  k_steps
  all_goals
    unfold Hold
    k_dflt ((first | (refine' esc_call1 ?B9 ?F9 ?X9 ?N9 ?T9 ?k9 ?d9 ?u9 ?h9 ?t9 ?_) | (refine' esc_call2 ?B9 ?F9 ?X9 ?N9 ?T9 ?k9 ?d9 ?u9 ?h9 ?t9 ?_) | (refine' esc_call3 ?B9 ?F9 ?X9 ?N9 ?T9 ?k9 ?d9 ?u9 ?h9 ?t9 ?_) | (refine' esc_call4 ?B9 ?F9 ?X9 ?N9 ?T9 ?k9 ?d9 ?u9 ?h9 ?t9 ?_) | (refine' esc_call5 ?B9 ?F9 ?X9 ?N9 ?T9 ?k9 ?d9 ?u9 ?h9 ?t9 ?_)); (case B9 => k_asm); (case F9 => k_asm); (case X9 => k_asm); (case N9 => k_asm); (case T9 => k_asm); (case k9 => exact rfl); (case d9 => ktr_room); (case u9 => ktr_room); (case h9 => ((try dsimp only); first | assumption | ktr_room)); (case t9 => assumption))
    intro t' tt' h' tk' hq' he' F' N'
    k_steps
  all_goals (rename News h₀ L _ _ => NN; rename Fr h₀ L _ _ => FF)
  all_goals (refine ret _ _ _ _ (by assumption) ?_ FF NN; rename _ = escL _ _ => he; rw [he]; congr 1; unfold escOf; clear he FF NN ret; simp_all)
end
end Mine
end
section
open PySem PySem.W PyProof.Rows PySem.Calls
namespace Mine
set_option maxRecDepth 100000
set_option maxHeartbeats 8000000
set_option linter.unusedVariables false

/-- texts in a list, one a value -/
inductive Strs : List Value → List (List Nat) → Prop where
  | nil : Strs [] []
  | cons {vs : List Value} {ss : List (List Nat)} {x : Str} {t : Tok} : Strs vs ss → Strs (.str x t :: vs) (x.cps.toList :: ss)
theorem Strs.length {vs : List Value} {ss : List (List Nat)} (h : Strs vs ss) : vs.length = ss.length := by
  induction h with
  | nil => rfl
  | cons _ ih => simp [ih]
theorem Strs.append {vs us : List Value} {ss rs : List (List Nat)} (h : Strs vs ss) (k : Strs us rs) : Strs (vs ++ us) (ss ++ rs) := by
  induction h with
  | nil => exact k
  | cons _ ih => exact .cons ih
theorem Strs.snoc {vs : List Value} {ss : List (List Nat)} {x : Str} {t : Tok} (h : Strs vs ss) : Strs (vs ++ [.str x t]) (ss ++ [x.cps.toList]) := h.append (.cons .nil)

/-- the words that a reader gives one by one, and what is left -/
inductive Lexes : List Nat → List (List Nat) → List Nat → Prop where
  | stop {cs rest : List Nat} : (lexTok cs).1 = [] → (lexTok cs).2 = rest → Lexes cs [] rest
  | more {cs rest t : List Nat} {ts : List (List Nat)} : (lexTok cs).1 = t → t ≠ [] → Lexes (lexTok cs).2 ts rest → Lexes cs (t :: ts) rest

set_option genInjectivity false in
set_option genSizeOf false in
structure LC where
  (xl dl pb cL : Addr)
  (oL : Obj)
  (u0 u1 u2 u3 u4 u5 : Tok)
noncomputable abbrev LC.led (l : LC) (w : World) (us : List Value) (ep : Nat) (rest : List (Addr × Obj)) : List (Addr × Obj) :=
  (l.pb, listOf us.toArray ep) :: (l.xl, instObj 52 l.dl) :: (l.dl, dictOf [key w "lineno" l.u0 (.int 1 l.u1), key w "instream" l.u2 .none, key w "whitespace" l.u3 (.str (Str.ofString "\n\t\x0d ") l.u4), key w "pushback" l.u5 (.ref l.pb)] 4) :: (l.cL, l.oL) :: rest
structure LC.Ok (l : LC) (r : RC) : Prop where
  cell : l.oL.data = .cell (some (.ref l.xl))
  p0 : @LT.lt Nat _ r.prb l.dl
  p1 : @LT.lt Nat _ l.dl l.xl
  p2 : @LT.lt Nat _ l.xl l.pb
  p3 : @LT.lt Nat _ l.cL r.cS

noncomputable def tdDef : Stmt := topAt 16
noncomputable def tdScope : Scope := stScope tdDef
noncomputable def tdFor : Stmt := stAt (stBody tdDef) 6
noncomputable def kFor : Stmt := stAt (stBody tdFor) 0
noncomputable def kIf : Stmt := stAt (stBody kFor) 1
noncomputable def rdWhile : Stmt := stAt (stBody kIf) 2
noncomputable def rdTest : Expr := stVal rdWhile
noncomputable def rdBody : List Stmt := stBody rdWhile

noncomputable abbrev tdCells (r : RC) (l : LC) : List (Str × Addr) := [(Str.ofString "signs", r.cS), (Str.ofString "line", l.cL)]
theorem news_tail {h₀ h : Heap} {L : Addr} {q : Addr × Obj} {l : List (Addr × Obj)} (N : News h₀ L h (q :: l)) : News h₀ L h l := fun p hp => N p (List.mem_cons_of_mem _ hp)
end Mine
end
local macro_rules | `(tactic| walk_at "eval Name") => `(tactic| (k_here; k_dflt (refine' nameX_L ?F ?v ?_ ?a ?b; (case F => k_asm); (case a => rfl); (case b => rfl); (case v => assumption); k_whole)))
local macro_rules | `(tactic| walk_at "exec While Compare cons nil") => `(tactic| (refine wpAny_While ?_))
local macro_rules | `(tactic| walk_at "call type:list") => `(tactic| (refine hold ?_))
local macro_rules | `(tactic| walk_at "call builtin:list.extend") => `(tactic| (refine hold ?_))
section
open PySem PySem.W PyProof.Rows PySem.Calls
namespace Mine
theorem offWhile68 : True := by
  w_top off
  trivial
set_option maxRecDepth 100000
set_option maxHeartbeats 8000000
set_option linter.unusedVariables false
set_option pp.deepTerms.threshold 8

section
variable {w : World} {dp un : Nat} {gd : Option (List Code)} {outer : List Env} {A₀ : Around} {base h₀ : Heap} {L : Addr} {m : Str → Option Value}  {s : Shared} {p : Program} {loose : List Str} {mean : ExcName → Option Value} {mg mb : Str → Option Value} {R : Result → Shared → Prop}

theorem while_loop {A : Around} {test body orelse env} (I : Nat → Shared → Prop)
    (turn : ∀ n s, I n s → wpAny (model prog w) A (isTrue test env (eval test env)) (fun b s₂ =>
      if b = true then wpAny (model prog w) A (execs body env) (fun f s₃ => match f with
          | .next | .cont => Again I n s₃
          | .brk => R (.ok .next) s₃
          | .ret v => R (.ok (.ret v)) s₃) (notedBy (model prog w) A env fun e s' => R (.error e) s') s₂
      else wpAny (model prog w) A (execs orelse env) (fun f s₃ => R (.ok f) s₃) (notedBy (model prog w) A env fun e s' => R (.error e) s') s₂) (notedBy (model prog w) A env fun e s' => R (.error e) s') s)
    (n : Nat) (h : I n s) : codeAny (model prog w) A (.whileLoop test body orelse env) R s := codeAny_whileLoop I turn n h
/-- the reading loop between two turns -/
inductive RdI (r : RC) (l : LC) (w : World) (s : Shared) (g : Heap) (L : Addr) (m : Str → Option Value) (rest : List (Addr × Obj)) (fin : List (List Nat)) (kk : Int) : Nat → Shared → Prop
  | mk {h : Heap} {tk : Nat} {mm : Str → Option Value} {x : Str} {t : Tok} {c0 : List Nat} {ts : List (List Nat)} {vs : List Value} {ep : Nat} {ln : Int} {t1 : Tok} {us : List Value} {ss : List (List Nat)} {ep2 : Nat} :
    Fr g L h mm → mm (Str.ofString "word") = some (.str x t) → (∀ y, y ≠ Str.ofString "word" → mm y = m y) → Lexes c0 ts [] → c0.length ≤ 50000 → x.cps.toList = (lexTok c0).1 → Chars vs (lexTok c0).2 → ln + ((lexTok c0).2.count 10 : Int) = kk →
    Strs us ss → ss ++ ts = fin → ss.length ≤ 100000 → News g L h (r.led w vs ep ln t1 (l.led w us ep2 rest)) → RdI r l w s g L m rest fin kk ts.length { s with heap := h, toks := tk }

theorem read_while {r : RC} {l : LC} {c0 : List Nat} {ts ss : List (List Nat)} {vs us : List Value} {ep ep2 : Nat} {ln : Int} {t1 tx : Tok} {x : Str} {rest : List (Addr × Obj)}
   (B : Below A₀ base outer h₀) (F : Fr h₀ L s.heap m) (X : (hd.heap_39 w.params).In h₀) (T : Top p loose mean mg mb h₀) (hdp : dp + 40 < recursionLimit) (hun : un + 140 < cLine)
   (codeHd : CodeHd base 138 136) (ok : r.Ok) (okl : l.Ok r)
   (N : News h₀ L s.heap (r.led w vs ep ln t1 (l.led w us ep2 rest)))
   (r1 : ∀ p ∈ rest, p.1 ≠ r.sg) (r2 : ∀ p ∈ rest, p.1 ≠ r.d2) (r3 : ∀ p ∈ rest, p.1 ≠ l.pb)
   (hrd : m (Str.ofString "reader") = some (.ref r.x2)) (hwd : m (Str.ofString "word") = some (.str x tx))
   (hL : Lexes c0 ts []) (hz : c0.length ≤ 50000) (hx : x.cps.toList = (lexTok c0).1) (hch : Chars vs (lexTok c0).2) (hss : Strs us ss) (hsl : ss.length + ts.length ≤ 100000)
   (nxt : ∀ h' tk' m' us' ep' ep2' t1', Fr h₀ L h' m' → (∀ y, y ≠ Str.ofString "word" → m' y = m y) → Strs us' (ss ++ ts) →
     News h₀ L h' (r.led w [] ep' (ln + ((lexTok c0).2.count 10 : Int)) t1' (l.led w us' ep2' rest)) → R (.ok .next) { s with heap := h', toks := tk' }) :
   codeAny (model prog w) (ktrTop dp un gd (Str.ofString "_law_told") tdScope L 139 (.ref 138) (tdCells r l) outer) (.whileLoop rdTest rdBody [] (envX (Str.ofString "_law_told") tdScope L 139 (.ref 138) (tdCells r l))) R s := by
  conv in (occs := *) tdScope => all_goals whnf
  conv in rdTest => whnf
  conv in rdBody => whnf
  obtain ⟨⟨vsC, tq, hoc, hvc⟩, hoS, o0, o1, o2, o3, o4, o5, o6, o7⟩ := id ok
  obtain ⟨hoL, p0, p1, p2, p3⟩ := id okl
  refine while_loop (RdI r l w s h₀ L m rest (ss ++ ts) (ln + ((lexTok c0).2.count 10 : Int))) ?_ ts.length (.mk F hwd (fun _ _ => rfl) hL hz hx hch rfl hss rfl (by ktr_room) N)
  have hsl0 := hsl
  clear F N hwd hL hx hch hss hsl
  rintro n s' @⟨h, tk, mm, y, ty, c1, ts1, vs1, ep1, ln1, t11, us1, ss1, ep21, Fm, hwd, hmm, hL, hz1, hx, hch, hcnt, hss, hfin, hsl, Nm⟩
  have hrd1 : mm (Str.ofString "reader") = some (.ref r.x2) := by rw [hmm _ (by decide), hrd]
  have hsl2 := hss.length
  k_steps
  · rename ((_ : Str) != _) = true => hne
    unfold Hold
    refine wpAny_call ?_
    k_dflt (refine' get_tok (by k_asm) (by k_asm) (by k_asm) (by k_asm) rfl ?d ?u (by assumption) (by assumption) ?N ?zz (by assumption) ?r1 ?r2 ?_; (case N => first | k_asm | exact news_tail (by k_asm) | exact news_tail (news_tail (by k_asm))); (case d => ktr_room); (case u => ktr_room); (case zz => first | ktr_room | (simp only [app_list, List.length_append]; ktr_room) | exact Nat.le_trans (lexTok_len _) (by assumption)); (case r1 => (simp only [List.forall_mem_cons]; exact ⟨(by k_ne), (by k_ne), (by k_ne), (by k_ne), by assumption⟩)); (case r2 => (simp only [List.forall_mem_cons]; exact ⟨(by k_ne), (by k_ne), (by k_ne), (by k_ne), by assumption⟩)))
    intro x' tx' h' tk' vs' ep' ln' t1' F' hx' hc' hn' N'
    (try dsimp only)
    k_steps
    rename Fr h₀ L _ _ => FF
    rename News h₀ L _ _ => NN
    rename _ = (lexTok (lexTok c1).2).1 => hx2
    rename Chars _ (lexTok (lexTok c1).2).2 => hc2
    rename _ + _ = ln1 + _ => hn2
    have hne' : (lexTok c1).1 ≠ [] := by
      rw [← hx]
      intro e
      have : y = Str.ofString "" := by
        have e2 : (Str.ofString "").cps = #[] := by decide
        have e3 : y.cps = #[] := by simpa using e
        cases y; simp only at e3; rw [e3]; exact (show (⟨#[]⟩ : Str) = _ by rw [show (Str.ofString "") = ⟨#[]⟩ by decide])
      rw [this] at hne
      simp at hne
    cases hL with
    | stop h1 _ => exact absurd h1 hne'
    | @more _ _ t ts2 h1 h2 hL =>
      have hl := congrArg List.length hfin
      simp only [List.length_append, List.length_cons] at hl
      exact ⟨ts2.length, Nat.lt_succ_self _, .mk FF rfl (fun z hz => (by show (if z = Str.ofString "word" then _ else mm z) = m z; rw [if_neg hz]; exact hmm z hz)) hL (Nat.le_trans (lexTok_len _) hz1) hx2 hc2 (hn2.trans hcnt) hss.snoc (by rw [← hfin, List.append_assoc, hx, h1]; rfl) (by rw [List.length_append, List.length_singleton]; ktr_room) NN⟩
  · rename ((_ : Str) != _) = false => hne
    have hy : y = Str.ofString "" := by simpa using hne
    have hx1 : (lexTok c1).1 = [] := by rw [← hx, hy]; decide
    cases hL with
    | stop h1 h2 =>
      rw [h2] at hch hcnt
      cases hch
      rw [List.append_nil] at hfin
      have hc3 : ln1 = ln + ((lexTok c0).2.count 10 : Int) := by simpa using hcnt
      rw [← hc3, ← hfin] at nxt
      exact nxt _ _ _ _ _ _ _ Fm hmm hss Nm
    | more h1 h2 _ => exact absurd (h1.symm.trans hx1) h2
end
end Mine
end
section
open PySem PySem.W PyProof.Rows PySem.Calls
namespace Mine
theorem offKRead68 : True := by
  w_top off
  trivial
set_option maxRecDepth 100000
set_option maxHeartbeats 8000000
set_option linter.unusedVariables false

section
variable {w : World} {dp un : Nat} {gd : Option (List Code)} {outer : List Env} {A₀ : Around} {base h₀ : Heap} {L : Addr} {m : Str → Option Value}  {s : Shared} {p : Program} {loose : List Str} {mean : ExcName → Option Value} {mg mb : Str → Option Value} {Q : Flow → Shared → Prop} {E : Value → Shared → Prop}
noncomputable def kBody : List Stmt := stBody kFor
noncomputable abbrev ahead (d : Int) : List Nat := if d = 6 then [32, 34] else [32]

theorem k_read {r : RC} {l : LC} {d : Int} {td tx : Tok} {x : Str} {ts ss : List (List Nat)} {us : List Value} {ep ep2 : Nat} {ln : Int} {t1 : Tok} {rest : List (Addr × Obj)}
   (B : Below A₀ base outer h₀) (F : Fr h₀ L s.heap m) (X : (hd.heap_39 w.params).In h₀) (T : Top p loose mean mg mb h₀) (hdp : dp + 40 < recursionLimit) (hun : un + 140 < cLine)
   (codeHd : CodeHd base 138 136) (ok : r.Ok) (okl : l.Ok r)
   (N : News h₀ L s.heap (r.led w [] ep ln t1 (l.led w (.str x tx :: us) ep2 rest)))
   (r1 : ∀ p ∈ rest, p.1 ≠ r.sg) (r2 : ∀ p ∈ rest, p.1 ≠ r.d2) (r3 : ∀ p ∈ rest, p.1 ≠ l.pb)
   (hrd : m (Str.ofString "reader") = some (.ref r.x2)) (hdd : m (Str.ofString "deed") = some (.int d td)) (hd6 : d = 0 ∨ d = 6)
   (hxl : x.length ≤ 40000) (hL : Lexes (ahead d ++ x.cps.toList) ts []) (hss : Strs us ss) (hsl : ss.length + ts.length ≤ 100000)
   (nxt : ∀ h' tk' m' us' ep' ep2' t1', Fr h₀ L h' m' → (∀ y, y ≠ Str.ofString "word" → m' y = m y) → Strs us' (ss ++ ts) →
     News h₀ L h' (r.led w [] ep' (ln + (x.cps.toList.count 10 : Int)) t1' (l.led w us' ep2' rest)) → Q .next { s with heap := h', toks := tk' }) :
   wpAny (model prog w) (ktrTop dp un gd (Str.ofString "_law_told") tdScope L 139 (.ref 138) (tdCells r l) outer) (execs kBody (envX (Str.ofString "_law_told") tdScope L 139 (.ref 138) (tdCells r l))) Q E s := by
  conv in (occs := *) tdScope => all_goals whnf
  conv in kBody => whnf
  obtain ⟨⟨vsC, tq, hoc, hvc⟩, hoS, o0, o1, o2, o3, o4, o5, o6, o7⟩ := id ok
  obtain ⟨hoL, p0, p1, p2, p3⟩ := id okl
  have hul := hss.length
  have z1 : (Str.ofString " \"").length = 2 := by decide
  have z2 : (Str.ofString " ").length = 1 := by decide
  have z3 : (Str.ofString " \"").cps.toList.length = 2 := by decide
  have z4 : (Str.ofString " ").cps.toList.length = 1 := by decide
  have z5 : x.cps.toList.length = x.length := by simp [Str.length]
  k_steps
  unfold Hold
  refine in06 (News.isTup (by assumption) (.head _)) (by repeat constructor) (in_yes hd6) ?_
  rcases hd6 with rfl | rfl
  · k_steps
    unfold Hold
    k_dflt (refine' list_of_str rfl ?F7 ?N7 ?z7 ?_; (case F7 => k_asm); (case N7 => k_asm); (case z7 => ((try simp only [app_len]); ktr_room)))
    intro D' h' tk' ys' n' F' N' l1 hc'
    (try k_lt l1)
    k_steps
    unfold Hold
    k_dflt (refine' extendL ?F8 ?N8 ?b8 ?e8 ?z8 ?U8 ?_; (case F8 => k_asm); (case N8 => k_asm); (case b8 => k_mem); (case e8 => (rw [Chars.length (by assumption)]; simp only [app_list, List.length_append]; ktr_room)); (case z8 => (rw [Chars.length (by assumption)]; simp only [app_list, List.length_append]; ktr_room)); (case U8 => k_upd))
    intro h' F' N'
    k_steps
    unfold Hold
    refine wpAny_call ?_
    k_dflt (refine' get_tok (by k_asm) (by k_asm) (by k_asm) (by k_asm) rfl ?d ?u (by assumption) (by assumption) ?N ?zz (by assumption) ?r1 ?r2 ?_; (case N => first | k_asm | exact news_tail (by k_asm) | exact news_tail (news_tail (by k_asm))); (case d => ktr_room); (case u => ktr_room); (case zz => first | ktr_room | (simp only [app_list, List.length_append]; ktr_room) | exact Nat.le_trans (lexTok_len _) (by assumption)); (case r1 => (simp only [List.forall_mem_cons]; exact ⟨(by k_ne), (by k_ne), (by k_ne), (by k_ne), by assumption⟩)); (case r2 => (simp only [List.forall_mem_cons]; exact ⟨(by k_ne), (by k_ne), (by k_ne), (by k_ne), by assumption⟩)))
    intro x' tx' h' tk' vs' ep' ln' t1' F' hx' hc' hn' N'
    (try dsimp only)
    k_steps
    rename Fr h₀ L _ _ => FF
    rename News h₀ L _ _ => NN
    rename Chars _ (lexTok _).2 => hc2
    rename _ = (lexTok _).1 => hx2
    rename _ + _ = ln + _ => hn2
    have ec : (Str.ofString " " ++ x).cps.toList = [32] ++ x.cps.toList := by rw [app_list]; congr 1
    have hcl : ((Str.ofString " " ++ x).cps.toList.count 10 : Int) = (x.cps.toList.count 10 : Int) := by rw [ec, List.count_append]; simp
    refine read_while (c0 := (Str.ofString " " ++ x).cps.toList) (ts := ts) B FF X T hdp hun codeHd ok okl NN r1 r2 r3 hrd rfl (by rw [ec]; exact hL) (by simp only [app_list, List.length_append]; ktr_room) hx2 hc2 hss hsl ?_
    intro h' tk' m' us' ep' ep2' t1' F' hm' hs' N'
    dsimp only
    k_steps
    try dsimp only
    refine nxt _ _ m' us' ep' ep2' t1' F' (fun y hy => ?_) hs' ?_
    · rw [hm' y hy]; show (if y = Str.ofString "word" then _ else if y = Str.ofString "word" then _ else m y) = m y; rw [if_neg hy, if_neg hy]
    · rw [hn2, hcl] at N'; exact N'
  · k_steps
    unfold Hold
    k_dflt (refine' list_of_str rfl ?F7 ?N7 ?z7 ?_; (case F7 => k_asm); (case N7 => k_asm); (case z7 => ((try simp only [app_len]); ktr_room)))
    intro D' h' tk' ys' n' F' N' l1 hc'
    (try k_lt l1)
    k_steps
    unfold Hold
    k_dflt (refine' extendL ?F8 ?N8 ?b8 ?e8 ?z8 ?U8 ?_; (case F8 => k_asm); (case N8 => k_asm); (case b8 => k_mem); (case e8 => (rw [Chars.length (by assumption)]; simp only [app_list, List.length_append]; ktr_room)); (case z8 => (rw [Chars.length (by assumption)]; simp only [app_list, List.length_append]; ktr_room)); (case U8 => k_upd))
    intro h' F' N'
    k_steps
    unfold Hold
    refine wpAny_call ?_
    k_dflt (refine' get_tok (by k_asm) (by k_asm) (by k_asm) (by k_asm) rfl ?d ?u (by assumption) (by assumption) ?N ?zz (by assumption) ?r1 ?r2 ?_; (case N => first | k_asm | exact news_tail (by k_asm) | exact news_tail (news_tail (by k_asm))); (case d => ktr_room); (case u => ktr_room); (case zz => first | ktr_room | (simp only [app_list, List.length_append]; ktr_room) | exact Nat.le_trans (lexTok_len _) (by assumption)); (case r1 => (simp only [List.forall_mem_cons]; exact ⟨(by k_ne), (by k_ne), (by k_ne), (by k_ne), by assumption⟩)); (case r2 => (simp only [List.forall_mem_cons]; exact ⟨(by k_ne), (by k_ne), (by k_ne), (by k_ne), by assumption⟩)))
    intro x' tx' h' tk' vs' ep' ln' t1' F' hx' hc' hn' N'
    (try dsimp only)
    k_steps
    rename Fr h₀ L _ _ => FF
    rename News h₀ L _ _ => NN
    rename Chars _ (lexTok _).2 => hc2
    rename _ = (lexTok _).1 => hx2
    rename _ + _ = ln + _ => hn2
    have ec : (Str.ofString " \"" ++ x).cps.toList = [32, 34] ++ x.cps.toList := by rw [app_list]; congr 1
    have hcl : ((Str.ofString " \"" ++ x).cps.toList.count 10 : Int) = (x.cps.toList.count 10 : Int) := by rw [ec, List.count_append]; simp
    refine read_while (c0 := (Str.ofString " \"" ++ x).cps.toList) (ts := ts) B FF X T hdp hun codeHd ok okl NN r1 r2 r3 hrd rfl (by rw [ec]; exact hL) (by simp only [app_list, List.length_append]; ktr_room) hx2 hc2 hss hsl ?_
    intro h' tk' m' us' ep' ep2' t1' F' hm' hs' N'
    dsimp only
    k_steps
    try dsimp only
    refine nxt _ _ m' us' ep' ep2' t1' F' (fun y hy => ?_) hs' ?_
    · rw [hm' y hy]; show (if y = Str.ofString "word" then _ else if y = Str.ofString "word" then _ else m y) = m y; rw [if_neg hy, if_neg hy]
    · rw [hn2, hcl] at N'; exact N'
end
end Mine
end
section
open PySem PySem.W PyProof.Rows PySem.Calls
namespace Mine
theorem offKEsc68 : True := by
  w_top off
  trivial
set_option maxRecDepth 100000
set_option maxHeartbeats 8000000
set_option linter.unusedVariables false

section
variable {w : World} {dp un : Nat} {gd : Option (List Code)} {outer : List Env} {A₀ : Around} {base h₀ : Heap} {L : Addr} {m : Str → Option Value}  {s : Shared} {p : Program} {loose : List Str} {mean : ExcName → Option Value} {mg mb : Str → Option Value} {Q : Flow → Shared → Prop} {E : Value → Shared → Prop}
theorem k_esc {r : RC} {l : LC} {d : Int} {td tx : Tok} {x : Str} {ss : List (List Nat)} {us : List Value} {ep ep2 : Nat} {ln : Int} {t1 : Tok} {rest : List (Addr × Obj)}
   (B : Below A₀ base outer h₀) (F : Fr h₀ L s.heap m) (X : (hd.heap_39 w.params).In h₀) (T : Top p loose mean mg mb h₀) (hdp : dp + 40 < recursionLimit) (hun : un + 140 < cLine)
   (codeHd : CodeHd base 138 136) (ok : r.Ok) (okl : l.Ok r) (h1 : 0 ≤ s.toks)
   (N : News h₀ L s.heap (r.led w [] ep ln t1 (l.led w (.str x tx :: us) ep2 rest)))
   (r1 : ∀ p ∈ rest, p.1 ≠ r.sg) (r2 : ∀ p ∈ rest, p.1 ≠ r.d2) (r3 : ∀ p ∈ rest, p.1 ≠ l.pb)
   (hrd : m (Str.ofString "reader") = some (.ref r.x2)) (hdd : m (Str.ofString "deed") = some (.int d td)) (hd0 : d ≠ 0) (hd6 : d ≠ 6)
   (hxl : x.length ≤ 40000) (hss : Strs us ss) (hsl : ss.length ≤ 100000)
   (nxt : ∀ h' tk' m' us' ep2', Fr h₀ L h' m' → (∀ y, y ≠ Str.ofString "word" → m' y = m y) → Strs us' (ss ++ [escL (escOf d) x.cps.toList]) →
     News h₀ L h' (r.led w [] ep ln t1 (l.led w us' ep2' rest)) → Q .next { s with heap := h', toks := tk' }) :
   wpAny (model prog w) (ktrTop dp un gd (Str.ofString "_law_told") tdScope L 139 (.ref 138) (tdCells r l) outer) (execs kBody (envX (Str.ofString "_law_told") tdScope L 139 (.ref 138) (tdCells r l))) Q E s := by
  conv in (occs := *) tdScope => all_goals whnf
  conv in kBody => whnf
  obtain ⟨⟨vsC, tq, hoc, hvc⟩, hoS, o0, o1, o2, o3, o4, o5, o6, o7⟩ := id ok
  obtain ⟨hoL, p0, p1, p2, p3⟩ := id okl
  have hul := hss.length
  have z5 : x.cps.toList.length = x.length := by simp [Str.length]
  k_steps
  unfold Hold
  refine in06 (News.isTup (by assumption) (.head _)) (by repeat constructor) (in_no hd0 hd6) ?_
  k_steps
  unfold Hold
  k_dflt (refine' written_call ?B9 ?F9 ?X9 ?N9 ?T9 ?k9 ?d9 ?u9 ?h9 ?t9 ?_; (case B9 => k_asm); (case F9 => k_asm); (case X9 => k_asm); (case N9 => k_asm); (case T9 => k_asm); (case k9 => exact rfl); (case d9 => ktr_room); (case u9 => ktr_room); (case h9 => ((try dsimp only); first | assumption | ktr_room)); (case t9 => ktr_room))
  intro t' tt' h' tk' hq' he' F' N'
  k_steps
  rename News h₀ L _ _ => NN
  rename Fr h₀ L _ _ => FF
  rename _ = escL _ _ => he
  refine nxt _ _ _ _ _ FF (fun y hy => ?_) ?_ (news_tail NN)
  · show (if y = Str.ofString "word" then _ else m y) = m y
    rw [if_neg hy]
  · rw [← he]
    exact hss.snoc
end
end Mine
end
local macro_rules | `(tactic| walk_at "call type:range") => `(tactic| (k_here; k_dflt (refine' rangeL ?F ?N ?_; (case F => k_asm); (case N => k_asm)); intro D' h' t1' t2' F' N' l1; (try k_lt l1)))
local macro_rules | `(tactic| walk_at "pyIter ref") => `(tactic| (k_here; k_dflt (refine' iterR ?F ?N ?m ?z ?_; (case F => k_asm); (case N => k_asm); (case m => k_mem); (case z => ktr_room)); intro I' h' F' N' l2))
local macro_rules | `(tactic| walk_at "exec For Name Call cons nil") => `(tactic| (refine wpAny_For ?_))
section
open PySem PySem.W PyProof.Rows PySem.Calls
namespace Mine
theorem offKLoop68 : True := by
  w_top off
  trivial
set_option maxRecDepth 100000
set_option maxHeartbeats 8000000
set_option linter.unusedVariables false
set_option linter.unusedSimpArgs false

/-- what one deed makes of the texts, one after the other, and the line feeds read -/
inductive Outs (d : Int) : List (List Nat) → List (List Nat) → Int → Prop where
  | nil : Outs d [] [] 0
  | read {x : List Nat} {xs ts os : List (List Nat)} {k : Int} : (d = 0 ∨ d = 6) → x.length ≤ 40000 → Lexes (ahead d ++ x) ts [] → Outs d xs os k → Outs d (x :: xs) (ts ++ os) (k + (x.count 10 : Int))
  | esc {x : List Nat} {xs os : List (List Nat)} {k : Int} : d ≠ 0 → d ≠ 6 → x.length ≤ 40000 → Outs d xs os k → Outs d (x :: xs) (escL (escOf d) x :: os) k
section
variable {w : World} {dp un : Nat} {gd : Option (List Code)} {outer : List Env} {A₀ : Around} {base h₀ : Heap} {L : Addr} {m : Str → Option Value}  {s : Shared} {p : Program} {loose : List Str} {mean : ExcName → Option Value} {mg mb : Str → Option Value} {Q : Flow → Shared → Prop} {E : Value → Shared → Prop}

theorem led_rot {r : RC} {l : LC} {vs us : List Value} {ep ep2 : Nat} {ln : Int} {t1 : Tok} {rest : List (Addr × Obj)} {q p : Addr × Obj} : p ∈ r.led w vs ep ln t1 (l.led w us ep2 (q :: rest)) ↔ p ∈ q :: r.led w vs ep ln t1 (l.led w us ep2 rest) := by
  exact (List.perm_middle (a := q) (l₁ := r.led w vs ep ln t1 (l.led w us ep2 [])) (l₂ := rest)).mem_iff
theorem led_ne {r : RC} {l : LC} {I : Addr} {vs us : List Value} {ep ep2 : Nat} {ln : Int} {t1 : Tok} {rest : List (Addr × Obj)} (h : ∀ p ∈ r.led w vs ep ln t1 (l.led w us ep2 rest), @LT.lt Nat _ p.1 I) :
    (∀ {us : List Value} {ep ln t1 ep2}, ∀ p ∈ r.led w [] ep ln t1 (l.led w us ep2 rest), p.1 ≠ I) ∧ I ≠ r.sg ∧ I ≠ r.d2 ∧ I ≠ l.pb ∧ (∀ p ∈ rest, p.1 ≠ I) := by
  simp only [RC.led, LC.led, List.forall_mem_cons] at h
  obtain ⟨a1, a2, a3, a4, a5, a6, a7, a8, a9, a10, a11, a12, a13, a14⟩ := h
  refine ⟨?_, Nat.ne_of_gt a1, Nat.ne_of_gt a2, Nat.ne_of_gt a10, fun p hp => Nat.ne_of_lt (a14 p hp)⟩
  intro us ep ln t1 ep2
  simp only [RC.led, LC.led, List.forall_mem_cons]
  exact ⟨Nat.ne_of_lt a1, Nat.ne_of_lt a2, Nat.ne_of_lt a3, Nat.ne_of_lt a4, Nat.ne_of_lt a5, Nat.ne_of_lt a6, Nat.ne_of_lt a7, Nat.ne_of_lt a8, Nat.ne_of_lt a9, Nat.ne_of_lt a10, Nat.ne_of_lt a11, Nat.ne_of_lt a12, Nat.ne_of_lt a13, fun p hp => Nat.ne_of_lt (a14 p hp)⟩
inductive KI (r : RC) (l : LC) (w : World) (s : Shared) (g : Heap) (L : Addr) (m : Str → Option Value) (rest : List (Addr × Obj)) (d : Int) (I : Addr) (n0 : Nat) (fin : List (List Nat)) (lnf : Int) : Nat → Shared → Prop
  | mk {h : Heap} {tk : Nat} {mm : Str → Option Value} {xs dn os : List (List Nat)} {kk : Int} {us : List Value} {ep : Nat} {ln : Int} {t1 : Tok} {ep2 : Nat} :
    0 ≤ tk → Fr g L h mm → (∀ y, y ≠ Str.ofString "word" → y ≠ Str.ofString "k" → mm y = m y) → xs.length ≤ n0 → Strs us (xs ++ dn) → Outs d xs os kk → dn ++ os = fin → ln + kk = lnf →
    News g L h ((I, ritObj (n0 - xs.length) n0) :: r.led w [] ep ln t1 (l.led w us ep2 rest)) → KI r l w s g L m rest d I n0 fin lnf xs.length { s with heap := h, toks := tk }

theorem k_loop {r : RC} {l : LC} {d : Int} {td : Tok} {ss os : List (List Nat)} {kk : Int} {us : List Value} {ep ep2 : Nat} {ln : Int} {t1 : Tok} {rest : List (Addr × Obj)}
   (B : Below A₀ base outer h₀) (F : Fr h₀ L s.heap m) (X : (hd.heap_39 w.params).In h₀) (T : Top p loose mean mg mb h₀) (hdp : dp + 40 < recursionLimit) (hun : un + 140 < cLine)
   (codeHd : CodeHd base 138 136) (ok : r.Ok) (okl : l.Ok r) (h1 : 0 ≤ s.toks)
   (N : News h₀ L s.heap (r.led w [] ep ln t1 (l.led w us ep2 rest)))
   (r1 : ∀ p ∈ rest, p.1 ≠ r.sg) (r2 : ∀ p ∈ rest, p.1 ≠ r.d2) (r3 : ∀ p ∈ rest, p.1 ≠ l.pb)
   (hrd : m (Str.ofString "reader") = some (.ref r.x2)) (hdd : m (Str.ofString "deed") = some (.int d td))
   (hss : Strs us ss) (hO : Outs d ss os kk) (hsl : ss.length + os.length ≤ 50000)
   (nxt : ∀ h' tk' m' us' ep' ep2' t1', 0 ≤ tk' → Fr h₀ L h' m' → (∀ y, y ≠ Str.ofString "word" → y ≠ Str.ofString "k" → m' y = m y) → Strs us' os →
     News h₀ L h' (r.led w [] ep' (ln + kk) t1' (l.led w us' ep2' rest)) → Q .next { s with heap := h', toks := tk' }) :
   wpAny (model prog w) (ktrTop dp un gd (Str.ofString "_law_told") tdScope L 139 (.ref 138) (tdCells r l) outer) (exec kFor (envX (Str.ofString "_law_told") tdScope L 139 (.ref 138) (tdCells r l))) Q E s := by
  conv in (occs := *) tdScope => all_goals whnf
  conv in kFor => whnf
  obtain ⟨⟨vsC, tq, hoc, hvc⟩, hoS, o0, o1, o2, o3, o4, o5, o6, o7⟩ := id ok
  obtain ⟨hoL, p0, p1, p2, p3⟩ := id okl
  have hul := hss.length
  k_steps
  rename_i D h2 ta tb F2 N2 l1 I h3 F3 N3 l2
  obtain ⟨key, i1, i2, i3, kr⟩ := led_ne (fun p hp => l2 p (List.mem_cons_of_mem _ hp))
  refine for_loop (KI r l w s h₀ L m rest d I us.length os (ln + kk)) ?turn ss.length ?init (by intro _; rfl)
  case init =>
    refine .mk (dn := []) (ep := ep) (t1 := t1) (ep2 := ep2) ?_ F3 (fun _ _ _ => rfl) (by ktr_room) (by simpa using hss) hO rfl rfl ?_
    · dsimp only; ktr_room
    · rw [show us.length - ss.length = 0 by ktr_room]
      intro q hq
      refine N3 q ?_
      rcases List.mem_cons.mp hq with rfl | hq
      · exact List.mem_cons_self ..
      · exact List.mem_cons_of_mem _ (List.mem_cons_of_mem _ hq)
  clear F3 N3 F2 N2
  rintro n s' @⟨h, tk, mm, xs, dn, os', kk', us', ep', ln', t1', ep2', htk, Fm, hmm, hn0, hst, hout, hfin, hln, Nm⟩
  refine wpAny_with_toks (n := 0) htk ?_
  have hfl := congrArg List.length hfin
  have hsl' := hst.length
  simp only [List.length_append] at hfl hsl'
  cases hout with
  | nil =>
    refine rnext_done rfl Fm (by simpa using Nm) key ?_
    intro h' tk' F' N' hle
    dsimp only
    k_steps
    rw [List.append_nil] at hfin
    subst hfin
    rw [Int.add_zero] at hln
    subst hln
    exact nxt _ _ _ _ _ _ _ hle F' hmm hst N'
  | @read x xs ts os2 k2 hd hx hL hO =>
    cases hst with
    | @cons vs1 ss1 y ty hst =>
    replace hst : Strs vs1 (xs ++ dn) := hst
    refine rnext_item rfl Fm Nm key (by simp only [List.length_cons] at hn0 ⊢; ktr_room) ?_
    intro h' tk' t' F' N' hle
    dsimp only
    refine wpAny_assign_Name (storeX_L F' N' ?_)
    intro h2 F2 N2
    refine wpAny_with_toks (n := 0) (by show 0 ≤ tk' + 1; ktr_room) ?_
    have N3 : News h₀ L h2 (r.led w [] ep' ln' t1' (l.led w (.str y ty :: vs1) ep2' ((I, ritObj (us.length - (xs.length + 1) + 1) us.length) :: rest))) := fun q hq => N2 q (led_rot.mp hq)
    simp only [List.length_append] at hfl
    refine k_read (d := d) B F2 X T hdp hun codeHd ok okl N3 (List.forall_mem_cons.mpr ⟨i1, r1⟩) (List.forall_mem_cons.mpr ⟨i2, r2⟩) (List.forall_mem_cons.mpr ⟨i3, r3⟩) ((hmm _ (by decide) (by decide)).trans hrd) ((hmm _ (by decide) (by decide)).trans hdd) hd (by simpa [Str.length] using hx) hL hst (by simp only [List.length_append, List.length_cons] at hn0 ⊢; ktr_room) ?_
    intro h4 tk4 m4 us4 ep4 ep24 t14 F4 hm4 hs4 N4 hle4
    dsimp only
    refine ⟨xs.length, Nat.lt_succ_self _, .mk (dn := dn ++ ts) (ep := ep4) (t1 := t14) (ep2 := ep24) (ln := ln' + (y.cps.toList.count 10 : Int)) hle4 F4 (fun z hz1 hz2 => ?_) (by simp only [List.length_cons] at hn0; ktr_room) (by rw [← List.append_assoc]; exact hs4) hO (by rw [List.append_assoc]; exact hfin) (by rw [← hln]; ktr_room) ?_⟩
    · rw [hm4 z hz1]
      show (if z = Str.ofString "k" then _ else mm z) = m z
      rw [if_neg hz2]; exact hmm z hz1 hz2
    · rw [show us.length - xs.length = us.length - (xs.length + 1) + 1 by simp only [List.length_cons] at hn0; ktr_room]
      exact fun q hq => N4 q (led_rot.mpr hq)
  | @esc x xs os2 k2 hd0 hd6 hx hO =>
    cases hst with
    | @cons vs1 ss1 y ty hst =>
    replace hst : Strs vs1 (xs ++ dn) := hst
    refine rnext_item rfl Fm Nm key (by simp only [List.length_cons] at hn0 ⊢; ktr_room) ?_
    intro h' tk' t' F' N' hle
    dsimp only
    refine wpAny_assign_Name (storeX_L F' N' ?_)
    intro h2 F2 N2
    refine wpAny_with_toks (n := 0) (by show 0 ≤ tk' + 1; ktr_room) ?_
    have N3 : News h₀ L h2 (r.led w [] ep' ln' t1' (l.led w (.str y ty :: vs1) ep2' ((I, ritObj (us.length - (xs.length + 1) + 1) us.length) :: rest))) := fun q hq => N2 q (led_rot.mp hq)
    refine k_esc (d := d) B F2 X T hdp hun codeHd ok okl (by show 0 ≤ tk' + 1; ktr_room) N3 (List.forall_mem_cons.mpr ⟨i1, r1⟩) (List.forall_mem_cons.mpr ⟨i2, r2⟩) (List.forall_mem_cons.mpr ⟨i3, r3⟩) ((hmm _ (by decide) (by decide)).trans hrd) ((hmm _ (by decide) (by decide)).trans hdd) hd0 hd6 (by simpa [Str.length] using hx) hst (by simp only [List.length_append, List.length_cons] at hn0 hfl ⊢; ktr_room) ?_
    intro h4 tk4 m4 us4 ep24 F4 hm4 hs4 N4 hle4
    dsimp only
    refine ⟨xs.length, Nat.lt_succ_self _, .mk (dn := dn ++ [escL (escOf d) y.cps.toList]) (ep := ep') (t1 := t1') (ep2 := ep24) hle4 F4 (fun z hz1 hz2 => ?_) (by simp only [List.length_cons] at hn0; ktr_room) (by rw [← List.append_assoc]; exact hs4) hO (by rw [List.append_assoc]; exact hfin) hln ?_⟩
    · rw [hm4 z hz1]
      show (if z = Str.ofString "k" then _ else mm z) = m z
      rw [if_neg hz2]; exact hmm z hz1 hz2
    · rw [show us.length - xs.length = us.length - (xs.length + 1) + 1 by simp only [List.length_cons] at hn0; ktr_room]
      exact fun q hq => N4 q (led_rot.mpr hq)
end
end Mine
end
section
open PySem PySem.W PyProof.Rows PySem.Calls
namespace Mine
theorem offDeed68 : True := by
  w_top off
  trivial
set_option maxRecDepth 100000
set_option maxHeartbeats 8000000
set_option linter.unusedVariables false
set_option linter.unusedSimpArgs false

/-- the deeds, one after the other -/
inductive Steps : List Int → List (List Nat) → Int → List (List Nat) → Int → Prop where
  | nil {ss : List (List Nat)} {ln : Int} : Steps [] ss ln ss ln
  | cons {d : Int} {ds : List Int} {ss os fin : List (List Nat)} {ln k lnf : Int} : Outs d ss os k → ss.length + os.length ≤ 50000 → Steps ds os (ln + k) fin lnf → Steps (d :: ds) ss ln fin lnf
section
variable {w : World} {dp un : Nat} {gd : Option (List Code)} {outer : List Env} {A₀ : Around} {base h₀ : Heap} {L : Addr} {m : Str → Option Value}  {s : Shared} {p : Program} {loose : List Str} {mean : ExcName → Option Value} {mg mb : Str → Option Value} {Q : Flow → Shared → Prop} {E : Value → Shared → Prop}

inductive DI (r : RC) (l : LC) (w : World) (s : Shared) (g : Heap) (L : Addr) (m : Str → Option Value) (rest : List (Addr × Obj)) (dd I : Addr) (ds : List Int) (fin : List (List Nat)) (lnf : Int) : Nat → Shared → Prop
  | mk {n : Nat} {h : Heap} {tk : Nat} {mm : Str → Option Value} {oI : Obj} {i : Nat} {ss : List (List Nat)} {us : List Value} {ep : Nat} {ln : Int} {t1 : Tok} {ep2 : Nat} :
    0 ≤ tk → Fr g L h mm → (∀ y, y ≠ Str.ofString "word" → y ≠ Str.ofString "k" → y ≠ Str.ofString "deed" → mm y = m y) → LiIs oI dd i → n + i = ds.length → Strs us ss → Steps (ds.drop i) ss ln fin lnf →
    News g L h ((I, oI) :: r.led w [] ep ln t1 (l.led w us ep2 rest)) → DI r l w s g L m rest dd I ds fin lnf n { s with heap := h, toks := tk }

theorem deed_loop {r : RC} {l : LC} {dd : Addr} {dvs : List Value} {ds : List Int} {dep : Nat} {ss fin : List (List Nat)} {us : List Value} {ep ep2 : Nat} {ln lnf : Int} {t1 : Tok} {rest : List (Addr × Obj)}
   (B : Below A₀ base outer h₀) (F : Fr h₀ L s.heap m) (X : (hd.heap_39 w.params).In h₀) (T : Top p loose mean mg mb h₀) (hdp : dp + 40 < recursionLimit) (hun : un + 140 < cLine)
   (codeHd : CodeHd base 138 136) (ok : r.Ok) (okl : l.Ok r) (h1 : 0 ≤ s.toks)
   (N : News h₀ L s.heap (r.led w [] ep ln t1 (l.led w us ep2 rest)))
   (r1 : ∀ p ∈ rest, p.1 ≠ r.sg) (r2 : ∀ p ∈ rest, p.1 ≠ r.d2) (r3 : ∀ p ∈ rest, p.1 ≠ l.pb)
   (hmd : (dd, listOf dvs.toArray dep) ∈ rest) (hI : IntsAre dvs ds)
   (hrd : m (Str.ofString "reader") = some (.ref r.x2)) (hde : m (Str.ofString "deeds") = some (.ref dd))
   (hss : Strs us ss) (hS : Steps ds ss ln fin lnf)
   (nxt : ∀ h' tk' m' us' ep' ep2' t1', 0 ≤ tk' → Fr h₀ L h' m' → (∀ y, y ≠ Str.ofString "word" → y ≠ Str.ofString "k" → y ≠ Str.ofString "deed" → m' y = m y) → Strs us' fin →
     News h₀ L h' (r.led w [] ep' lnf t1' (l.led w us' ep2' rest)) → Q .next { s with heap := h', toks := tk' }) :
   wpAny (model prog w) (ktrTop dp un gd (Str.ofString "_law_told") tdScope L 139 (.ref 138) (tdCells r l) outer) (exec tdFor (envX (Str.ofString "_law_told") tdScope L 139 (.ref 138) (tdCells r l))) Q E s := by
  conv in (occs := *) tdScope => all_goals whnf
  conv in tdFor => whnf
  obtain ⟨⟨vsC, tq, hoc, hvc⟩, hoS, o0, o1, o2, o3, o4, o5, o6, o7⟩ := id ok
  obtain ⟨hoL, p0, p1, p2, p3⟩ := id okl
  have hul := hss.length
  have md : ∀ {us : List Value} {ep ln t1 ep2}, (dd, listOf dvs.toArray dep) ∈ r.led w [] ep ln t1 (l.led w us ep2 rest) := by
    intros; simp only [RC.led, LC.led, List.mem_cons]; simp only [hmd, or_true]
  refine wpAny_For ?_
  walk1
  refine iterL F N md ?_
  intro I h3 oI F3 N3 hoI l2
  obtain ⟨key, i1, i2, i3, _⟩ := led_ne l2
  refine for_loop (DI r l w s h₀ L m rest dd I ds fin lnf) ?turn ds.length ?init (by intro _; rfl)
  case init => exact .mk (i := 0) h1 F3 (fun _ _ _ _ => rfl) hoI rfl hss hS N3
  clear F3 N3 hoI
  rintro n s' @⟨h, tk, mm, oI2, i, ss2, us2, ep3, ln2, t12, ep22, htk, Fm, hmm, hli, hn, hst, hsteps, Nm⟩
  refine wpAny_with_toks (n := 0) htk ?_
  by_cases hi : i < ds.length
  · have hdi : ds.drop i = ds[i] :: ds.drop (i + 1) := by rw [List.drop_eq_getElem_cons hi]
    rw [hdi] at hsteps
    obtain ⟨tt, hv⟩ := hI.get i ds[i] (by simp [hi])
    refine lnext_item Fm Nm key hli md hv ?_
    intro h' oI' F' N' hli' hle
    dsimp only
    refine wpAny_assign_Name (storeX_L F' N' ?_)
    intro h2 F2 N2
    refine wpAny_with_toks (n := 0) (by show 0 ≤ tk + 1; ktr_room) ?_
    cases hsteps with
    | @cons _ _ _ os _ _ k _ hO hb hS' =>
    have N4 : News h₀ L h2 (r.led w [] ep3 ln2 t12 (l.led w us2 ep22 ((I, oI') :: rest))) := fun q hq => N2 q (led_rot.mp hq)
    refine wpAny_execs_cons ?_
    refine k_loop (d := ds[i]) (os := os) (kk := k) B F2 X T hdp hun codeHd ok okl (by show 0 ≤ tk + 1; ktr_room) N4 (List.forall_mem_cons.mpr ⟨i1, r1⟩) (List.forall_mem_cons.mpr ⟨i2, r2⟩) (List.forall_mem_cons.mpr ⟨i3, r3⟩) ((hmm _ (by decide) (by decide) (by decide)).trans hrd) rfl hst hO hb ?_
    intro h5 tk5 m5 us5 ep5 ep25 t15 hle5 F5 hm5 hs5 N5
    dsimp only
    refine wpAny_execs_nil ?_
    intro hle6
    dsimp only
    refine ⟨n - 1, by ktr_room, .mk (i := i + 1) (ep := ep5) (t1 := t15) (ep2 := ep25) (ln := ln2 + k) hle5 F5 (fun z hz1 hz2 hz3 => ?_) hli' (by ktr_room) hs5 hS' (fun q hq => N5 q (led_rot.mpr hq))⟩
    rw [hm5 z hz1 hz2]
    show (if z = Str.ofString "deed" then _ else mm z) = m z
    rw [if_neg hz3]; exact hmm z hz1 hz2 hz3
  · have hd0 : ds.drop i = [] := List.drop_eq_nil_of_le (by ktr_room)
    rw [hd0] at hsteps
    have hv : dvs[i]? = none := by
      have := hI.length
      exact List.getElem?_eq_none (by ktr_room)
    refine lnext_done rfl Fm Nm key hli md hv ?_
    intro h' F' N' hle
    dsimp only
    k_steps
    cases hsteps
    exact nxt _ _ _ _ _ _ _ hle F' hmm hst N'
end
end Mine
end
section
open PySem PySem.W PyProof.Rows PySem.Calls
namespace Mine
theorem offTRet68 : True := by
  w_top off
  trivial
set_option maxRecDepth 100000
set_option maxHeartbeats 8000000
set_option linter.unusedVariables false
set_option linter.unusedSimpArgs false


noncomputable def tdRet : List Stmt := [stAt (stBody tdDef) 7]
noncomputable def tdComp : Expr := exPart (stVal (stAt (stBody tdDef) 7))
noncomputable def tdElt : Expr := exPart tdComp
noncomputable def tdCScope : Scope := exScope tdComp
section
variable {w : World} {dp un : Nat} {gd : Option (List Code)} {outer : List Env} {A₀ : Around} {base h₀ : Heap} {L : Addr} {m : Str → Option Value}  {s : Shared} {p : Program} {loose : List Str} {mean : ExcName → Option Value} {mg mb : Str → Option Value} {Q : Flow → Shared → Prop} {E : Value → Shared → Prop}
end
local macro_rules | `(tactic| walk_at "eval Name") => `(tactic| (k_here; k_dflt (refine' comp_cell ?N ?c ?m ?d ?_ rfl rfl (by decide); (case N => k_asm); (case c => rfl); (case m => k_mem); (case d => k_asm); k_whole)))
section
variable {w : World} {dp un : Nat} {gd : Option (List Code)} {outer : List Env} {A₀ : Around} {base h₀ : Heap} {L : Addr} {m : Str → Option Value}  {s : Shared} {p : Program} {loose : List Str} {mean : ExcName → Option Value} {mg mb : Str → Option Value} {Q : Flow → Shared → Prop} {E : Value → Shared → Prop}

theorem comp_pop {r : RC} {l : LC} {P : Nat → Value → Prop} {Fin : List Value → List (Addr × Obj) → Prop} {rest : List (Addr × Obj)} {ep : Nat} {ln : Int} {t1 : Tok}
   (B : Below A₀ base outer h₀) (X : (hd.heap_39 w.params).In h₀) (T : Top p loose mean mg mb h₀) (hdp : dp + 40 < recursionLimit) (hun : un + 140 < cLine)
   (codeHd : CodeHd base 138 136) (ok : r.Ok) (okl : l.Ok r) (r3 : ∀ p ∈ rest, p.1 ≠ l.pb) : ∀ (us : List Value) (ss : List (List Nat)) (i ep2 : Nat) (ys : List Value), Strs us ss → us.length ≤ 100000 →
     (∀ e, Fin (ys ++ us) (r.led w [] ep ln t1 (l.led w [] e rest))) →
     LCg.CompRest prog w (ktrTop dp un gd (Str.ofString "_law_told") tdScope L 139 (.ref 138) (tdCells r l) outer) h₀ L m (envX (Str.ofString "_law_told") tdScope L 139 (.ref 138) (tdCells r l)) tdElt (Str.ofString "k") tdCScope [(Str.ofString "line", l.cL)] s (fun _ => True) P Fin us.length i ys (r.led w [] ep ln t1 (l.led w us ep2 rest)) := by
  obtain ⟨⟨vsC, tq, hoc, hvc⟩, hoS, o0, o1, o2, o3, o4, o5, o6, o7⟩ := id ok
  obtain ⟨hoL, p0, p1, p2, p3⟩ := id okl
  intro us
  induction us with
  | nil =>
    intro ss i ep2 ys hs hl hF
    have := hF ep2
    rw [List.append_nil] at this
    exact LCg.CompRest.zero this
  | cons u us ih =>
    intro ss i ep2 ys hs hl hF
    cases hs with
    | @cons _ ss x t hs =>
    simp only [List.length_cons] at hl
    refine LCg.CompRest.succ ?_
    intro v I oI C oC D m2 h tk E' hP hC hx F N off hne
    have ih' := ih ss (i + 1) (ep2 + 1) (ys ++ [.str x t]) hs (by ktr_room) (fun e => by have := hF e; rw [List.append_assoc]; exact this)
    have off' := off
    dsimp only [RC.led, LC.led, LCg.Off3] at off
    obtain ⟨⟨a1, b1, c1⟩, ⟨a2, b2, c2⟩, ⟨a3, b3, c3⟩, ⟨a4, b4, c4⟩, ⟨a5, b5, c5⟩, ⟨a6, b6, c6⟩, ⟨a7, b7, c7⟩, ⟨a8, b8, c8⟩, ⟨a9, b9, c9⟩, ⟨a10, b10, c10⟩, ⟨a11, b11, c11⟩, ⟨a12, b12, c12⟩, ⟨a13, b13, c13⟩, offr⟩ := off
    conv in tdElt => whnf
    conv in (occs := *) tdScope => all_goals whnf
    conv in (occs := *) tdCScope => all_goals whnf
    k_steps
    rename News h₀ L _ _ => NN
    rename Fr h₀ L _ _ => FF
    refine LCg.CompEnd.intro FF NN (r.led w [] ep ln t1 (l.led w us (ep2 + 1) rest)) (fun _ h => h) ?_ trivial ih'
    exact ⟨⟨a1, b1, c1⟩, ⟨a2, b2, c2⟩, ⟨a3, b3, c3⟩, ⟨a4, b4, c4⟩, ⟨a5, b5, c5⟩, ⟨a6, b6, c6⟩, ⟨a7, b7, c7⟩, ⟨a8, b8, c8⟩, ⟨a9, b9, c9⟩, ⟨a10, b10, c10⟩, ⟨a11, b11, c11⟩, ⟨a12, b12, c12⟩, ⟨a13, b13, c13⟩, offr⟩

end
local macro_rules | `(tactic| walk_at "eval ListComp") => `(tactic| (refine hold ?_))
local macro_rules | `(tactic| walk_at "CompSrc") => `(tactic| (refine hold ?_))
section
variable {w : World} {dp un : Nat} {gd : Option (List Code)} {outer : List Env} {A₀ : Around} {base h₀ : Heap} {L : Addr} {m : Str → Option Value}  {s : Shared} {p : Program} {loose : List Str} {mean : ExcName → Option Value} {mg mb : Str → Option Value} {Q : Flow → Shared → Prop} {E : Value → Shared → Prop}
noncomputable abbrev tupObj (vs : List Value) : Obj := { cls := .type "tuple", data := .seq vs.toArray }
theorem told_ret {r : RC} {l : LC} {fin : List (List Nat)} {us : List Value} {ep ep2 : Nat} {ln : Int} {t1 : Tok} {rest : List (Addr × Obj)}
   (B : Below A₀ base outer h₀) (F : Fr h₀ L s.heap m) (X : (hd.heap_39 w.params).In h₀) (T : Top p loose mean mg mb h₀) (hdp : dp + 40 < recursionLimit) (hun : un + 140 < cLine)
   (codeHd : CodeHd base 138 136) (ok : r.Ok) (okl : l.Ok r)
   (N : News h₀ L s.heap (r.led w [] ep ln t1 (l.led w us ep2 rest))) (r3 : ∀ p ∈ rest, p.1 ≠ l.pb)
   (hrd : m (Str.ofString "reader") = some (.ref r.x2)) (hss : Strs us fin) (hl : us.length ≤ 100000)
   (nxt : ∀ tp D h' tk', Fr h₀ L h' m → News h₀ L h' ((tp, tupObj [.ref D, .int ln t1]) :: (D, LCg.lst us) :: rest) → Q (.ret (.ref tp)) { s with heap := h', toks := tk' }) :
   wpAny (model prog w) (ktrTop dp un gd (Str.ofString "_law_told") tdScope L 139 (.ref 138) (tdCells r l) outer) (execs tdRet (envX (Str.ofString "_law_told") tdScope L 139 (.ref 138) (tdCells r l))) Q E s := by
  conv in (occs := *) tdScope => all_goals whnf
  obtain ⟨⟨vsC, tq, hoc, hvc⟩, hoS, o0, o1, o2, o3, o4, o5, o6, o7⟩ := id ok
  obtain ⟨hoL, p0, p1, p2, p3⟩ := id okl
  unfold tdRet
  conv in stAt (stBody tdDef) 7 => whnf
  k_steps
  unfold Hold
  refine LCg.ListComp_U (h₀ := h₀) (L := L) (m := m) (cl := [(Str.ofString "line", l.cL)]) F rfl (by decide) rfl (by decide) rfl ?_
  k_steps
  unfold Hold
  rename_i D hh ta tb F2 N2 l1
  have hsm : Builtin.Range.small 0 (us.length : Int) 1 = true := by
    unfold Builtin.Range.small
    rw [range_size]
    simp [Builtin.Range.rangeFitsLong]
    ktr_room
  refine LCg.CompSrc.range rfl F2 (news_tail N2) (N2 _ (List.mem_cons_self ..)).1 hsm (range_size _) (by simp only [sizeLine]; ktr_room) ?_
  intro g
  refine comp_pop B X T hdp hun codeHd ok okl r3 us fin 0 ep2 [] hss hl ?_
  intro e D2 h2 tk2 F3 N3 off3
  dsimp only
  k_steps
  refine nameX_L F3 hrd ?_
  k_steps
  rename News h₀ L _ _ => NN
  rename Fr h₀ L _ _ => FF
  refine nxt _ D2 _ _ FF ?_
  intro q hq
  refine NN q ?_
  rcases List.mem_cons.mp hq with rfl | hq
  · exact List.mem_cons_self ..
  · rcases List.mem_cons.mp hq with rfl | hq
    · exact List.mem_cons_of_mem _ (List.mem_cons_self ..)
    · repeat (first | exact hq | refine List.mem_cons_of_mem _ ?_)
end
end Mine
end
end
section
open PySem.Calls Mine
local macro_rules | `(tactic| walk_at "exec For Name Name cons nil") => `(tactic| (refine hold ?_))
section
open PySem PySem.W PyProof.Rows PySem.Calls
namespace Mine
theorem offTold68 : True := by
  w_top off
  trivial
set_option maxRecDepth 100000
set_option maxHeartbeats 8000000
set_option linter.unusedVariables false
/-- the ledger behind the making of the tape, the reader and the line, laid in the loops' order -/
theorem pack {w : World} {g h : Heap} {L : Addr} {pb xl dl prb x2 d2 f c tpb x1 d1 sg cS cL : Addr} {t : Str} {tk : Tok} {oc oS oL : Obj} {qual : Str} {pm ctv : Value} {ps : Array Value} {e2 : Nat} {rest0 : List (Addr × Obj)}
    {u0 u1 u2 u3 u4 u5 t0 t1 t2 t3 t4 t5 t6 t7 t8 t9 t10 t11 t12 : Tok}
    (N : News g L h ((pb, listOf #[.str t tk] e2) :: (xl, instObj 52 dl) :: (dl, dictOf [key w "lineno" u0 (.int 1 u1), key w "instream" u2 .none, key w "whitespace" u3 (.str (Str.ofString "\n\t\x0d ") u4), key w "pushback" u5 (.ref pb)] 4) :: (prb, listOf #[] 0) :: (x2, instObj 52 d2) ::
      (d2, dictOf [key w "lineno" t0 (.int 1 t1), key w "instream" t2 (.ref x1), key w "whitespace" t3 (.str (Str.ofString "\n\t\x0d ") t4), key w "pushback" t5 (.ref prb)] 4) ::
      (f, kla_obj (Str.ofString "<lambda>") qual lamArgs lamBody lamScope [(Str.ofString "signs", cS)] pm c ctv) :: (c, oc) :: (tpb, listOf #[] 0) :: (x1, instObj 52 d1) ::
      (d1, dictOf [key w "lineno" t6 (.int 1 t7), key w "instream" t8 .none, key w "whitespace" t9 (.str (Str.ofString "\n\t\x0d ") t10), key w "pushback" t11 (.ref tpb), key w "read" t12 (.ref f)] 5) :: (sg, listOf #[] 0) :: (cS, oS) :: (cL, oL) :: (136, tabObj ps) :: rest0)) :
    News g L h (RC.led ⟨sg, d2, x2, prb, x1, d1, f, c, cS, tpb, oc, oS, qual, pm, ctv, t0, t2, t3, t4, t5, t6, t7, t8, t9, t10, t11, t12⟩ w [] 0 1 t1
      (LC.led ⟨xl, dl, pb, cL, oL, u0, u1, u2, u3, u4, u5⟩ w [.str t tk] e2 ((tpb, listOf #[] 0) :: (136, tabObj ps) :: rest0))) := by
  exact njoin (nhd (ntl (ntl (ntl (ntl (ntl (ntl (ntl (ntl (ntl (ntl (ntl N)))))))))))) (njoin (nhd (ntl (ntl (ntl (ntl (ntl N)))))) (njoin (nhd (ntl (ntl (ntl (ntl N))))) (njoin (nhd (ntl (ntl (ntl N)))) (njoin (nhd (ntl (ntl (ntl (ntl (ntl (ntl (ntl (ntl (ntl N)))))))))) (njoin (nhd (ntl (ntl (ntl (ntl (ntl (ntl (ntl (ntl (ntl (ntl N))))))))))) (njoin (nhd (ntl (ntl (ntl (ntl (ntl (ntl N))))))) (njoin (nhd (ntl (ntl (ntl (ntl (ntl (ntl (ntl N)))))))) (njoin (nhd (ntl (ntl (ntl (ntl (ntl (ntl (ntl (ntl (ntl (ntl (ntl (ntl N))))))))))))) (njoin (nhd N) (njoin (nhd (ntl N)) (njoin (nhd (ntl (ntl N))) (njoin (nhd (ntl (ntl (ntl (ntl (ntl (ntl (ntl (ntl (ntl (ntl (ntl (ntl (ntl N)))))))))))))) (njoin (nhd (ntl (ntl (ntl (ntl (ntl (ntl (ntl (ntl N))))))))) (njoin (nhd (ntl (ntl (ntl (ntl (ntl (ntl (ntl (ntl (ntl (ntl (ntl (ntl (ntl (ntl N))))))))))))))) (ntl (ntl (ntl (ntl (ntl (ntl (ntl (ntl (ntl (ntl (ntl (ntl (ntl (ntl (ntl N)))))))))))))))))))))))))))))
theorem drop3 {g h : Heap} {L : Addr} {a b c : Addr × Obj} {rest : List (Addr × Obj)} (N : News g L h (a :: b :: c :: rest)) : News g L h (a :: b :: rest) := (njoin (nhd N) (njoin (nhd (ntl N)) (ntl (ntl (ntl N)))))
theorem okOf {r : RC} {l : LC} {w : World} {g h : Heap} {L : Addr} {vs us : List Value} {e e2 : Nat} {ln : Int} {t1 : Tok} {rest : List (Addr × Obj)} (_ : News g L h (r.led w vs e ln t1 (l.led w us e2 rest))) (ok : r.Ok) : r.Ok := ok
theorem oklOf {r : RC} {l : LC} {w : World} {g h : Heap} {L : Addr} {vs us : List Value} {e e2 : Nat} {ln : Int} {t1 : Tok} {rest : List (Addr × Obj)} (_ : News g L h (r.led w vs e ln t1 (l.led w us e2 rest))) (ok : l.Ok r) : l.Ok r := ok
theorem r3Of {r : RC} {l : LC} {w : World} {g h : Heap} {L : Addr} {vs us : List Value} {e e2 : Nat} {ln : Int} {t1 : Tok} {rest : List (Addr × Obj)} (_ : News g L h (r.led w vs e ln t1 (l.led w us e2 rest))) (ok : ∀ p ∈ rest, p.1 ≠ l.pb) : ∀ p ∈ rest, p.1 ≠ l.pb := ok
section
variable {w : World} {dp un : Nat} {gd : Option (List Code)} {cn : Str} {cs : Scope} {a : Addr} {ccd : Value} {cl : List (Str × Addr)} {outer : List Env} {A₀ : Around} {base h₀ : Heap} {L : Addr} {m : Str → Option Value}  {s : Shared} {p : Program} {loose : List Str} {mean : ExcName → Option Value} {mg mb : Str → Option Value} {Q E : Value → Shared → Prop}
theorem lexer_call {fp : Value} {news : List (Addr × Obj)}
   (B : Below A₀ base outer h₀) (F : Fr h₀ L s.heap m) (X : (hd.heap_39 w.params).In h₀) (T : Top p loose mean mg mb h₀) (hk : cs.kind = .function) (hdp : dp + 10 < recursionLimit) (hun : un + 60 < cLine)
   (N : News h₀ L s.heap news)
   (ret : ∀ d x pb u0 u1 u2 u3 u4 u5 h' tk', Fr h₀ L h' m → News h₀ L h' ((pb, listOf #[] 0) :: (x, instObj 52 d) :: (d, dictOf [key w "lineno" u0 (.int 1 u1), key w "instream" u2 fp, key w "whitespace" u3 (.str (Str.ofString "\n\t\x0d ") u4), key w "pushback" u5 (.ref pb)] 4) :: news) →
     (∀ p ∈ news, @LT.lt Nat _ p.1 d) → @LT.lt Nat _ d x → @LT.lt Nat _ x pb → Q (.ref x) { s with heap := h', toks := tk' }) :
   wpAny (model prog w) (ktrTop dp un gd cn cs L a ccd cl outer) (call (.ref 52) [fp]) Q E s := by
  k_dflt (refine' call_cls ?k1 ?k2 ?k3 ?k4 ?k5 ?k6 ?_; (case k1 => k_asm); (case k2 => k_asm); (case k3 => k_asm); (case k4 => k_is); (case k5 => k_is); (case k6 => k_is); k_whole; intro x' d' h' F' N' l1 l2; (try k_lt l1); (try k_lt2 l2))
  k_dflt ktr_enter
  k_steps
  rename News h₀ _ _ _ => NN
  rename Fr h₀ _ _ _ => FF
  exact ret _ _ _ _ _ _ _ _ _ _ _ FF NN (by assumption) (by assumption) (by rename _ ∧ _ => q; exact q.1)
end
section
variable {w : World} {dp un : Nat} {gd : Option (List Code)} {cn : Str} {cs : Scope} {a : Addr} {ccd : Value} {cl : List (Str × Addr)} {outer : List Env} {A₀ : Around} {base h₀ : Heap} {L : Addr} {m : Str → Option Value}  {s : Shared} {p : Program} {loose : List Str} {mean : ExcName → Option Value} {mg mb : Str → Option Value} {Q E : Value → Shared → Prop}
theorem told_call {t : Str} {tk : Tok} {dd : Addr} {dvs : List Value} {ds : List Int} {dep : Nat} {fin : List (List Nat)} {lnf : Int} {rest0 : List (Addr × Obj)}
   (B : Below A₀ base outer h₀) (F : Fr h₀ L s.heap m) (X : (hd.heap_39 w.params).In h₀) (T : Top p loose mean mg mb h₀) (hk : cs.kind = .function) (hdp : dp + 50 < recursionLimit) (hun : un + 160 < cLine)
   (codeHd : CodeHd base 138 136) 
   (N : News h₀ L s.heap ((136, tabObj #[]) :: rest0)) (hne : ∀ p ∈ rest0, p.1 ≠ 136) (hmd : (dd, listOf dvs.toArray dep) ∈ rest0) (hI : IntsAre dvs ds) (hS : Steps ds [t.cps.toList] 1 fin lnf)
   (hfl : fin.length ≤ 100000)
   (ret : ∀ tp D us t1 ps h' tk', Fr h₀ L h' m → Strs us fin → News h₀ L h' ((tp, tupObj [.ref D, .int lnf t1]) :: (D, LCg.lst us) :: (136, tabObj ps) :: rest0) → Q (.ref tp) { s with heap := h', toks := tk' }) :
   wpAny (model prog w) (ktrTop dp un gd cn cs L a ccd cl outer) (call (.ref 139) [.str t tk, .ref dd]) Q E s := by
  refine wpAny_call ?_
  k_dflt (refine' code_defC ?k1 ?k2 ?k3 ?k4 ?k5 ?kA ?kF ?kK ?k6 ?k7 ?k8 ?k9 ?kB ?kD ?_ ?c2 ?c3 ?c4; (case kA => exact rfl); (case kF => exact rfl); (case kK => assumption); (case k1 => k_asm); (case k2 => k_asm); (case k3 => k_asm); (case k4 => k_asm); (case k5 => k_asm); (case k6 => k_is); (case k7 => k_is); (case k8 => k_room); (case k9 => first | exact BindsTo.of_eq rfl | exact binds_K (by k_in) rfl (by k_is) rfl rfl rfl | fail "k_enter: no rule for these arguments"); (case kB => exact rfl); (case kD => decide +kernel); (case c2 => exact rfl); (case c3 => exact rfl); (case c4 => exact rfl); k_whole; intro g' L' h' tk' cells' FG' F' N' Y' B' X' T' l1; (try k_lt l1); k_cells Y'; (try simp only [List.cons_append, List.nil_append] at N'); (try dsimp only); (try k_lift B'); (try k_fold))
  rename _ ∧ AllLt _ rest0 => hall
  have hrest := allLt_all hall.2
  k_steps
  unfold Hold
  k_dflt (refine lexer_call (by k_asm) (by k_asm) (by k_asm) (by k_asm) rfl (by ktr_room) (by ktr_room) (by k_asm) ?_)
  intro d' x' p' u0 u1 u2 u3 u4 u5 h' tk' F' N' l1 l2 l3
  (try k_lt l1)
  k_steps
  unfold Hold
  k_dflt (refine lexer_call (by k_asm) (by k_asm) (by k_asm) (by k_asm) rfl (by ktr_room) (by ktr_room) (by k_asm) ?_)
  intro d' x' p' u0 u1 u2 u3 u4 u5 h' tk' F' N' l1 l2 l3
  (try k_lt l1)
  k_steps
  unfold Hold
  k_dflt (refine lexer_call (by k_asm) (by k_asm) (by k_asm) (by k_asm) rfl (by ktr_room) (by ktr_room) (by k_asm) ?_)
  intro d' x' p' u0 u1 u2 u3 u4 u5 h' tk' F' N' l1 l2 l3
  (try k_lt l1)
  k_steps
  rename News _ _ _ _ => NN
  rename Fr _ _ _ _ => FF
  have N2 := pack NN
  unfold Hold
  have hr2 : ∀ p ∈ rest0, @LT.lt Nat _ p.1 _ := hrest
  have OK := okOf N2 ⟨⟨_, _, by assumption, by assumption⟩, by assumption, by dsimp only; ktr_room, by dsimp only; ktr_room, by dsimp only; ktr_room, by dsimp only; ktr_room, by dsimp only; ktr_room, by dsimp only; ktr_room, by dsimp only; ktr_room, by dsimp only; ktr_room⟩
  have OKL := oklOf N2 ⟨by assumption, by dsimp only; ktr_room, by dsimp only; ktr_room, by dsimp only; ktr_room, by dsimp only; ktr_room⟩
  have R3 := r3Of N2 (List.forall_mem_cons.mpr ⟨(by k_ne), List.forall_mem_cons.mpr ⟨(by k_ne), allLt_ne hr2 (by dsimp only; ktr_room)⟩⟩)
  refine deed_loop (dd := dd) (dvs := dvs) (ds := ds) (dep := dep) (fin := fin) (lnf := lnf) (ss := [t.cps.toList]) (by assumption) FF (by assumption) (by assumption) ?d ?u codeHd ?ok ?okl (Nat.zero_le _) N2 ?r1 ?r2 ?r3 ?md hI ?rd ?de (.cons .nil) hS ?_
  case d => ktr_room
  case u => ktr_room
  case ok => exact OK
  case okl => exact OKL
  case r1 => exact List.forall_mem_cons.mpr ⟨(by k_ne), List.forall_mem_cons.mpr ⟨(by k_ne), allLt_ne hr2 (by dsimp only; ktr_room)⟩⟩
  case r2 => exact List.forall_mem_cons.mpr ⟨(by k_ne), List.forall_mem_cons.mpr ⟨(by k_ne), allLt_ne hr2 (by dsimp only; ktr_room)⟩⟩
  case r3 => exact R3
  case md => exact List.mem_cons_of_mem _ (List.mem_cons_of_mem _ hmd)
  case rd => rfl
  case de => rfl
  intro h' tk' m' us' ep' ep2' t1' _ F' hm' hs' N'
  dsimp only
  have hul := hs'.length
  refine told_ret (by assumption) F' (by assumption) (by assumption) ?d2 ?u2 codeHd OK OKL N' R3 ((hm' _ (by decide) (by decide) (by decide)).trans rfl) hs' (by ktr_room) ?_
  case d2 => ktr_room
  case u2 => ktr_room
  intro tp D h2 tk2 F2 N2
  dsimp only
  refine leaveK_ F2 N2 ?_
  intro kF kN
  exact ret tp D us' t1' _ _ _ kF hs' (drop3 kN)
end
end Mine
end
local macro_rules | `(tactic| walk_at "eval Name") => `(tactic| (k_here; k_dflt (refine' nameX_L ?F ?v ?_ ?a ?b; (case F => k_asm); (case a => rfl); (case b => rfl); (case v => (first | with_reducible assumption | ((try dsimp only); (repeat rw [if_neg (by decide)]); with_reducible assumption))); k_whole)))
local macro_rules | `(tactic| k_mem) => `(tactic| first | with_reducible assumption | exact List.Mem.head _ | (refine' List.mem_cons_of_mem _ ?_; k_mem))
local macro_rules | `(tactic| walk_at "eval Name") => `(tactic| (k_here; (with_reducible show wpAny _ _ (eval (Expr.Name _ _) (compEnvC _ _ _ _)) _ _ _); (first
  | (refine' LCgL.ld_own ?N ?hm ?hC ?hx ?_ ?a ?b ?c; (case N => with_reducible assumption); (case hm => k_mem); (case hC => with_reducible assumption); (case hx => with_reducible assumption); (case a => rfl); (case b => rfl); (case c => decide))
  | (k_dflt (refine' comp_cell ?N ?c ?m ?d ?_ rfl rfl (by decide); (case N => with_reducible assumption); (case c => rfl); (case m => k_mem); (case d => with_reducible assumption))))))
local macro_rules | `(tactic| walk_at "binaryOp Pow int int") => `(tactic| (k_here; k_dflt (refine pow2b (by assumption) (by ktr_room) ?_)))
local macro_rules | `(tactic| walk_at "binaryOp FloorDiv int int") => `(tactic| (k_here; k_dflt (refine divB (by assumption) (by assumption) (by assumption) ?_)))
local macro_rules | `(tactic| walk_at "binaryOp Mult str int") => `(tactic| (k_here; k_dflt (refine mulB (by assumption) (by ktr_room) ?_); intro _ _))
local macro_rules | `(tactic| walk_at "binaryOp Add str str") => `(tactic| (k_here; k_dflt (refine addS (by (simp only [app_len', runS_len]); ktr_room) ?_); intro _ _))
local macro_rules | `(tactic| walk_at "eval ListComp") => `(tactic| (refine hold ?_))
section
open PySem PySem.W PyProof.Rows PySem.Calls
namespace Mine
theorem offText68 : True := by
  w_top off
  trivial
set_option maxRecDepth 100000
set_option maxHeartbeats 8000000
set_option linter.unusedVariables false
structure Itm where
  (n : Int)
  (s l w : Str)
inductive ItemIn (N : List (Addr × Obj)) (v : Value) (it : Itm) : Prop
  | mk (q : Addr) (tn ts tl tw : Tok) (e : Nat) (hv : v = .ref q) (hm : (q, listOf #[.int it.n tn, .str it.s ts, .str it.l tl, .str it.w tw] e) ∈ N) : ItemIn N v it
inductive ItemsIn (N : List (Addr × Obj)) : List Value → List Itm → Prop
  | nil : ItemsIn N [] []
  | cons {v it vs its} : ItemIn N v it → ItemsIn N vs its → ItemsIn N (v :: vs) (it :: its)
inductive TextIn (N : List (Addr × Obj)) (v : Value) (its : List Itm) : Prop
  | mk (q : Addr) (vs : List Value) (e : Nat) (hv : v = .ref q) (hm : (q, listOf vs.toArray e) ∈ N) (hi : ItemsIn N vs its) : TextIn N v its

noncomputable def txDef : Stmt := topAt 11
noncomputable def txScope : Scope := stScope txDef
noncomputable def txComp : Expr := exPart (stVal (stAt (stBody txDef) 0))
noncomputable def txCScope : Scope := exScope txComp
theorem drop_cons {α : Type} {us r : List α} {i : Nat} {v : α} (h : us.drop i = v :: r) : us[i]? = some v ∧ us.drop (i + 1) = r := by
  constructor
  · have := congrArg (fun l => l[0]?) h
    simpa using this
  · have := congrArg List.tail h
    simpa using this
theorem drop_nil {α : Type} {us : List α} {i : Nat} (h : us.drop i = []) : us[i]? = none := by
  simpa using h
section
variable {w : World} {dp un : Nat} {gd : Option (List Code)} {cn : Str} {cs : Scope} {a : Addr} {ccd : Value} {cl : List (Str × Addr)} {outer : List Env} {A₀ : Around} {base h₀ : Heap} {L : Addr} {m : Str → Option Value}  {p : Program} {loose : List Str} {mean : ExcName → Option Value} {mg mb : Str → Option Value} {Q E : Value → Shared → Prop}
noncomputable def okN (it : Itm) : Prop := 0 ≤ it.n ∧ it.n ≤ 100000 ∧ it.w.length ≤ 1000 ∧ it.s.length ≤ 10 ∧ it.l.length ≤ 10
theorem div_ok {n : Int} {b : Nat} (h0 : 0 ≤ n) (h1 : n ≤ 100000) : ∃ k, n / (b : Int) = k ∧ 0 ≤ k ∧ k ≤ 100000 := ⟨_, rfl, Int.ediv_nonneg h0 (Int.natCast_nonneg _), Int.le_trans (Int.ediv_le_self _ h0) h1⟩
noncomputable def pieceS (b : Nat) (it : Itm) : Str := runS (it.n / (b : Int)).toNat ++ (if (it.w != Str.ofString "") = true then it.w else it.s) ++ it.l
theorem lst_eq (ys : List Value) (v : Value) : listOf (ys ++ [v]).toArray (ys.length + 1) = LCg.lst (ys ++ [v]) := by
  have : (ys ++ [v]).length = ys.length + 1 := by simp
  unfold LCg.lst; rw [this]
theorem strsAre_snoc {us : List Value} {ys : List Str} {y : Str} {t : Tok} (h : StrsAre us ys) : StrsAre (us ++ [.str y t]) (ys ++ [y]) := by
  induction h with
  | nil => exact .cons _ _ .nil
  | cons y t _ ih => exact .cons _ _ ih
theorem text_loop {C D I q : Addr} {news : List (Addr × Obj)} {us : List Value} {e r b : Nat} {tr : Tok} {oc : Obj} {A : Around} {s : Shared} {R : Result → Shared → Prop}
   (X : (hd.heap_39 w.params).In h₀) (T : Top p loose mean mg mb h₀) (hh : A.handled = none) (hr : r ≤ 12) (hb : 2 ^ r = b) (hb0 : 0 < b) (hb1 : b < 1073741824)
   (hq : (q, listOf us.toArray e) ∈ news) (hc : (L + 1, oc) ∈ news) (hcd : oc.data = .cell (some (.int r tr)))
   (hI : ∀ p ∈ news, p.1 ≠ I) (hC : ∀ p ∈ news, p.1 ≠ C) (hD : ∀ p ∈ news, p.1 ≠ D) (hIC : @Ne Nat I C) (hID : @Ne Nat I D) (hCD : @Ne Nat C D) :
   ∀ (its : List Itm) (vs : List Value) (i : Nat) (ys : List Value) (zs : List Str) (h : Heap) (tk : Nat) (oI oC : Obj) (mm : Str → Option Value), us.drop i = vs → ItemsIn news vs its → (∀ it ∈ its, okN it) → 
     Fr h₀ L h m → News h₀ L h ((I, oI) :: (C, oC) :: (D, LCg.lst ys) :: news) → LiIs oI q i → LCg.NsObj oC mm → ys.length + its.length ≤ 100000 → StrsAre ys zs →
     (∀ h' tk' oC' mm' ys', Fr h₀ L h' m → News h₀ L h' ((C, oC') :: (D, LCg.lst ys') :: news) → LCg.NsObj oC' mm' → StrsAre ys' (zs ++ its.map (pieceS b)) → R (.ok .next) { s with heap := h', toks := tk' }) →
     codeAny (model prog w) A (.compLoop txComp 0 (.ref I) (.ref D) (compEnvC txCScope [(Str.ofString "reads", L + 1)] C (envOfC (Str.ofString "_law_text") txScope L 108 (.ref 107)))) R { s with heap := h, toks := tk } := by
  intro its
  induction its with
  | nil =>
    intro vs i ys zs h tk oI oC mm hvs hits hok F N li hns hyl hst fin
    cases hits
    conv in txComp => whnf
    refine turn1 ?_
    refine c_done hh F N (List.forall_mem_cons.mpr ⟨Ne.symm hIC, List.forall_mem_cons.mpr ⟨Ne.symm hID, hI⟩⟩) li (List.mem_cons_of_mem _ (List.mem_cons_of_mem _ hq)) (drop_nil hvs) ?_
    intro h' F' N'
    exact fin _ _ _ _ _ F' N' hns (by simpa using hst)
  | cons it its ih =>
    intro vs i ys zs h tk oI oC mm hvs hits hok F N li hns hyl hst fin
    cases hits with
    | @cons v _ vs _ hit hits =>
    obtain ⟨h1, h2⟩ := drop_cons hvs
    obtain ⟨qi, tn, ts, tl, tw, ei, rfl, hqi⟩ := hit
    simp only [List.length_cons] at hyl
    conv in txComp => whnf
    refine turn1 ?_
    refine c_tup hh F N (by simpa using hIC) (List.forall_mem_cons.mpr ⟨Ne.symm hID, hI⟩) (List.forall_mem_cons.mpr ⟨Ne.symm hCD, hC⟩) li hns (List.mem_cons_of_mem _ hq) h1 (List.mem_cons_of_mem _ hqi) rfl rfl rfl rfl rfl (by decide) ?_
    obtain ⟨n0, n1, n2, n3, n4⟩ := hok it (List.mem_cons_self ..)
    obtain ⟨k, hk, hk0, hk1⟩ := div_ok (b := b) n0 n1
    intro h' tk oI' oC' m2 F' N' li' hns' e1 e2 e3 e4
    have next : ∀ h'' tk'' t' y, Fr h₀ L h'' m → News h₀ L h'' ((I, oI') :: (C, oC') :: (D, listOf (ys ++ [Value.str y t']).toArray (ys.length + 1)) :: news) → y = pieceS b it →
       codeAny (model prog w) A (.compLoop txComp 0 (.ref I) (.ref D) (compEnvC txCScope [(Str.ofString "reads", L + 1)] C (envOfC (Str.ofString "_law_text") txScope L 108 (.ref 107)))) R { s with heap := h'', toks := tk'' } := by
      intro h'' tk'' t' y F'' N'' hy
      subst hy
      rw [lst_eq] at N''
      exact ih vs (i + 1) (ys ++ [.str (pieceS b it) t']) (zs ++ [pieceS b it]) h'' tk'' oI' oC' m2 h2 hits (fun x hx => hok x (List.mem_cons_of_mem _ hx)) F'' N'' li' hns' (by simp only [List.length_append, List.length_cons, List.length_nil]; ktr_room) (strsAre_snoc hst)
        (fun h3 tk3 oC3 m3 ys3 F3 N3 ns3 st3 => fin h3 tk3 oC3 m3 ys3 F3 N3 ns3 (by simpa using st3))
    refine wpAny_tests_nil ?_
    simp only [if_true]
    conv in (occs := *) txCScope => all_goals whnf
    conv in (occs := *) txScope => all_goals whnf
    k_steps
    all_goals
      rename ((_ : Str) != _) = _ => hw
      rename Fr _ _ _ _ => FF
      rename News _ _ _ _ => NN
      refine next _ _ _ _ FF NN ?_
      unfold pieceS
      rw [hk, hw]
      rfl
end
local macro_rules | `(tactic| walk_at "call builtin:str.join") => `(tactic| (k_here; k_dflt (refine' joinS ?N ?m ?i ?z ?_; (case N => k_asm); (case m => k_mem); (case i => with_reducible assumption); (case z => with_reducible assumption)); intro _ _))
section
variable {w : World} {dp un : Nat} {gd : Option (List Code)} {cn : Str} {cs : Scope} {a : Addr} {ccd : Value} {cl : List (Str × Addr)} {outer : List Env} {A₀ : Around} {base h₀ : Heap} {L : Addr} {m : Str → Option Value}  {s : Shared} {p : Program} {loose : List Str} {mean : ExcName → Option Value} {mg mb : Str → Option Value} {Q E : Value → Shared → Prop}
theorem ne_of_all {d x : Nat} {l : List (Addr × Obj)} (h : ∀ p ∈ l, @LT.lt Nat _ p.1 d) (hx : @LE.le Nat _ d x) : ∀ p ∈ l, p.1 ≠ x := fun p hp => Nat.ne_of_lt (Nat.lt_of_lt_of_le (h p hp) hx)
theorem items_tail {x : Addr × Obj} {news : List (Addr × Obj)} {vs : List Value} {its : List Itm} (h : ItemsIn news vs its) : ItemsIn (x :: news) vs its := by
  induction h with
  | nil => exact .nil
  | cons hi _ ih =>
    obtain ⟨q, tn, ts, tl, tw, e, rfl, hm⟩ := hi
    exact .cons ⟨q, tn, ts, tl, tw, e, rfl, List.mem_cons_of_mem _ hm⟩ ih
theorem text_call {q : Addr} {vs : List Value} {e : Nat} {its : List Itm} {r b : Nat} {tr : Tok} {news : List (Addr × Obj)}
   (B : Below A₀ base outer h₀) (F : Fr h₀ L s.heap m) (X : (hd.heap_39 w.params).In h₀) (T : Top p loose mean mg mb h₀) (hk : cs.kind = .function) (hdp : dp + 20 < recursionLimit) (hun : un + 100 < cLine)
   (N : News h₀ L s.heap news) (hq : (q, listOf vs.toArray e) ∈ news) (hi : ItemsIn news vs its) (hr : r ≤ 12) (hb : 2 ^ r = b) (hok : ∀ it ∈ its, okN it) (hlen : its.length ≤ 100000) (hsum : ((its.map (pieceS b)).map (·.length)).sum ≤ 1000000)
   (ret : ∀ t' h' tk', Fr h₀ L h' m → News h₀ L h' news → Q (.str (Txt.join (Str.ofString "") (its.map (pieceS b))) t') { s with heap := h', toks := tk' }) :
   wpAny (model prog w) (ktrTop dp un gd cn cs L a ccd cl outer) (call (.ref 108) [.ref q, .int r tr]) Q E s := by
  have hb0 : 0 < b := hb ▸ Nat.two_pow_pos r
  have hb1 : b < 1073741824 := hb ▸ Nat.lt_of_le_of_lt (Nat.pow_le_pow_right (by decide) hr) (by decide)
  refine wpAny_call ?_
  k_dflt (refine' code_defC ?k1 ?k2 ?k3 ?k4 ?k5 ?kA ?kF ?kK ?k6 ?k7 ?k8 ?k9 ?kB ?kD ?_ ?c2 ?c3 ?c4; (case kA => exact rfl); (case kF => exact rfl); (case kK => assumption); (case k1 => k_asm); (case k2 => k_asm); (case k3 => k_asm); (case k4 => k_asm); (case k5 => k_asm); (case k6 => k_is); (case k7 => k_is); (case k8 => k_room); (case k9 => first | exact BindsTo.of_eq rfl | exact binds_K (by k_in) rfl (by k_is) rfl rfl rfl | fail "k_enter: no rule for these arguments"); (case kB => exact rfl); (case kD => decide +kernel); (case c2 => exact rfl); (case c3 => exact rfl); (case c4 => exact rfl); k_whole; intro g' L' h' tk' cells' FG' F' N' Y' B' X' T' l1; (try k_lt l1); k_cells Y'; (try simp only [List.cons_append, List.nil_append] at N'); (try dsimp only); (try k_lift B'); (try k_fold))
  k_steps
  unfold Hold
  refine c_open (by with_reducible assumption) rfl (by decide) rfl (by decide) ?_ (by intro _; rfl)
  k_steps
  rename News _ _ _ _ => NN
  rename Fr _ _ _ _ => FF
  refine c_src FF NN (List.mem_cons_of_mem _ hq) ?_
  intro I C D h tk oI oC mm F' N' li hns hlt hID hDC
  have hI := ne_of_all hlt (Nat.le_refl I)
  have hD := ne_of_all (x := D) hlt (Nat.le_of_lt hID)
  have hC := ne_of_all (x := C) hlt (Nat.le_of_lt (Nat.lt_trans hID hDC))
  refine text_loop (q := q) (us := vs) (e := e) (r := r) (by assumption) (by assumption) rfl hr hb hb0 hb1 (List.mem_cons_of_mem _ hq) (List.mem_cons_self ..) (by assumption) hI hC hD ((by k_ne)) ((by k_ne)) ((by k_ne)) its vs 0 [] [] h tk oI oC mm rfl (items_tail hi) hok F' N' li hns (by simpa using hlen) .nil ?_
  intro h2 tk2 oC2 mm2 ys2 F2 N2 ns2 st2
  refine c_fin F2 N2 (List.forall_mem_cons.mpr ⟨(by k_ne), hC⟩) ns2 ?_
  intro h3 F3 N3
  rw [List.nil_append] at st2
  k_steps
  rename Fr h₀ _ _ _ => kF
  rename News h₀ _ _ _ => kN
  exact ret _ _ _ kF (news_rest (news_rest kN))
end
end Mine
end
section
open PySem PySem.W PyProof.Rows PySem.Calls
namespace Mine
theorem offItems68 : True := by
  w_top off
  trivial
set_option maxRecDepth 100000
set_option maxHeartbeats 8000000
set_option linter.unusedVariables false
noncomputable def imDef : Stmt := topAt 10
noncomputable def imScope : Scope := stScope imDef
noncomputable def imComp : Expr := stVal (stAt (stBody imDef) 0)
noncomputable def imCScope : Scope := exScope imComp
section
variable {w : World} {dp un : Nat} {gd : Option (List Code)} {cn : Str} {cs : Scope} {a : Addr} {ccd : Value} {cl : List (Str × Addr)} {outer : List Env} {A₀ : Around} {base h₀ : Heap} {L : Addr} {m : Str → Option Value}  {p : Program} {loose : List Str} {mean : ExcName → Option Value} {mg mb : Str → Option Value} {Q E : Value → Shared → Prop}
noncomputable def itemOf (n : Int) : Itm := ⟨n.fmod 16, Txt.item (Str.ofString " \t\n\x0d\"&<>") ((n.fdiv 16).fmod 8), Txt.item (Str.ofString "a#;'") ((n.fdiv 128).fmod 4), Str.ofString ""⟩
theorem items_snoc {news : List (Addr × Obj)} {vs : List Value} {its : List Itm} {v : Value} {it : Itm} (h : ItemsIn news vs its) (hi : ItemIn news v it) : ItemsIn news (vs ++ [v]) (its ++ [it]) := by
  induction h with
  | nil => exact .cons hi .nil
  | cons h _ ih => exact .cons h ih
theorem items_loop {C D I q : Addr} {us : List Value} {e : Nat} {A : Around} {s : Shared} {R : Result → Shared → Prop}
   (X : (hd.heap_39 w.params).In h₀) (T : Top p loose mean mg mb h₀) (hh : A.handled = none) (hIC : @Ne Nat I C) (hID : @Ne Nat I D) (hCD : @Ne Nat C D) :
   ∀ (ns : List Int) (vs : List Value) (i : Nat) (ys : List Value) (zs : List Itm) (news : List (Addr × Obj)) (h : Heap) (tk : Nat) (oI oC : Obj) (mm : Str → Option Value), us.drop i = vs → IntsAre vs ns → ItemsIn news ys zs →
     (q, listOf us.toArray e) ∈ news → (∀ p ∈ news, p.1 ≠ I) → (∀ p ∈ news, p.1 ≠ C) → (∀ p ∈ news, p.1 ≠ D) →
     Fr h₀ L h m → News h₀ L h ((I, oI) :: (C, oC) :: (D, LCg.lst ys) :: news) → LiIs oI q i → LCg.NsObj oC mm → ys.length + ns.length ≤ 100000 →
     (∀ h' tk' oC' mm' ys' news', Fr h₀ L h' m → News h₀ L h' ((C, oC') :: (D, LCg.lst ys') :: news') → LCg.NsObj oC' mm' → ItemsIn news' ys' (zs ++ ns.map itemOf) → (∀ p ∈ news', p.1 ≠ C) → (∀ p ∈ news, p ∈ news') → R (.ok .next) { s with heap := h', toks := tk' }) →
     codeAny (model prog w) A (.compLoop imComp 0 (.ref I) (.ref D) (compEnvC imCScope [] C (envOf (Str.ofString "_law_items") imScope L 103 (.ref 102)))) R { s with heap := h, toks := tk } := by
  intro ns
  induction ns with
  | nil =>
    intro vs i ys zs news h tk oI oC mm hvs hits hzs hq hI hC hD F N li hns hyl fin
    cases hits
    conv in imComp => whnf
    refine turn1 ?_
    refine c_done hh F N (List.forall_mem_cons.mpr ⟨Ne.symm hIC, List.forall_mem_cons.mpr ⟨Ne.symm hID, hI⟩⟩) li (List.mem_cons_of_mem _ (List.mem_cons_of_mem _ hq)) (drop_nil hvs) ?_
    intro h' F' N'
    exact fin _ _ _ _ _ _ F' N' hns (by simpa using hzs) hC (fun _ h => h)
  | cons n ns ih =>
    intro vs i ys zs news h tk oI oC mm hvs hits hzs hq hI hC hD F N li hns hyl fin
    cases hits with
    | @cons _ tn vs _ hits =>
    obtain ⟨h1, h2⟩ := drop_cons hvs
    simp only [List.length_cons] at hyl
    conv in imComp => whnf
    refine turn1 ?_
    refine c_name F N (by simpa using hIC) (List.forall_mem_cons.mpr ⟨Ne.symm hID, hI⟩) (List.forall_mem_cons.mpr ⟨Ne.symm hCD, hC⟩) li hns (List.mem_cons_of_mem _ hq) h1 rfl rfl ?_
    intro h' tk oI' oC' m2 F' N' li' hns' e1 e2
    have next : ∀ h'' tk'' x t1 t2 t3 t4 ee, Fr h₀ L h'' m → News h₀ L h'' ((x, listOf #[.int (itemOf n).n t1, .str (itemOf n).s t2, .str (itemOf n).l t3, .str (itemOf n).w t4] ee) :: (I, oI') :: (C, oC') :: (D, listOf (ys ++ [Value.ref x]).toArray (ys.length + 1)) :: news) → (@LT.lt Nat _ I x ∧ @LT.lt Nat _ C x ∧ @LT.lt Nat _ D x ∧ AllLt x news) →
       codeAny (model prog w) A (.compLoop imComp 0 (.ref I) (.ref D) (compEnvC imCScope [] C (envOf (Str.ofString "_law_items") imScope L 103 (.ref 102)))) R { s with heap := h'', toks := tk'' } := by
      intro h'' tk'' x t1 t2 t3 t4 ee F'' N'' hl
      rw [lst_eq] at N''
      refine ih vs (i + 1) (ys ++ [.ref x]) (zs ++ [itemOf n]) ((x, listOf #[.int (itemOf n).n t1, .str (itemOf n).s t2, .str (itemOf n).l t3, .str (itemOf n).w t4] ee) :: news) h'' tk'' oI' oC' m2 h2 hits (items_snoc (items_tail hzs) ⟨x, t1, t2, t3, t4, ee, rfl, List.mem_cons_self ..⟩) (List.mem_cons_of_mem _ hq)
        (List.forall_mem_cons.mpr ⟨Nat.ne_of_gt hl.1, hI⟩) (List.forall_mem_cons.mpr ⟨Nat.ne_of_gt hl.2.1, hC⟩) (List.forall_mem_cons.mpr ⟨Nat.ne_of_gt hl.2.2.1, hD⟩) F'' (njoin (nhd (ntl N'')) (njoin (nhd (ntl (ntl N''))) (njoin (nhd (ntl (ntl (ntl N'')))) (njoin (nhd N'') (ntl (ntl (ntl (ntl N'')))))))) li' hns' (by simp only [List.length_append, List.length_cons, List.length_nil]; ktr_room)
        (fun h3 tk3 oC3 m3 ys3 news3 F3 N3 ns3 st3 hC3 sub3 => fin h3 tk3 oC3 m3 ys3 news3 F3 N3 ns3 (by simpa using st3) hC3 (fun p hp => sub3 p (List.mem_cons_of_mem _ hp)))
    refine wpAny_tests_nil ?_
    simp only [if_true]
    conv in (occs := *) imCScope => all_goals whnf
    conv in (occs := *) imScope => all_goals whnf
    k_steps
    rename Fr _ _ _ _ => FF
    rename News _ _ _ _ => NN
    rename _ ∧ _ => ll
    exact next _ _ _ _ _ _ _ _ FF NN ll
end
section
variable {w : World} {dp un : Nat} {gd : Option (List Code)} {cn : Str} {cs : Scope} {a : Addr} {ccd : Value} {cl : List (Str × Addr)} {outer : List Env} {A₀ : Around} {base h₀ : Heap} {L : Addr} {m : Str → Option Value}  {s : Shared} {p : Program} {loose : List Str} {mean : ExcName → Option Value} {mg mb : Str → Option Value} {Q E : Value → Shared → Prop}
theorem items_call {q : Addr} {vs : List Value} {ns : List Int} {e : Nat} {news : List (Addr × Obj)}
   (B : Below A₀ base outer h₀) (F : Fr h₀ L s.heap m) (X : (hd.heap_39 w.params).In h₀) (T : Top p loose mean mg mb h₀) (hk : cs.kind = .function) (hdp : dp + 20 < recursionLimit) (hun : un + 100 < cLine)
   (N : News h₀ L s.heap news) (hq : (q, listOf vs.toArray e) ∈ news) (hi : IntsAre vs ns) (hlen : ns.length ≤ 100000)
   (ret : ∀ D ys news' h' tk', Fr h₀ L h' m → News h₀ L h' ((D, LCg.lst ys) :: news') → ItemsIn news' ys (ns.map itemOf) → (∀ p ∈ news, p ∈ news') → Q (.ref D) { s with heap := h', toks := tk' }) :
   wpAny (model prog w) (ktrTop dp un gd cn cs L a ccd cl outer) (call (.ref 103) [.ref q]) Q E s := by
  refine wpAny_call ?_
  k_dflt ktr_enter
  k_steps
  unfold Hold
  refine c_open (by with_reducible assumption) rfl (by decide) rfl (by decide) ?_ (by intro _; rfl)
  k_steps
  rename News _ _ _ _ => NN
  rename Fr _ _ _ _ => FF
  refine c_src FF NN hq ?_
  intro I C D h tk oI oC mm F' N' li hns hlt hID hDC
  have hI := ne_of_all hlt (Nat.le_refl I)
  have hD := ne_of_all (x := D) hlt (Nat.le_of_lt hID)
  have hC := ne_of_all (x := C) hlt (Nat.le_of_lt (Nat.lt_trans hID hDC))
  refine items_loop (q := q) (us := vs) (e := e) (by assumption) (by assumption) rfl ((by k_ne)) ((by k_ne)) ((by k_ne)) ns vs 0 [] [] news h tk oI oC mm rfl hi .nil hq hI hC hD F' N' li hns (by simpa using hlen) ?_
  intro h2 tk2 oC2 mm2 ys2 news2 F2 N2 ns2 st2 hC2 sub2
  refine c_fin F2 N2 (List.forall_mem_cons.mpr ⟨(by k_ne), hC2⟩) ns2 ?_
  intro h3 F3 N3
  rw [List.nil_append] at st2
  k_steps
  rename Fr h₀ _ _ _ => kF
  rename News h₀ _ _ _ => kN
  exact ret _ _ _ _ _ kF kN st2 sub2
end
end Mine
end
section
open PySem PySem.W PyProof.Rows PySem.Calls
namespace Mine
theorem offTable68 : True := by
  w_top off
  trivial
set_option maxRecDepth 100000
set_option maxHeartbeats 8000000
set_option linter.unusedVariables false
noncomputable def tabPairs (d : Int) : List (Str × Str) :=
  if d = 1 then [(Str.ofString "&", Str.ofString "&amp;"), (Str.ofString "<", Str.ofString "&lt;"), (Str.ofString ">", Str.ofString "&gt;")]
  else if d = 2 then [(Str.ofString "&", Str.ofString "&amp;"), (Str.ofString "<", Str.ofString "&lt;"), (Str.ofString ">", Str.ofString "&gt;"), (Str.ofString "\"", Str.ofString "&quot;"), (Str.ofString "\x0d", Str.ofString "&#13;"), (Str.ofString "\n", Str.ofString "&#10;"), (Str.ofString "\t", Str.ofString "&#09;")]
  else if d = 3 then [(Str.ofString "&", Str.ofString "&amp;"), (Str.ofString ">", Str.ofString "&gt;"), (Str.ofString "\"", Str.ofString "&quot;")]
  else if d = 4 then [(Str.ofString "&", Str.ofString "&amp;"), (Str.ofString "<", Str.ofString "&lt;"), (Str.ofString ">", Str.ofString "&gt;"), (Str.ofString "\x0d", Str.ofString "&#xD;")]
  else [(Str.ofString "&", Str.ofString "&amp;"), (Str.ofString "<", Str.ofString "&lt;"), (Str.ofString "\"", Str.ofString "&quot;"), (Str.ofString "\t", Str.ofString "&#x9;"), (Str.ofString "\n", Str.ofString "&#xA;"), (Str.ofString "\x0d", Str.ofString "&#xD;")]
noncomputable def tabS (d : Int) (x : Str) : Str := ((tabPairs d).lookup x).getD (Str.ofString "")
inductive PairsAre : List (Str × Value) → List (Str × Str) → Prop
  | nil : PairsAre [] []
  | cons {k y : Str} {t : Tok} {kvs ps} : PairsAre kvs ps → PairsAre ((k, .str y t) :: kvs) ((k, y) :: ps)
theorem PairsAre.get {kvs : List (Str × Value)} {ps : List (Str × Str)} (h : PairsAre kvs ps) (x : Str) (dt : Tok) : ∃ t, (valueAt kvs x).getD (.str (Str.ofString "") dt) = .str ((ps.lookup x).getD (Str.ofString "")) t := by
  induction h with
  | nil => exact ⟨dt, rfl⟩
  | @cons k y t kvs ps _ ih =>
    by_cases e : x = k
    · subst e
      exact ⟨t, by simp [valueAt]⟩
    · obtain ⟨t', h'⟩ := ih
      refine ⟨t', ?_⟩
      have e2 : (x == k) = false := by simpa using e
      have e3 : ¬ k = x := fun q => e q.symm
      simpa [valueAt, List.lookup_cons, e2, e, e3] using h'
/-- a display of written texts, key for key -/
inductive LitPairs : List (Option Expr) → List Expr → List (Str × Str) → Prop
  | nil : LitPairs [] [] []
  | cons {ks vs ps} {x y : Str} {k1 k2 : Nat} {p1 p2 : Pos} : LitPairs ks vs ps → LitPairs (some (.Constant (.str x) k1 p1) :: ks) (.Constant (.str y) k2 p2 :: vs) ((x, y) :: ps)
inductive VPairs : List (Value × Value) → List (Str × Str) → Prop
  | nil : VPairs [] []
  | cons {vs ps} {x y : Str} {t1 t2 : Tok} : VPairs vs ps → VPairs ((.str x t1, .str y t2) :: vs) ((x, y) :: ps)
theorem VPairs.all {vs : List (Value × Value)} {ps : List (Str × Str)} (h : VPairs vs ps) : allStrKeys vs = true ∧ allFlat vs = true ∧ (strPairs vs).map (·.1) = ps.map (·.1) ∧ PairsAre (strPairs vs) ps := by
  induction h with
  | nil => exact ⟨rfl, rfl, rfl, .nil⟩
  | cons _ ih =>
    obtain ⟨a, b, c, d⟩ := ih
    refine ⟨a, ?_, ?_, .cons d⟩
    · show (true && allFlat _) = true
      rw [b]; rfl
    · show _ :: (strPairs _).map (·.1) = _
      rw [c]; rfl
section
variable {w : World} {A : Around} {E : Value → Shared → Prop} {env : Env} {h₀ : Heap} {L : Addr} {m : Str → Option Value} {news : List (Addr × Obj)}
theorem lit_pairs {ks : List (Option Expr)} {vs : List Expr} {ps : List (Str × Str)} {pos : Pos} (hl : LitPairs ks vs ps) : ∀ {s : Shared} {Q : List (Value × Value) → Shared → Prop}, (∀ vals tk, VPairs vals ps → Q vals { s with toks := tk }) →
    wpAny (model prog w) A (evalPairs (pairTrees ks vs env pos)) Q E s := by
  induction hl with
  | nil => exact fun h => pairTrees_nil_walk (h _ _ .nil)
  | cons _ ih => exact fun h => pairTrees_cons_walk (Constant_str (Constant_str (ih fun vals tk hv => h _ _ (.cons hv))))
theorem dict_lit {ks : List (Option Expr)} {vs : List Expr} {ps : List (Str × Str)} {pos : Pos} {s : Shared} {Q : Value → Shared → Prop} (F : Fr h₀ L s.heap m) (N : News h₀ L s.heap news) (hb : h₀.NoLimit)
    (hl : LitPairs ks vs ps) (ha : ks.all (·.isSome) = true) (hz : ks.length = vs.length) (h0 : ks ≠ []) (hn : ks.length ≤ 15) (hd : (ps.map (·.1)).Nodup)
    (h : ∀ x h' o kvs tk, Fr h₀ L h' m → News h₀ L h' ((x, o) :: news) → (∀ p ∈ news, p.1 < x) → (x == sysModules) = false → Obj.IsDictOf (strKind prog w) o kvs → PairsAre kvs ps → Q (.ref x) { s with heap := h', toks := tk }) :
    wpAny (model prog w) A (eval (.Dict ks vs pos) env) Q E s :=
  Dict_made F ha hz h0 hn fun _ => lit_pairs hl fun vals tk hv => by
    obtain ⟨a, b, c, d⟩ := hv.all
    exact kdp_made_str F N hb a (by rw [c]; exact hd) b fun h' o F' N' lt lo ho _ _ => h _ _ _ _ _ F' N' lt lo ho d
end
theorem pairs_of {kvs ps d} (h : PairsAre kvs ps) (e : tabPairs d = ps) : PairsAre kvs (tabPairs d) := e.symm ▸ h
local macro_rules | `(tactic| walk_at "eval Dict") => `(tactic| (refine hold ?_))
local macro_rules | `(tactic| walk_at "binaryOp Sub int int") => `(tactic| ((with_reducible rename _ ∨ _ => hd0); refine hold ?_))
section
variable {w : World} {dp un : Nat} {gd : Option (List Code)} {cn : Str} {cs : Scope} {a : Addr} {ccd : Value} {cl : List (Str × Addr)} {outer : List Env} {A₀ : Around} {base h₀ : Heap} {L : Addr} {m : Str → Option Value}  {s : Shared} {p : Program} {loose : List Str} {mean : ExcName → Option Value} {mg mb : Str → Option Value} {Q E : Value → Shared → Prop}
theorem pick {h : Heap} {x : Addr} {o : Obj} {led news : List (Addr × Obj)} (hm : (x, o) ∈ led) (N : News h₀ L h led) (sub : ∀ p ∈ news, p ∈ led) : News h₀ L h ((x, o) :: news) := fun p hp => by
  rcases List.mem_cons.mp hp with rfl | hp
  · exact N _ hm
  · exact N _ (sub p hp)
theorem table_call {d : Int} {td : Tok} {news : List (Addr × Obj)}
   (B : Below A₀ base outer h₀) (F : Fr h₀ L s.heap m) (X : (hd.heap_39 w.params).In h₀) (T : Top p loose mean mg mb h₀) (hk : cs.kind = .function) (hdp : dp + 20 < recursionLimit) (hun : un + 100 < cLine)
   (N : News h₀ L s.heap news) (hd : d = 1 ∨ d = 2 ∨ d = 3 ∨ d = 4 ∨ d = 5)
   (ret : ∀ x o kvs h' tk', Fr h₀ L h' m → News h₀ L h' ((x, o) :: news) → (x == sysModules) = false → Obj.IsDictOf (strKind prog w) o kvs → PairsAre kvs (tabPairs d) → Q (.ref x) { s with heap := h', toks := tk' }) :
   wpAny (model prog w) (ktrTop dp un gd cn cs L a ccd cl outer) (call (.ref 115) [.int d td]) Q E s := by
  refine wpAny_call ?_
  k_dflt ktr_enter
  k_steps
  iterate 5
    unfold Hold
    with_reducible refine dict_lit (by k_dflt k_asm) (by k_dflt k_asm) (by k_dflt exact Top.nolimit (by k_asm)) (by repeat constructor) (by with_unfolding_all rfl) (by with_unfolding_all rfl) (List.cons_ne_nil _ _) (by with_unfolding_all decide) (by decide +kernel) ?_
    intro D' h' o' kvs' tk' F' N' l1 lo' hd' hp'
    (try k_lt l1)
    k_steps
  unfold Hold
  rename _ ∨ _ => hd9
  rcases hd9 with rfl | rfl | rfl | rfl | rfl
  all_goals
    k_steps
    rename Fr h₀ _ _ _ => kF
    rename News h₀ _ _ _ => kN
    exact ret _ _ _ _ _ kF (pick (by k_mem) kN (fun p hp => .tail _ (.tail _ (.tail _ (.tail _ (.tail _ (.tail _ hp))))))) (by with_reducible assumption) (by with_reducible assumption) (pairs_of (by with_reducible assumption) (by exact rfl))
end
end Mine
end
section
open PySem PySem.W PyProof.Rows PySem.Calls
namespace Mine
set_option linter.unusedVariables false
/-- may the sign part its text? -/
noncomputable def hit (shut : Bool) (x : Str) : Bool := if shut = true then !(Builtin.Str.occurrences (Str.ofString "\"") x 0 (Str.ofString "\"").length 1).isEmpty else !(Builtin.Str.occurrences (Str.ofString " \t\n\x0d") x 0 (Str.ofString " \t\n\x0d").length 1).isEmpty
noncomputable def isCut (b : Nat) (shut : Bool) (it : Itm) : Bool := (it.s != Str.ofString "") && ((it.w == Str.ofString "") && (decide ((it.n / (b : Int)).fmod 2 = 0) && hit shut it.s))
noncomputable def runOf (it : Itm) : Itm := ⟨it.n, Str.ofString "", Str.ofString "", Str.ofString ""⟩
noncomputable def headOf (it : Itm) : Itm := ⟨0, Str.ofString "", it.l, Str.ofString ""⟩
noncomputable def cutL (b : Nat) : Bool → List Itm → List Itm → List (List Itm)
  | _, cur, [] => [cur]
  | shut, cur, it :: its => if isCut b shut it = true then (cur ++ [runOf it]) :: cutL b false [headOf it] its else cutL b shut (cur ++ [it]) its
noncomputable def isFeed (it : Itm) : Bool := (it.s == Str.ofString "\n") && (it.w == Str.ofString "")
noncomputable def feedL (ts : List (List Itm)) : Nat := (ts.map fun t => t.countP isFeed).sum
noncomputable def escW (d : Int) (s w : Str) : Str := if (w != Str.ofString "") = true then Str.ofString "&amp;" ++ ⟨(w.cps.toList.drop 1).toArray⟩ else tabS d s
noncomputable def escIt (d : Int) (it : Itm) : Itm := ⟨it.n, it.s, it.l, escW d it.s it.w⟩
noncomputable def okF (it : Itm) : Prop := 0 ≤ it.n ∧ it.n ≤ 5000 ∧ it.w.length ≤ 1000 ∧ it.s.length ≤ 10 ∧ it.l.length ≤ 10
noncomputable def Fine (ts : List (List Itm)) : Prop := ts.length ≤ 20 ∧ ∀ t ∈ ts, t.length ≤ 20 ∧ ∀ it ∈ t, okF it
inductive Due : List Int → List (List Itm) → Nat → Int → List (List Itm) → Nat → Int → Prop
  | nil {ts r f} : Fine ts → r ≤ 12 → Due [] ts r f ts r f
  | read {d ds ts r f fin rf ff} : (d = 0 ∨ d = 6) → Fine ts → r ≤ 11 → Due ds (ts.flatMap fun t => cutL (2 ^ r) (decide (d = 6)) [] t) (r + 1) (f + (feedL ts : Int)) fin rf ff → Due (d :: ds) ts r f fin rf ff
  | esc {d ds ts r f fin rf ff} : (d = 1 ∨ d = 2 ∨ d = 3 ∨ d = 4 ∨ d = 5) → Fine ts → r ≤ 12 → Due ds (ts.map fun t => t.map (escIt d)) r f fin rf ff → Due (d :: ds) ts r f fin rf ff
end Mine
end
section
open PySem PySem.W PyProof.Rows PySem.Calls
namespace Mine
theorem offCut68 : True := by
  w_top off
  trivial
set_option maxRecDepth 100000
set_option maxHeartbeats 8000000
set_option linter.unusedVariables false
section
variable {w : World} {A : Around} {Q E : Value → Shared → Prop} {s : Shared} {h₀ : Heap} {L l : Addr} {news : List (Addr × Obj)}
theorem neg1 {value slice : PySem.Expr} {tv : List Value} {v : Value} {e : Nat} {u : Tok} (N : News h₀ L s.heap news) (hm : (l, listOf (tv ++ [v]).toArray e) ∈ news) (h : Q v s)
    (hs : subscripted slice false (.ref l) (.int (-1) u) = operate [.ref l, .int (-1) u] (getItem (.ref l) (.int (-1) u)) ) :
    wpAny (model prog w) A (subscriptTail value slice (.ref l) (.int (-1) u)) Q E s :=
  kde_neg (j := tv.length) (vs := tv ++ [v]) ⟨_, (N _ hm).1, rfl, _, rfl⟩ (by decide) (by decide) (by
    have : (tv ++ [v]).length = tv.length + 1 := by simp
    rw [this]; unfold seqIndex?; simp; ktr_room) (by simp) h hs
end
local macro_rules | `(tactic| walk_at "subscriptTail Name UnaryOp ref int") => `(tactic| (k_here; k_dflt (refine' neg1 ?N ?m ?_ (by with_unfolding_all rfl); (case N => k_asm); (case m => k_mem))))
inductive TextsIn (N : List (Addr × Obj)) : List Value → List (List Itm) → Prop
  | nil : TextsIn N [] []
  | cons {v t vs ts} : TextIn N v t → TextsIn N vs ts → TextsIn N (v :: vs) (t :: ts)
theorem item_sub {N N' : List (Addr × Obj)} {v : Value} {it : Itm} (sub : ∀ p ∈ N, p ∈ N') (h : ItemIn N v it) : ItemIn N' v it := by
  obtain ⟨q, tn, ts, tl, tw, e, rfl, hm⟩ := h
  exact ⟨q, tn, ts, tl, tw, e, rfl, sub _ hm⟩
theorem items_sub {N N' : List (Addr × Obj)} {vs : List Value} {its : List Itm} (sub : ∀ p ∈ N, p ∈ N') (h : ItemsIn N vs its) : ItemsIn N' vs its := by
  induction h with
  | nil => exact .nil
  | cons hi _ ih => exact .cons (item_sub sub hi) ih
theorem text_sub {N N' : List (Addr × Obj)} {v : Value} {its : List Itm} (sub : ∀ p ∈ N, p ∈ N') (h : TextIn N v its) : TextIn N' v its := by
  obtain ⟨q, vs, e, rfl, hm, hi⟩ := h
  exact ⟨q, vs, e, rfl, sub _ hm, items_sub sub hi⟩
theorem texts_sub {N N' : List (Addr × Obj)} {vs : List Value} {ts : List (List Itm)} (sub : ∀ p ∈ N, p ∈ N') (h : TextsIn N vs ts) : TextsIn N' vs ts := by
  induction h with
  | nil => exact .nil
  | cons hi _ ih => exact .cons (text_sub sub hi) ih
theorem texts_snoc {N : List (Addr × Obj)} {vs : List Value} {ts : List (List Itm)} {v : Value} {t : List Itm} (h : TextsIn N vs ts) (hi : TextIn N v t) : TextsIn N (vs ++ [v]) (ts ++ [t]) := by
  induction h with
  | nil => exact .cons hi .nil
  | cons h _ ih => exact .cons h ih
noncomputable def cuDef : Stmt := topAt 13
noncomputable def cuScope : Scope := stScope cuDef
noncomputable def cuFor : Stmt := stAt (stBody cuDef) 1
noncomputable def cuTarget : Expr := forTarget cuFor
noncomputable def cuBody : List Stmt := stBody cuFor
section
variable {w : World} {dp un : Nat} {gd : Option (List Code)} {cn : Str} {cs : Scope} {a : Addr} {ccd : Value} {cl : List (Str × Addr)} {outer : List Env} {A₀ : Around} {base h₀ : Heap} {L : Addr} {p : Program} {loose : List Str} {mean : ExcName → Option Value} {mg mb : Str → Option Value} {Q E : Value → Shared → Prop}
theorem cut_loop {I q Tx K : Addr} {news0 : List (Addr × Obj)} {us : List Value} {e r b : Nat} {tr : Tok} {s : Shared} {R : Result → Shared → Prop}
   (X : (hd.heap_39 w.params).In h₀) (T : Top p loose mean mg mb h₀) (hr : r ≤ 12) (hb : 2 ^ r = b) (hb0 : 0 < b) (hb1 : b < 1073741824) :
   ∀ (its : List Itm) (vs : List Value) (i : Nat) (shut : Bool) (tv cur : List Value) (La : Addr) (ci : List Itm) (done : List (List Itm)) (ex news : List (Addr × Obj)) (h : Heap) (tk : Nat) (oI : Obj) (mm : Str → Option Value) (e1 e2 : Nat), us.drop i = vs → ItemsIn news0 vs its → ItemsIn ex cur ci → TextsIn ex tv done → (∀ it ∈ its, okN it) → news = ex ++ news0 → (∀ p ∈ ex, @LE.le Nat _ K p.1) → @LE.le Nat _ K La →
     (q, listOf us.toArray e) ∈ news → (∀ p ∈ news, p.1 ≠ I) → (∀ p ∈ news, p.1 ≠ Tx) → (∀ p ∈ news, p.1 ≠ La) → @Ne Nat I Tx → @Ne Nat I La → @Ne Nat Tx La →
     Fr h₀ L h mm → mm (Str.ofString "reads") = some (.int r tr) → mm (Str.ofString "shut") = some (.bool shut) → mm (Str.ofString "texts") = some (.ref Tx) →
     News h₀ L h ((I, oI) :: (Tx, listOf (tv ++ [Value.ref La]).toArray e1) :: (La, listOf cur.toArray e2) :: news) → LiIs oI q i → tv.length + its.length ≤ 100000 → cur.length + its.length ≤ 100000 →
     (∀ h' tk' mm' ex' us' e', Fr h₀ L h' mm' → mm' (Str.ofString "texts") = some (.ref Tx) → News h₀ L h' ((Tx, listOf us'.toArray e') :: (ex' ++ news0)) → TextsIn ex' us' (done ++ cutL b shut ci its) → (∀ p ∈ ex', @LE.le Nat _ K p.1) → (∀ p ∈ ex', p.1 ≠ Tx) → R (.ok .next) { s with heap := h', toks := tk' }) →
     codeAny (model prog w) (ktrTop dp un gd (Str.ofString "_law_cut") cuScope L 122 (.ref 121) [] outer) (.forLoop cuTarget (.ref I) cuBody [] (envX (Str.ofString "_law_cut") cuScope L 122 (.ref 121) [])) R { s with heap := h, toks := tk } := by
  intro its
  induction its with
  | nil =>
    intro vs i shut tv cur La ci done ex news h tk oI mm e1 e2 hvs hits hcur hdone hok hnw hxK hLK hq hI hT hL hIT hIL hTL F mr ms mt N li hl1 hl2 fin
    cases hits
    refine for1 ?_
    refine lnext_done rfl F N (List.forall_mem_cons.mpr ⟨Ne.symm hIT, List.forall_mem_cons.mpr ⟨Ne.symm hIL, hI⟩⟩) li (List.mem_cons_of_mem _ (List.mem_cons_of_mem _ hq)) (drop_nil hvs) ?_
    intro h' F' N'
    dsimp only
    subst hnw
    exact fin _ _ _ ((La, listOf cur.toArray e2) :: ex) _ _ F' mt N' (texts_snoc (texts_sub (fun _ h => List.mem_cons_of_mem _ h) hdone) ⟨La, cur, e2, rfl, List.mem_cons_self .., items_tail hcur⟩) (List.forall_mem_cons.mpr ⟨hLK, hxK⟩) (List.forall_mem_cons.mpr ⟨Ne.symm hTL, fun p hp => hT p (List.mem_append_left _ hp)⟩)
  | cons it its ih =>
    intro vs i shut tv cur La ci done ex news h tk oI mm e1 e2 hvs hits hcur hdone hok hnw hxK hLK hq hI hT hL hIT hIL hTL F mr ms mt N li hl1 hl2 fin
    cases hits with
    | @cons v _ vs _ hit hits =>
    obtain ⟨h1, h2⟩ := drop_cons hvs
    obtain ⟨qi, tn, ts, tl, tw, ei, rfl, hqi0⟩ := hit
    have hqi := hnw ▸ List.mem_append_right ex hqi0
    obtain ⟨n0, n1, n2, n3, n4⟩ := hok it (List.mem_cons_self ..)
    obtain ⟨k, hk, hk0, hk1⟩ := div_ok (b := b) n0 n1
    simp only [List.length_cons] at hl1 hl2
    conv in cuTarget => whnf
    conv in cuBody => whnf
    conv in (occs := *) cuScope => all_goals whnf
    refine for1 ?_
    refine lnext_item F N (List.forall_mem_cons.mpr ⟨Ne.symm hIT, List.forall_mem_cons.mpr ⟨Ne.symm hIL, hI⟩⟩) li (List.mem_cons_of_mem _ (List.mem_cons_of_mem _ hq)) h1 fun h₁ oI₁ F₁ N₁ li₁ => ?_
    dsimp only
    refine wpAny_letOwnedTupleGo_listiter (l := q) (i := i + 1) ⟨oI₁, (N₁ _ (List.mem_cons_self ..)).1, li₁.1, li₁.2⟩ ?_
    refine kun_list F₁ N₁ (items := #[.int it.n tn, .str it.s ts, .str it.l tl, .str it.w tw]) ⟨_, (N₁ _ (List.mem_cons_of_mem _ (List.mem_cons_of_mem _ (List.mem_cons_of_mem _ hqi)))).1, rfl, _, rfl⟩ rfl rfl rfl fun h₂ F₂ N₂ => ?_
    have keep : ∀ h'' tk'' mm' x t1 t2 t3 t4 ee e1' e2', isCut b shut it = false → Fr h₀ L h'' mm' → mm' (Str.ofString "reads") = some (.int r tr) → mm' (Str.ofString "shut") = some (.bool shut) → mm' (Str.ofString "texts") = some (.ref Tx) →
       News h₀ L h'' ((x, listOf #[.int it.n t1, .str it.s t2, .str it.l t3, .str it.w t4] ee) :: (I, oI₁) :: (Tx, listOf (tv ++ [Value.ref La]).toArray e1') :: (La, listOf (cur ++ [Value.ref x]).toArray e2') :: news) → (@LT.lt Nat _ I x ∧ @LT.lt Nat _ Tx x ∧ @LT.lt Nat _ La x ∧ AllLt x news) →
       NextOf w (ktrTop dp un gd (Str.ofString "_law_cut") cuScope L 122 (.ref 121) [] outer) (.forLoop cuTarget (.ref I) cuBody [] (envX (Str.ofString "_law_cut") cuScope L 122 (.ref 121) [])) R .next { s with heap := h'', toks := tk'' } := by
      intro h'' tk'' mm' x t1 t2 t3 t4 ee e1' e2' hc F'' mr' ms' mt' N'' hl
      exact ih vs (i + 1) shut tv (cur ++ [.ref x]) La (ci ++ [it]) done ((x, listOf #[.int it.n t1, .str it.s t2, .str it.l t3, .str it.w t4] ee) :: ex) ((x, listOf #[.int it.n t1, .str it.s t2, .str it.l t3, .str it.w t4] ee) :: news) h'' tk'' oI₁ mm' e1' e2' h2 hits (items_snoc (items_tail hcur) ⟨x, t1, t2, t3, t4, ee, rfl, List.mem_cons_self ..⟩) (texts_sub (fun _ h => List.mem_cons_of_mem _ h) hdone) (fun x hx => hok x (List.mem_cons_of_mem _ hx)) (by rw [hnw]; rfl) (List.forall_mem_cons.mpr ⟨Nat.le_trans hLK (Nat.le_of_lt hl.2.2.1), hxK⟩) hLK (List.mem_cons_of_mem _ hq)
        (List.forall_mem_cons.mpr ⟨Nat.ne_of_gt hl.1, hI⟩) (List.forall_mem_cons.mpr ⟨Nat.ne_of_gt hl.2.1, hT⟩) (List.forall_mem_cons.mpr ⟨Nat.ne_of_gt hl.2.2.1, hL⟩) hIT hIL hTL F'' mr' ms' mt' (njoin (nhd (ntl N'')) (njoin (nhd (ntl (ntl N''))) (njoin (nhd (ntl (ntl (ntl N'')))) (njoin (nhd N'') (ntl (ntl (ntl (ntl N'')))))))) li₁ (by ktr_room) (by simp only [List.length_append, List.length_cons, List.length_nil]; ktr_room)
        (fun h3 tk3 m3 ex3 us3 e3 F3 mt3 N3 st3 k3 n3 => fin h3 tk3 m3 ex3 us3 e3 F3 mt3 N3 (by rw [cutL, if_neg (by rw [hc]; simp)]; exact st3) k3 n3)
    have cut : ∀ h'' tk'' mm' x x2 x3 t1 t2 t3 t4 u1 u2 u3 u4 ee ee2 ee3 e1' e2', isCut b shut it = true → Fr h₀ L h'' mm' → mm' (Str.ofString "reads") = some (.int r tr) → mm' (Str.ofString "shut") = some (.bool false) → mm' (Str.ofString "texts") = some (.ref Tx) →
       News h₀ L h'' ((x3, listOf #[.ref x2] ee3) :: (x2, listOf #[.int 0 u1, .str (Str.ofString "") u2, .str it.l u3, .str (Str.ofString "") u4] ee2) :: (x, listOf #[.int it.n t1, .str (Str.ofString "") t2, .str (Str.ofString "") t3, .str (Str.ofString "") t4] ee) :: (I, oI₁) :: (Tx, listOf (tv ++ [Value.ref La] ++ [Value.ref x3]).toArray e1') :: (La, listOf (cur ++ [Value.ref x]).toArray e2') :: news) →
       (@LT.lt Nat _ I x ∧ @LT.lt Nat _ Tx x ∧ @LT.lt Nat _ La x ∧ AllLt x news) → (@LT.lt Nat _ x x2 ∧ @LT.lt Nat _ I x2 ∧ @LT.lt Nat _ Tx x2 ∧ @LT.lt Nat _ La x2 ∧ AllLt x2 news) → (@LT.lt Nat _ x2 x3 ∧ @LT.lt Nat _ x x3 ∧ @LT.lt Nat _ I x3 ∧ @LT.lt Nat _ Tx x3 ∧ @LT.lt Nat _ La x3 ∧ AllLt x3 news) →
       NextOf w (ktrTop dp un gd (Str.ofString "_law_cut") cuScope L 122 (.ref 121) [] outer) (.forLoop cuTarget (.ref I) cuBody [] (envX (Str.ofString "_law_cut") cuScope L 122 (.ref 121) [])) R .next { s with heap := h'', toks := tk'' } := by
      intro h'' tk'' mm' x x2 x3 t1 t2 t3 t4 u1 u2 u3 u4 ee ee2 ee3 e1' e2' hc F'' mr' ms' mt' N'' hl hl2' hl3
      have hall := allLt_all hl3.2.2.2.2.2
      exact ih vs (i + 1) false (tv ++ [.ref La]) [.ref x2] x3 [headOf it] (done ++ [ci ++ [runOf it]]) ((x2, listOf #[.int 0 u1, .str (Str.ofString "") u2, .str it.l u3, .str (Str.ofString "") u4] ee2) :: (x, listOf #[.int it.n t1, .str (Str.ofString "") t2, .str (Str.ofString "") t3, .str (Str.ofString "") t4] ee) :: (La, listOf (cur ++ [Value.ref x]).toArray e2') :: ex) ((x2, listOf #[.int 0 u1, .str (Str.ofString "") u2, .str it.l u3, .str (Str.ofString "") u4] ee2) :: (x, listOf #[.int it.n t1, .str (Str.ofString "") t2, .str (Str.ofString "") t3, .str (Str.ofString "") t4] ee) :: (La, listOf (cur ++ [Value.ref x]).toArray e2') :: news) h'' tk'' oI₁ mm' e1' ee3 h2 hits (.cons ⟨x2, u1, u2, u3, u4, ee2, rfl, List.mem_cons_self ..⟩ .nil)
        (texts_snoc (texts_sub (fun _ h => List.mem_cons_of_mem _ (List.mem_cons_of_mem _ (List.mem_cons_of_mem _ h))) hdone) ⟨La, _, e2', rfl, List.mem_cons_of_mem _ (List.mem_cons_of_mem _ (List.mem_cons_self ..)), items_snoc (items_tail (items_tail (items_tail hcur))) ⟨x, t1, t2, t3, t4, ee, rfl, List.mem_cons_of_mem _ (List.mem_cons_self ..)⟩⟩)
        (fun x hx => hok x (List.mem_cons_of_mem _ hx)) (by rw [hnw]; rfl) (List.forall_mem_cons.mpr ⟨Nat.le_trans hLK (Nat.le_of_lt hl2'.2.2.2.1), List.forall_mem_cons.mpr ⟨Nat.le_trans hLK (Nat.le_of_lt hl.2.2.1), List.forall_mem_cons.mpr ⟨hLK, hxK⟩⟩⟩) (Nat.le_trans hLK (Nat.le_of_lt hl3.2.2.2.2.1)) (List.mem_cons_of_mem _ (List.mem_cons_of_mem _ (List.mem_cons_of_mem _ hq)))
        (List.forall_mem_cons.mpr ⟨Nat.ne_of_gt hl2'.2.1, List.forall_mem_cons.mpr ⟨Nat.ne_of_gt hl.1, List.forall_mem_cons.mpr ⟨Ne.symm hIL, hI⟩⟩⟩)
        (List.forall_mem_cons.mpr ⟨Nat.ne_of_gt hl2'.2.2.1, List.forall_mem_cons.mpr ⟨Nat.ne_of_gt hl.2.1, List.forall_mem_cons.mpr ⟨Ne.symm hTL, hT⟩⟩⟩)
        (List.forall_mem_cons.mpr ⟨Nat.ne_of_lt hl3.1, List.forall_mem_cons.mpr ⟨Nat.ne_of_lt hl3.2.1, List.forall_mem_cons.mpr ⟨Nat.ne_of_lt hl3.2.2.2.2.1, ne_of_all hall (Nat.le_refl _)⟩⟩⟩)
        hIT (Nat.ne_of_lt hl3.2.2.1) (Nat.ne_of_lt hl3.2.2.2.1) F'' mr' ms' mt' (njoin (nhd (ntl (ntl (ntl N'')))) (njoin (nhd (ntl (ntl (ntl (ntl N''))))) (njoin (nhd N'') (njoin (nhd (ntl N'')) (njoin (nhd (ntl (ntl N''))) (njoin (nhd (ntl (ntl (ntl (ntl (ntl N'')))))) (ntl (ntl (ntl (ntl (ntl (ntl N'')))))))))))) li₁ (by simp only [List.length_append, List.length_cons, List.length_nil]; ktr_room) (by simp only [List.length_append, List.length_cons, List.length_nil]; ktr_room)
        (fun h3 tk3 m3 ex3 us3 e3 F3 mt3 N3 st3 k3 n3 => fin h3 tk3 m3 ex3 us3 e3 F3 mt3 N3 (by rw [cutL, if_pos hc]; simpa using st3) k3 n3)
    clear N N₁ F F₁
    k_steps
    all_goals
      rename Fr h₀ _ _ _ => FF
      rename News h₀ _ _ _ => NN
      first
        | (refine cut _ _ _ _ _ _ _ _ _ _ _ _ _ _ _ _ _ _ _ ?c FF ?a1 ?a2 ?a3 NN (by with_reducible assumption) (by with_reducible assumption) (by with_reducible assumption); (case a1 => (repeat rw [if_neg (by decide)]); with_reducible assumption); (case a2 => exact if_pos rfl); (case a3 => (repeat rw [if_neg (by decide)]); with_reducible assumption); (case c => clear FF NN ih fin keep cut hits hcur hdone hok; unfold isCut hit; simp_all))
        | (refine keep _ _ _ _ _ _ _ _ _ _ _ ?c FF ?a1 ?a2 ?a3 NN (by with_reducible assumption); (case a1 => (repeat rw [if_neg (by decide)]); with_reducible assumption); (case a2 => (repeat rw [if_neg (by decide)]); with_reducible assumption); (case a3 => (repeat rw [if_neg (by decide)]); with_reducible assumption); (case c => clear FF NN ih fin keep cut hits hcur hdone hok; unfold isCut hit; simp_all))
end
end Mine
end
section
open PySem PySem.W PyProof.Rows PySem.Calls
namespace Mine
theorem offCutC68 : True := by
  w_top off
  trivial
local macro_rules | `(tactic| walk_at "nowhere") => `(tactic| skip)
set_option maxRecDepth 100000
set_option maxHeartbeats 8000000
set_option linter.unusedVariables false
local macro_rules | `(tactic| walk_at "exec For Tuple Name cons nil") => `(tactic| (refine hold ?_))
section
variable {w : World} {dp un : Nat} {gd : Option (List Code)} {cn : Str} {cs : Scope} {a : Addr} {ccd : Value} {cl : List (Str × Addr)} {outer : List Env} {A₀ : Around} {base h₀ : Heap} {L : Addr} {m : Str → Option Value}  {s : Shared} {p : Program} {loose : List Str} {mean : ExcName → Option Value} {mg mb : Str → Option Value} {Q E : Value → Shared → Prop}
theorem cut_call {q : Addr} {vs : List Value} {its : List Itm} {e r b : Nat} {tr : Tok} {shut : Bool} {news : List (Addr × Obj)}
   (B : Below A₀ base outer h₀) (F : Fr h₀ L s.heap m) (X : (hd.heap_39 w.params).In h₀) (T : Top p loose mean mg mb h₀) (hk : cs.kind = .function) (hdp : dp + 20 < recursionLimit) (hun : un + 100 < cLine)
   (N : News h₀ L s.heap news) (hq : (q, listOf vs.toArray e) ∈ news) (hi : ItemsIn news vs its) (hr : r ≤ 12) (hb : 2 ^ r = b) (hok : ∀ it ∈ its, okN it) (hlen : its.length ≤ 100000)
   (ret : ∀ D ys e' ex h' tk', Fr h₀ L h' m → News h₀ L h' ((D, listOf ys.toArray e') :: (ex ++ news)) → TextsIn ex ys (cutL b shut [] its) → (∀ p ∈ ex, ∀ q ∈ news, @LT.lt Nat _ q.1 p.1) → (∀ q ∈ news, @LT.lt Nat _ q.1 D) → (∀ p ∈ ex, p.1 ≠ D) → Q (.ref D) { s with heap := h', toks := tk' }) :
   wpAny (model prog w) (ktrTop dp un gd cn cs L a ccd cl outer) (call (.ref 122) [.ref q, .int r tr, .bool shut]) Q E s := by
  have hb0 : 0 < b := hb ▸ Nat.two_pow_pos r
  have hb1 : b < 1073741824 := hb ▸ Nat.lt_of_le_of_lt (Nat.pow_le_pow_right (by decide) hr) (by decide)
  refine wpAny_call ?_
  k_dflt ktr_enter
  k_steps
  unfold Hold
  refine wpAny_For ?_
  walk1
  rename News _ _ _ _ => NN
  rename Fr _ _ _ _ => FF
  rename _ ∧ AllLt _ _ => ll
  rename ∀ p ∈ news, @LT.lt Nat _ _ _ => hall0
  refine iterL FF NN (List.mem_cons_of_mem _ (List.mem_cons_of_mem _ hq)) ?_
  intro I h3 oI F3 N3 li l2
  have hl := l2
  simp only [List.forall_mem_cons] at hl
  obtain ⟨a1, a2, a3⟩ := hl
  have hall := allLt_all ll.2
  refine cut_loop (q := q) (us := vs) (e := e) (r := r) (b := b) (by assumption) (by assumption) hr hb hb0 hb1 its vs 0 shut [] [] _ [] [] [] news h3 _ oI _ 0 0 rfl hi .nil .nil hok rfl (by simp) (Nat.le_refl _) hq (ne_of_all a3 (Nat.le_refl _)) (ne_of_all hall (Nat.le_refl _)) (ne_of_all hall0 (Nat.le_refl _)) (Nat.ne_of_gt a1) (Nat.ne_of_gt a2) (Nat.ne_of_gt ll.1) F3 rfl rfl rfl N3 li (by simpa using hlen) (by simpa using hlen) ?_
  intro h4 tk4 m4 ex4 us4 e4 F4 mt4 N4 st4 k4 n4
  dsimp only
  k_steps
  try
    refine ld F4 mt4 ?_ rfl rfl (by decide)
    k_steps
  rename Fr h₀ _ _ _ => kF
  rename News h₀ _ _ _ => kN
  exact ret _ _ _ _ _ _ kF kN st4 (fun p hp q hq => Nat.lt_of_lt_of_le (hall0 q hq) (k4 p hp)) hall n4
end
end Mine
end
section
open PySem PySem.W PyProof.Rows PySem.Calls
namespace Mine
set_option linter.unusedVariables false
noncomputable def duDef : Stmt := topAt 14
noncomputable def duScope : Scope := stScope duDef
noncomputable def duFor : Stmt := stAt (stBody duDef) 3
noncomputable def duTarget : Expr := forTarget duFor
noncomputable def duBody : List Stmt := stBody duFor
noncomputable def duIf : Stmt := stAt duBody 0
noncomputable def duCnt : Expr := exPart (exPart (stVal (stAt (stBody duIf) 0)))
noncomputable def duCntS : Scope := exScope duCnt
noncomputable def duCut : Expr := stVal (stAt (stBody duIf) 1)
noncomputable def duCutS : Scope := exScope duCut
noncomputable def duEsc : Expr := stVal (stAt (stElse duIf) 1)
noncomputable def duEscS : Scope := exScope duEsc
noncomputable def duEin : Expr := exPart duEsc
noncomputable def duEinS : Scope := exScope duEin
noncomputable def duTxt : Expr := exPart (stVal (stAt (stBody duDef) 4))
noncomputable def duTxtS : Scope := exScope duTxt
noncomputable abbrev duEnv (L : Addr) : Env := envOfC (Str.ofString "_law_due") duScope L 127 (.ref 126)
theorem texts_len {N : List (Addr × Obj)} {vs : List Value} {ts : List (List Itm)} (h : TextsIn N vs ts) : vs.length = ts.length := by
  induction h with
  | nil => rfl
  | cons _ _ ih => simp [ih]
theorem texts_tail {x : Addr × Obj} {N : List (Addr × Obj)} {vs : List Value} {ts : List (List Itm)} (h : TextsIn N vs ts) : TextsIn (x :: N) vs ts := texts_sub (fun _ h => List.mem_cons_of_mem _ h) h
theorem texts_app {N : List (Addr × Obj)} {vs us : List Value} {ts rs : List (List Itm)} (h : TextsIn N vs ts) (h2 : TextsIn N us rs) : TextsIn N (vs ++ us) (ts ++ rs) := by
  induction h with
  | nil => exact h2
  | cons hi _ ih => exact .cons hi ih
theorem items_len {N : List (Addr × Obj)} {vs : List Value} {ts : List Itm} (h : ItemsIn N vs ts) : vs.length = ts.length := by
  induction h with
  | nil => rfl
  | cons _ _ ih => simp [ih]
theorem okN_of {it : Itm} (h : okF it) : okN it := ⟨h.1, by have := h.2.1; ktr_room, h.2.2.1, h.2.2.2.1, h.2.2.2.2⟩
end Mine
end
section
open PySem PySem.W PyProof.Rows PySem.Calls
namespace Mine
theorem offEscD68 : True := by
  w_top off
  trivial
set_option maxRecDepth 100000
set_option maxHeartbeats 8000000
set_option linter.unusedVariables false
local macro_rules | `(tactic| walk_at "binaryOp Add str str") => `(tactic| (refine hold ?_))
theorem escW_true {d : Int} {s w : Str} (h : (w != Str.ofString "") = true) : Str.ofString "&amp;" ++ Txt.slice w (some 1) none = escW d s w := by
  unfold escW
  rw [if_pos h]
  have hl : w.cps.size ≠ 0 := by
    intro q
    have : w = Str.ofString "" := by
      have e2 : Str.ofString "" = ⟨#[]⟩ := by decide
      rw [e2]; obtain ⟨a⟩ := w; congr 1; exact Array.eq_empty_of_size_eq_zero q
    rw [this] at h; simp at h
  have e1 := slice_from_eq (x := w) (i := 1) (b := (w.length : Int)) (by decide) (by show (1 : Int) ≤ (w.cps.size : Int); ktr_room) rfl
  rw [e1]
  congr 1
  rw [List.take_of_length_le]
  · rfl
  · simp only [List.length_drop, Array.length_toList]
    show w.cps.size - _ ≤ (((w.cps.size : Nat) : Int) - 1).toNat
    ktr_room
theorem escW_false {d : Int} {s w : Str} (h : (w != Str.ofString "") = false) : tabS d s = escW d s w := by
  unfold escW
  rw [if_neg (by rw [h]; decide)]
section
variable {w : World} {A : Around} {Q E : Value → Shared → Prop} {s : Shared} {h₀ : Heap} {L tb : Addr} {news : List (Addr × Obj)}
theorem tab_method {pl : Sem Bool} {o : Obj} {kvs : List (Str × Value)} {Q : Value × List Value → Shared → Prop} (N : News h₀ L s.heap news) (hp : (tb, o) ∈ news) (hd : Obj.IsDictOf (strKind prog w) o kvs) (h : Q (.builtin "dict.get", [.ref tb]) s) :
    wpAny (model prog w) A (getMethod (.ref tb) (Str.ofString "get") pl) Q E s := kdg_method N hp hd h
theorem tab_get {o : Obj} {kvs : List (Str × Value)} {d : Int} {x : Str} {tx te : Tok} (N : News h₀ L s.heap news) (hp : (tb, o) ∈ news) (hd : Obj.IsDictOf (strKind prog w) o kvs) (lo : (tb == sysModules) = false) (hP : PairsAre kvs (tabPairs d))
   (h : ∀ t, Q (.str (tabS d x) t) { s with toks := s.toks + 1 }) : wpAny (model prog w) A (call (.builtin "dict.get") [.ref tb, .str x tx, .str (Str.ofString "") te]) Q E s := by
  obtain ⟨t, ht⟩ := hP.get x te
  exact kdg_get2 N hp hd lo (strKind_is _ _ _ _) _ rfl (ht ▸ h t)
end
local macro_rules | `(tactic| walk_at "getMethod ref") => `(tactic| (refine hold ?_))
local macro_rules | `(tactic| walk_at "call builtin:dict.get") => `(tactic| (refine hold ?_))
section
variable {w : World} {dp un : Nat} {gd : Option (List Code)} {cn : Str} {cs : Scope} {a : Addr} {ccd : Value} {cl : List (Str × Addr)} {outer : List Env} {A₀ : Around} {base h₀ : Heap} {L : Addr} {m : Str → Option Value}  {p : Program} {loose : List Str} {mean : ExcName → Option Value} {mg mb : Str → Option Value} {Q E : Value → Shared → Prop}
noncomputable abbrev escEnv (C L : Addr) : Env := compEnvC duEscS [(Str.ofString "table", L + 1 + 1 + 1)] C (duEnv L)
/-- the turns of the block that writes one text -/
theorem ein_loop {C D J B₁ q tb K : Addr} {us : List Value} {e : Nat} {d : Int} {oT oB : Obj} {kvs : List (Str × Value)} {A : Around} {s : Shared} {R : Result → Shared → Prop} {news0 : List (Addr × Obj)}
   (X : (hd.heap_39 w.params).In h₀) (T : Top p loose mean mg mb h₀) (hh : A.handled = none) 
   (hJC : @Ne Nat J C) (hJD : @Ne Nat J D) (hCD : @Ne Nat C D) (hKJ : @LE.le Nat _ K J)
   (hq : (q, listOf us.toArray e) ∈ news0) (hcT : (L + 1 + 1 + 1, oT) ∈ news0) (hTd : oT.data = .cell (some (.ref tb))) (htb : (tb, oB) ∈ news0) (hB : Obj.IsDictOf (strKind prog w) oB kvs) (lo : (tb == sysModules) = false) (hP : PairsAre kvs (tabPairs d)) :
   ∀ (its : List Itm) (vs : List Value) (i : Nat) (ys : List Value) (zs : List Itm) (ex news : List (Addr × Obj)) (h : Heap) (tk : Nat) (oJ oC : Obj) (mm : Str → Option Value), us.drop i = vs → ItemsIn news0 vs its → ItemsIn ex ys zs → news = ex ++ news0 → (∀ p ∈ ex, @LE.le Nat _ K p.1) → (∀ it ∈ its, okN it) →
     (∀ p ∈ news, p.1 ≠ J) → (∀ p ∈ news, p.1 ≠ C) → (∀ p ∈ news, p.1 ≠ D) →
     Fr h₀ L h m → News h₀ L h ((J, oJ) :: (C, oC) :: (D, LCg.lst ys) :: news) → LiIs oJ q i → LCg.NsObj oC mm → ys.length + its.length ≤ 100000 →
     (∀ h' tk' oC' mm' ys' ex', Fr h₀ L h' m → News h₀ L h' ((C, oC') :: (D, LCg.lst ys') :: (ex' ++ news0)) → LCg.NsObj oC' mm' → ItemsIn ex' ys' (zs ++ its.map (escIt d)) → (∀ p ∈ ex' ++ news0, p.1 ≠ C) → (∀ p ∈ ex', p.1 ≠ D) → (∀ p ∈ ex', @LE.le Nat _ K p.1) → R (.ok .next) { s with heap := h', toks := tk' }) →
     codeAny (model prog w) A (.compLoop duEin 0 (.ref J) (.ref D) (compEnvC duEinS [(Str.ofString "table", L + 1 + 1 + 1)] C (escEnv B₁ L))) R { s with heap := h, toks := tk } := by
  intro its
  induction its with
  | nil =>
    intro vs i ys zs ex news h tk oJ oC mm hvs hits hzs hnw hxK hok hJ hC hD F N li hns hyl fin
    cases hits
    conv in duEin => whnf
    refine turn1 ?_
    refine c_done hh F N (List.forall_mem_cons.mpr ⟨Ne.symm hJC, List.forall_mem_cons.mpr ⟨Ne.symm hJD, hJ⟩⟩) li (List.mem_cons_of_mem _ (List.mem_cons_of_mem _ (hnw ▸ List.mem_append_right _ hq))) (drop_nil hvs) ?_
    intro h' F' N'
    subst hnw
    exact fin _ _ _ _ _ _ F' N' hns (by simpa using hzs) hC (fun p hp => hD p (List.mem_append_left _ hp)) hxK
  | cons it its ih =>
    intro vs i ys zs ex news h tk oJ oC mm hvs hits hzs hnw hxK hok hJ hC hD F N li hns hyl fin
    cases hits with
    | @cons v _ vs _ hit hits =>
    obtain ⟨h1, h2⟩ := drop_cons hvs
    obtain ⟨qi, tn, ts, tl, tw, ei, rfl, hqi0⟩ := hit
    have sub0 : ∀ p ∈ news0, p ∈ news := fun p hp => hnw ▸ List.mem_append_right _ hp
    have hqi := sub0 _ hqi0
    have hcTn := sub0 _ hcT
    have htbn := sub0 _ htb
    simp only [List.length_cons] at hyl
    obtain ⟨n0, n1, n2, n3, n4⟩ := hok it (List.mem_cons_self ..)
    conv in duEin => whnf
    refine turn1 ?_
    refine c_tup hh F N (by simpa using hJC) (List.forall_mem_cons.mpr ⟨Ne.symm hJD, hJ⟩) (List.forall_mem_cons.mpr ⟨Ne.symm hCD, hC⟩) li hns (List.mem_cons_of_mem _ (sub0 _ hq)) h1 (List.mem_cons_of_mem _ hqi) rfl rfl rfl rfl rfl (by decide) ?_
    intro h' tk oJ' oC' m2 F' N' li' hns' e1 e2 e3 e4
    have next : ∀ h'' tk'' x y t1 t2 t3 t4 ee, y = escW d it.s it.w → Fr h₀ L h'' m → News h₀ L h'' ((x, listOf #[.int it.n t1, .str it.s t2, .str it.l t3, .str y t4] ee) :: (J, oJ') :: (C, oC') :: (D, listOf (ys ++ [Value.ref x]).toArray (ys.length + 1)) :: news) → (@LT.lt Nat _ J x ∧ @LT.lt Nat _ C x ∧ @LT.lt Nat _ D x ∧ AllLt x news) →
       codeAny (model prog w) A (.compLoop duEin 0 (.ref J) (.ref D) (compEnvC duEinS [(Str.ofString "table", L + 1 + 1 + 1)] C (escEnv B₁ L))) R { s with heap := h'', toks := tk'' } := by
      intro h'' tk'' x y t1 t2 t3 t4 ee hy F'' N'' hl
      subst hy
      rw [lst_eq] at N''
      refine ih vs (i + 1) (ys ++ [.ref x]) (zs ++ [escIt d it]) ((x, listOf #[.int it.n t1, .str it.s t2, .str it.l t3, .str (escW d it.s it.w) t4] ee) :: ex) ((x, listOf #[.int it.n t1, .str it.s t2, .str it.l t3, .str (escW d it.s it.w) t4] ee) :: news) h'' tk'' oJ' oC' m2 h2 hits (items_snoc (items_tail hzs) ⟨x, t1, t2, t3, t4, ee, rfl, List.mem_cons_self ..⟩) (by rw [hnw]; rfl)
        (List.forall_mem_cons.mpr ⟨Nat.le_trans hKJ (Nat.le_of_lt hl.1), hxK⟩) (fun x hx => hok x (List.mem_cons_of_mem _ hx))
        (List.forall_mem_cons.mpr ⟨Nat.ne_of_gt hl.1, hJ⟩) (List.forall_mem_cons.mpr ⟨Nat.ne_of_gt hl.2.1, hC⟩) (List.forall_mem_cons.mpr ⟨Nat.ne_of_gt hl.2.2.1, hD⟩) F'' (njoin (nhd (ntl N'')) (njoin (nhd (ntl (ntl N''))) (njoin (nhd (ntl (ntl (ntl N'')))) (njoin (nhd N'') (ntl (ntl (ntl (ntl N'')))))))) li' hns' (by simp only [List.length_append, List.length_cons, List.length_nil]; ktr_room)
        (fun h3 tk3 oC3 m3 ys3 ex3 F3 N3 ns3 st3 c3 d3 k3 => fin h3 tk3 oC3 m3 ys3 ex3 F3 N3 ns3 (by simpa using st3) c3 d3 k3)
    refine wpAny_tests_nil ?_
    simp only [if_true]
    conv in (occs := *) duEinS => all_goals whnf
    unfold escEnv
    conv in (occs := *) duEscS => all_goals whnf
    unfold duEnv
    conv in (occs := *) duScope => all_goals whnf
    k_steps
    focus
      unfold Hold
      k_dflt (refine addS ?z7 ?_; (case z7 => ((try simp only [app_len', tail_len]); (have hS9 : (Str.ofString "&amp;").length = 5 := by decide); ktr_room)))
      intro _ _
      k_steps
    rotate_left
    focus
      unfold Hold
      k_dflt (refine' tab_method ?N7 ?m7 ?d7 ?_; (case N7 => k_asm); (case m7 => k_mem); (case d7 => with_reducible assumption))
      k_steps
      unfold Hold
      k_dflt (refine' tab_get ?N8 ?m8 ?d8 ?l8 ?p8 ?_; (case N8 => k_asm); (case m8 => k_mem); (case d8 => with_reducible assumption); (case l8 => with_reducible assumption); (case p8 => with_reducible assumption))
      intro _
      k_steps
    all_goals
      rename ((_ : Str) != _) = _ => hw
      rename Fr _ _ _ _ => FF
      rename News _ _ _ _ => NN
      rename _ ∧ _ => ll
      refine next _ _ _ _ _ _ _ _ _ ?_ FF NN ll
      first
        | exact escW_true hw
        | exact escW_false hw
/-- one text written: the inner block -/
theorem ein_comp {q C₁ tb : Addr} {us : List Value} {e : Nat} {its : List Itm} {d : Int} {oT oB oC₁ : Obj} {kvs : List (Str × Value)} {mm₁ : Str → Option Value} {A : Around} {s : Shared} {news : List (Addr × Obj)}
   (X : (hd.heap_39 w.params).In h₀) (T : Top p loose mean mg mb h₀) (hh : A.handled = none) 
   (F : Fr h₀ L s.heap m) (N : News h₀ L s.heap news) (hC1 : (C₁, oC₁) ∈ news) (hns : LCg.NsObj oC₁ mm₁) (mt : mm₁ (Str.ofString "text") = some (.ref q)) (hq : (q, listOf us.toArray e) ∈ news) (hi : ItemsIn news us its)
   (hcT : (L + 1 + 1 + 1, oT) ∈ news) (hTd : oT.data = .cell (some (.ref tb))) (htb : (tb, oB) ∈ news) (hB : Obj.IsDictOf (strKind prog w) oB kvs) (lo : (tb == sysModules) = false) (hP : PairsAre kvs (tabPairs d))
   (hok : ∀ it ∈ its, okN it) (hlen : its.length ≤ 100000)
   (ret : ∀ D ys ex h' tk', Fr h₀ L h' m → News h₀ L h' ((D, LCg.lst ys) :: (ex ++ news)) → ItemsIn ex ys (its.map (escIt d)) → (∀ p ∈ ex, ∀ q ∈ news, @LT.lt Nat _ q.1 p.1) → (∀ q ∈ news, @LT.lt Nat _ q.1 D) → (∀ p ∈ ex, p.1 ≠ D) → Q (.ref D) { s with heap := h', toks := tk' }) :
   wpAny (model prog w) A (eval duEin (escEnv C₁ L)) Q E s := by
  conv in duEin => whnf
  refine c_open F rfl (by decide) rfl (by decide) ?_ (by intro _; rfl)
  refine LCgL.ld_own N hC1 hns mt ?_ rfl rfl (by decide)
  refine c_src F N hq ?_
  intro I C D h tk oI oC mm F' N' li hns' hlt hID hDC
  have hI := ne_of_all hlt (Nat.le_refl I)
  have hD := ne_of_all (x := D) hlt (Nat.le_of_lt hID)
  have hC := ne_of_all (x := C) hlt (Nat.le_of_lt (Nat.lt_trans hID hDC))
  refine ein_loop (q := q) (us := us) (e := e) (K := I) (news0 := news) (d := d) X T hh ((by k_ne)) ((by k_ne)) ((by k_ne)) (Nat.le_refl _) hq hcT hTd htb hB lo hP its us 0 [] [] [] news h tk oI oC mm rfl hi .nil rfl (by simp) hok hI hC hD F' N' li hns' (by simp only [List.length_nil]; ktr_room) ?_
  intro h2 tk2 oC2 mm2 ys2 ex2 F2 N2 ns2 tx2 hC2 hD2 hK2
  refine c_fin F2 N2 (List.forall_mem_cons.mpr ⟨(by k_ne), hC2⟩) ns2 ?_
  intro h3 F3 N3
  exact ret _ _ _ _ _ F3 N3 (by simpa using tx2) (fun p hp q hq => Nat.lt_of_lt_of_le (hlt q hq) (hK2 p hp)) (fun p hp => Nat.lt_trans (hlt p hp) hID) hD2
/-- the turns of the block that writes each text -/
theorem esc_loop {C D I q tb K : Addr} {us : List Value} {e : Nat} {d : Int} {oT oB : Obj} {kvs : List (Str × Value)} {A : Around} {s : Shared} {R : Result → Shared → Prop} {news0 : List (Addr × Obj)}
   (X : (hd.heap_39 w.params).In h₀) (T : Top p loose mean mg mb h₀) (hh : A.handled = none) 
   (hIC : @Ne Nat I C) (hID : @Ne Nat I D) (hCD : @Ne Nat C D) (hKI : @LE.le Nat _ K I)
   (hq : (q, listOf us.toArray e) ∈ news0) (hcT : (L + 1 + 1 + 1, oT) ∈ news0) (hTd : oT.data = .cell (some (.ref tb))) (htb : (tb, oB) ∈ news0) (hB : Obj.IsDictOf (strKind prog w) oB kvs) (lo : (tb == sysModules) = false) (hP : PairsAre kvs (tabPairs d)) :
   ∀ (ts : List (List Itm)) (vs : List Value) (i : Nat) (ys : List Value) (zs : List (List Itm)) (ex news : List (Addr × Obj)) (h : Heap) (tk : Nat) (oI oC : Obj) (mm : Str → Option Value), us.drop i = vs → TextsIn news0 vs ts → TextsIn ex ys zs → news = ex ++ news0 → (∀ p ∈ ex, @LE.le Nat _ K p.1) → (∀ t ∈ ts, t.length ≤ 20 ∧ ∀ it ∈ t, okN it) →
     (∀ p ∈ news, p.1 ≠ I) → (∀ p ∈ news, p.1 ≠ C) → (∀ p ∈ news, p.1 ≠ D) →
     Fr h₀ L h m → News h₀ L h ((I, oI) :: (C, oC) :: (D, LCg.lst ys) :: news) → LiIs oI q i → LCg.NsObj oC mm → ys.length + ts.length ≤ 100000 →
     (∀ h' tk' oC' mm' ys' ex', Fr h₀ L h' m → News h₀ L h' ((C, oC') :: (D, LCg.lst ys') :: (ex' ++ news0)) → LCg.NsObj oC' mm' → TextsIn ex' ys' (zs ++ ts.map fun t => t.map (escIt d)) → (∀ p ∈ ex' ++ news0, p.1 ≠ C) → (∀ p ∈ ex', p.1 ≠ D) → (∀ p ∈ ex', @LE.le Nat _ K p.1) → R (.ok .next) { s with heap := h', toks := tk' }) →
     codeAny (model prog w) A (.compLoop duEsc 0 (.ref I) (.ref D) (escEnv C L)) R { s with heap := h, toks := tk } := by
  intro ts
  induction ts with
  | nil =>
    intro vs i ys zs ex news h tk oI oC mm hvs hits hzs hnw hxK hok hI hC hD F N li hns hyl fin
    cases hits
    conv in duEsc => whnf
    refine turn1 ?_
    refine c_done hh F N (List.forall_mem_cons.mpr ⟨Ne.symm hIC, List.forall_mem_cons.mpr ⟨Ne.symm hID, hI⟩⟩) li (List.mem_cons_of_mem _ (List.mem_cons_of_mem _ (hnw ▸ List.mem_append_right _ hq))) (drop_nil hvs) ?_
    intro h' F' N'
    subst hnw
    exact fin _ _ _ _ _ _ F' N' hns (by simpa using hzs) hC (fun p hp => hD p (List.mem_append_left _ hp)) hxK
  | cons t ts ih =>
    intro vs i ys zs ex news h tk oI oC mm hvs hits hzs hnw hxK hok hI hC hD F N li hns hyl fin
    cases hits with
    | @cons v _ vs _ hit hits =>
    obtain ⟨h1, h2⟩ := drop_cons hvs
    obtain ⟨qt, vt, et, rfl, hqt0, hti0⟩ := hit
    have sub0 : ∀ p ∈ news0, p ∈ news := fun p hp => hnw ▸ List.mem_append_right _ hp
    have hqt := sub0 _ hqt0
    have hti := items_sub sub0 hti0
    have hcTn := sub0 _ hcT
    have htbn := sub0 _ htb
    simp only [List.length_cons] at hyl
    conv in duEsc => whnf
    refine turn1 ?_
    refine c_name F N (by simpa using hIC) (List.forall_mem_cons.mpr ⟨Ne.symm hID, hI⟩) (List.forall_mem_cons.mpr ⟨Ne.symm hCD, hC⟩) li hns (List.mem_cons_of_mem _ (sub0 _ hq)) h1 rfl rfl ?_
    intro h' tk oI' oC' m2 F' N' li' hns' e1 e2
    refine wpAny_tests_nil ?_
    simp only [if_true]
    refine ein_comp (q := qt) (us := vt) (its := t) (d := d) (C₁ := C) (tb := tb) X T hh F' N' (List.mem_cons_of_mem _ (List.mem_cons_self ..)) hns' e1 (List.mem_cons_of_mem _ (List.mem_cons_of_mem _ (List.mem_cons_of_mem _ hqt))) (items_tail (items_tail (items_tail hti))) (List.mem_cons_of_mem _ (List.mem_cons_of_mem _ (List.mem_cons_of_mem _ hcTn))) hTd (List.mem_cons_of_mem _ (List.mem_cons_of_mem _ (List.mem_cons_of_mem _ htbn))) hB lo hP (hok t (List.mem_cons_self ..)).2 (by have := (hok t (List.mem_cons_self ..)).1; ktr_room) ?_
    intro Dc ysc exc hc tkc Fc Nc htx hfr hDc hne
    have hfI : ∀ p ∈ exc, @LT.lt Nat _ I p.1 := fun p hp => hfr p hp _ (List.mem_cons_self ..)
    have hfC : ∀ p ∈ exc, @LT.lt Nat _ C p.1 := fun p hp => hfr p hp _ (List.mem_cons_of_mem _ (List.mem_cons_self ..))
    have hfD : ∀ p ∈ exc, @LT.lt Nat _ D p.1 := fun p hp => hfr p hp _ (List.mem_cons_of_mem _ (List.mem_cons_of_mem _ (List.mem_cons_self ..)))
    simp only [List.forall_mem_cons] at hDc
    obtain ⟨d2, d3, d4, d5⟩ := hDc
    have Nd : News h₀ L hc ((D, LCg.lst ys) :: (Dc, LCg.lst ysc) :: (I, oI') :: (C, oC') :: (exc ++ news)) := (njoin (nhd (ntl (ntl (nr (ntl Nc))))) (njoin (nhd Nc) (njoin (nhd (nr (ntl Nc))) (njoin (nhd (ntl (nr (ntl Nc)))) (napp (nl (ntl Nc)) (ntl (ntl (ntl (nr (ntl Nc))))))))))
    refine appendL (D := D) (us := ys) (n := ys.length) (news' := (D, listOf (ys ++ [Value.ref Dc]).toArray (ys.length + 1)) :: (Dc, LCg.lst ysc) :: (I, oI') :: (C, oC') :: (exc ++ news)) Fc Nd ?_ (by ktr_room) ?_
    · exact .head (List.forall_mem_cons.mpr ⟨Nat.ne_of_gt d4, List.forall_mem_cons.mpr ⟨hID, List.forall_mem_cons.mpr ⟨hCD, List.forall_mem_append.mpr ⟨fun p hp => Nat.ne_of_gt (hfD p hp), hD⟩⟩⟩⟩)
    intro h4 F4 N4
    rw [lst_eq] at N4
    refine ih vs (i + 1) (ys ++ [.ref Dc]) (zs ++ [t.map (escIt d)]) ((Dc, LCg.lst ysc) :: (exc ++ ex)) ((Dc, LCg.lst ysc) :: (exc ++ news)) h4 _ oI' oC' m2 h2 hits (texts_snoc (texts_sub (fun p hp => List.mem_cons_of_mem _ (List.mem_append_right _ hp)) hzs) ⟨Dc, ysc, _, rfl, List.mem_cons_self .., items_sub (fun p hp => List.mem_cons_of_mem _ (List.mem_append_left _ hp)) htx⟩) (by rw [hnw, List.cons_append, List.append_assoc])
      (List.forall_mem_cons.mpr ⟨Nat.le_trans hKI (Nat.le_of_lt d2), List.forall_mem_append.mpr ⟨fun p hp => Nat.le_trans hKI (Nat.le_of_lt (hfI p hp)), hxK⟩⟩) (fun t ht => hok t (List.mem_cons_of_mem _ ht))
      (List.forall_mem_cons.mpr ⟨Nat.ne_of_gt d2, List.forall_mem_append.mpr ⟨fun p hp => Nat.ne_of_gt (hfI p hp), hI⟩⟩) (List.forall_mem_cons.mpr ⟨Nat.ne_of_gt d3, List.forall_mem_append.mpr ⟨fun p hp => Nat.ne_of_gt (hfC p hp), hC⟩⟩) (List.forall_mem_cons.mpr ⟨Nat.ne_of_gt d4, List.forall_mem_append.mpr ⟨fun p hp => Nat.ne_of_gt (hfD p hp), hD⟩⟩)
      F4 (njoin (nhd (ntl (ntl N4))) (njoin (nhd (ntl (ntl (ntl N4)))) (njoin (nhd N4) (njoin (nhd (ntl N4)) (ntl (ntl (ntl (ntl N4)))))))) li' hns' (by simp only [List.length_append, List.length_cons, List.length_nil]; ktr_room)
      (fun h3 tk3 oC3 m3 ys3 ex3 F3 N3 ns3 st3 c3 d3 k3 => fin h3 tk3 oC3 m3 ys3 ex3 F3 N3 ns3 (by simpa using st3) c3 d3 k3)
noncomputable def duEscSt : Stmt := stAt (stElse duIf) 1
theorem esc_stmt {q tb : Addr} {us : List Value} {e : Nat} {ts : List (List Itm)} {d : Int} {oT oB : Obj} {kvs : List (Str × Value)} {A : Around} {s : Shared} {Q : Flow → Shared → Prop} {news : List (Addr × Obj)}
   (X : (hd.heap_39 w.params).In h₀) (T : Top p loose mean mg mb h₀) (hh : A.handled = none) 
   (F : Fr h₀ L s.heap m) (N : News h₀ L s.heap news) (mt : m (Str.ofString "texts") = some (.ref q)) (hq : (q, listOf us.toArray e) ∈ news) (hts : TextsIn news us ts)
   (hcT : (L + 1 + 1 + 1, oT) ∈ news) (hTd : oT.data = .cell (some (.ref tb))) (htb : (tb, oB) ∈ news) (hB : Obj.IsDictOf (strKind prog w) oB kvs) (lo : (tb == sysModules) = false) (hP : PairsAre kvs (tabPairs d))
   (hf : Fine ts)
   (ret : ∀ D ys ex h' tk', Fr h₀ L h' (fun z => if z = Str.ofString "texts" then some (.ref D) else m z) → News h₀ L h' ((D, LCg.lst ys) :: (ex ++ news)) → TextsIn ex ys (ts.map fun t => t.map (escIt d)) → (∀ p ∈ ex, ∀ q ∈ news, @LT.lt Nat _ q.1 p.1) → (∀ q ∈ news, @LT.lt Nat _ q.1 D) → (∀ p ∈ ex, p.1 ≠ D) → Q .next { s with heap := h', toks := tk' }) :
   wpAny (model prog w) A (exec duEscSt (duEnv L)) Q E s := by
  conv in duEscSt => whnf
  refine c_openU rfl F rfl (by decide) rfl (by decide) ?_ (by intro _; rfl)
  refine nameX_L F mt ?_ rfl rfl
  refine c_srcU F N hq ?_
  intro I C D h tk oI oC mm F' N' li hns hlt hID hDC
  have hI := ne_of_all hlt (Nat.le_refl I)
  have hD := ne_of_all (x := D) hlt (Nat.le_of_lt hID)
  have hC := ne_of_all (x := C) hlt (Nat.le_of_lt (Nat.lt_trans hID hDC))
  have hfl := hf.1
  refine esc_loop (q := q) (us := us) (e := e) (K := I) (news0 := news) (d := d) X T hh ((by k_ne)) ((by k_ne)) ((by k_ne)) (Nat.le_refl _) hq hcT hTd htb hB lo hP ts us 0 [] [] [] news h tk oI oC mm rfl hts .nil rfl (by simp) (fun t ht => ⟨(hf.2 t ht).1, fun it hi => okN_of ((hf.2 t ht).2 it hi)⟩) hI hC hD F' N' li hns (by simp only [List.length_nil]; ktr_room) ?_
  intro h2 tk2 oC2 mm2 ys2 ex2 F2 N2 ns2 tx2 hC2 hD2 hK2
  refine c_finU F2 N2 (List.forall_mem_cons.mpr ⟨(by k_ne), hC2⟩) ns2 ?_ rfl rfl
  intro h3 F3 N3
  exact ret _ _ _ _ _ F3 N3 (by simpa using tx2) (fun p hp q hq => Nat.lt_of_lt_of_le (hlt q hq) (hK2 p hp)) (fun p hp => Nat.lt_trans (hlt p hp) hID) hD2
end
end Mine
end
section
open PySem PySem.W PyProof.Rows PySem.Calls
namespace Mine
theorem offTxtD68 : True := by
  w_top off
  trivial
set_option maxRecDepth 100000
set_option maxHeartbeats 8000000
set_option linter.unusedVariables false


section
variable {w : World} {dp un : Nat} {gd : Option (List Code)} {cn : Str} {cs : Scope} {a : Addr} {ccd : Value} {cl : List (Str × Addr)} {outer : List Env} {A₀ : Around} {base h₀ : Heap} {L : Addr} {m : Str → Option Value}  {p : Program} {loose : List Str} {mean : ExcName → Option Value} {mg mb : Str → Option Value} {Q E : Value → Shared → Prop}
noncomputable def textS (b : Nat) (t : List Itm) : Str := Txt.join (Str.ofString "") (t.map (pieceS b))
theorem piece_short {b : Nat} {it : Itm} (h : okF it) : (pieceS b it).length ≤ 7000 := by
  obtain ⟨h0, h1, h2, h3, h4⟩ := h
  unfold pieceS
  rw [app_len', app_len', runS_len]
  have h5 : it.n / (b : Int) ≤ it.n := Int.ediv_le_self _ h0
  have h6 : (it.n / (b : Int)).toNat ≤ 5000 := by ktr_room
  split <;> ktr_room
theorem pieces_sum {b : Nat} : ∀ t : List Itm, (∀ it ∈ t, okF it) → ((t.map (pieceS b)).map (·.length)).sum ≤ t.length * 7000
  | [], _ => by simp
  | it :: t, h => by
    have h1 := piece_short (b := b) (h it (List.mem_cons_self ..))
    have h2 := pieces_sum (b := b) t fun x hx => h x (List.mem_cons_of_mem _ hx)
    rw [List.map_cons, List.map_cons, List.sum_cons, List.length_cons, Nat.succ_mul]
    ktr_room
/-- the turns of the last block: the texts written out -/
theorem txt_loop {C D I q : Addr} {us : List Value} {e r : Nat} {tr : Tok} {oR : Obj} {news : List (Addr × Obj)} {s : Shared} {R : Result → Shared → Prop}
   (B : Below A₀ base outer h₀) (X : (hd.heap_39 w.params).In h₀) (T : Top p loose mean mg mb h₀) (hk : cs.kind = .function) (hdp : dp + 20 < recursionLimit) (hun : un + 100 < cLine)
   (hr : r ≤ 12) (hRd : oR.data = .cell (some (.int r tr)))
   (hIC : @Ne Nat I C) (hID : @Ne Nat I D) (hCD : @Ne Nat C D)
   (hq : (q, listOf us.toArray e) ∈ news) (hcR : (L + 1, oR) ∈ news) (hI : ∀ p ∈ news, p.1 ≠ I) (hC : ∀ p ∈ news, p.1 ≠ C) (hD : ∀ p ∈ news, p.1 ≠ D) :
   ∀ (ts : List (List Itm)) (vs : List Value) (i : Nat) (ys : List Value) (zs : List Str) (h : Heap) (tk : Nat) (oI oC : Obj) (mm : Str → Option Value), us.drop i = vs → TextsIn news vs ts → StrsAre ys zs → (∀ t ∈ ts, t.length ≤ 20 ∧ ∀ it ∈ t, okF it) →
     Fr h₀ L h m → News h₀ L h ((I, oI) :: (C, oC) :: (D, LCg.lst ys) :: news) → LiIs oI q i → LCg.NsObj oC mm → ys.length + ts.length ≤ 100000 →
     (∀ h' tk' oC' mm' ys', Fr h₀ L h' m → News h₀ L h' ((C, oC') :: (D, LCg.lst ys') :: news) → LCg.NsObj oC' mm' → StrsAre ys' (zs ++ ts.map (textS (2 ^ r))) → R (.ok .next) { s with heap := h', toks := tk' }) →
     codeAny (model prog w) (ktrTop dp un gd cn cs L a ccd cl outer) (.compLoop duTxt 0 (.ref I) (.ref D) (compEnvC duTxtS [(Str.ofString "reads", L + 1)] C (duEnv L))) R { s with heap := h, toks := tk } := by
  intro ts
  induction ts with
  | nil =>
    intro vs i ys zs h tk oI oC mm hvs hits hzs hok F N li hns hyl fin
    cases hits
    conv in duTxt => whnf
    refine turn1 ?_
    refine c_done rfl F N (List.forall_mem_cons.mpr ⟨Ne.symm hIC, List.forall_mem_cons.mpr ⟨Ne.symm hID, hI⟩⟩) li (List.mem_cons_of_mem _ (List.mem_cons_of_mem _ hq)) (drop_nil hvs) ?_
    intro h' F' N'
    exact fin _ _ _ _ _ F' N' hns (by simpa using hzs)
  | cons t ts ih =>
    intro vs i ys zs h tk oI oC mm hvs hits hzs hok F N li hns hyl fin
    cases hits with
    | @cons v _ vs _ hit hits =>
    obtain ⟨h1, h2⟩ := drop_cons hvs
    obtain ⟨qt, vt, et, rfl, hqt, hti⟩ := hit
    simp only [List.length_cons] at hyl
    conv in duTxt => whnf
    refine turn1 ?_
    refine c_name F N (by simpa using hIC) (List.forall_mem_cons.mpr ⟨Ne.symm hID, hI⟩) (List.forall_mem_cons.mpr ⟨Ne.symm hCD, hC⟩) li hns (List.mem_cons_of_mem _ hq) h1 rfl rfl ?_
    intro h' tk oI' oC' m2 F' N' li' hns' e1 e2
    have next : ∀ h'' tk'' t', Fr h₀ L h'' m → News h₀ L h'' ((I, oI') :: (C, oC') :: (D, listOf (ys ++ [Value.str (textS (2 ^ r) t) t']).toArray (ys.length + 1)) :: news) →
       codeAny (model prog w) (ktrTop dp un gd cn cs L a ccd cl outer) (.compLoop duTxt 0 (.ref I) (.ref D) (compEnvC duTxtS [(Str.ofString "reads", L + 1)] C (duEnv L))) R { s with heap := h'', toks := tk'' } := by
      intro h'' tk'' t' F'' N''
      rw [lst_eq] at N''
      exact ih vs (i + 1) _ (zs ++ [textS (2 ^ r) t]) h'' tk'' oI' oC' m2 h2 hits (strsAre_snoc hzs) (fun t ht => hok t (List.mem_cons_of_mem _ ht)) F'' N'' li' hns' (by simp only [List.length_append, List.length_cons, List.length_nil]; ktr_room)
        (fun h3 tk3 oC3 m3 ys3 F3 N3 ns3 st3 => fin h3 tk3 oC3 m3 ys3 F3 N3 ns3 (by simpa using st3))
    refine wpAny_tests_nil ?_
    simp only [if_true]
    conv in (occs := *) duTxtS => all_goals whnf
    unfold duEnv
    conv in (occs := *) duScope => all_goals whnf
    k_steps
    have hokt := hok t (List.mem_cons_self ..)
    have hsum := pieces_sum (b := 2 ^ r) t hokt.2
    refine text_call (q := qt) (vs := vt) (its := t) (r := r) (b := 2 ^ r) B F' X T hk (by ktr_room) (by ktr_room) N' (List.mem_cons_of_mem _ (List.mem_cons_of_mem _ (List.mem_cons_of_mem _ hqt))) (items_tail (items_tail (items_tail hti))) hr rfl (fun it hi => okN_of (hokt.2 it hi)) (by ktr_room) (by have := hokt.1; ktr_room) ?_
    intro t' hc tkc Fc Nc
    dsimp only
    k_steps
    rename Fr _ _ _ _ => FF
    rename News _ _ _ _ => NN
    exact next _ _ _ FF NN
theorem txt_comp {q : Addr} {us : List Value} {e r : Nat} {tr : Tok} {oR : Obj} {ts : List (List Itm)} {news : List (Addr × Obj)} {s : Shared}
   (B : Below A₀ base outer h₀) (X : (hd.heap_39 w.params).In h₀) (T : Top p loose mean mg mb h₀) (hk : cs.kind = .function) (hdp : dp + 20 < recursionLimit) (hun : un + 100 < cLine)
   (F : Fr h₀ L s.heap m) (N : News h₀ L s.heap news) (mt : m (Str.ofString "texts") = some (.ref q)) (hq : (q, listOf us.toArray e) ∈ news) (hts : TextsIn news us ts)
   (hr : r ≤ 12) (hRd : oR.data = .cell (some (.int r tr))) (hcR : (L + 1, oR) ∈ news) (hf : Fine ts)
   (ret : ∀ D ys h' tk', Fr h₀ L h' m → News h₀ L h' ((D, LCg.lst ys) :: news) → StrsAre ys (ts.map (textS (2 ^ r))) → (∀ p ∈ news, @LT.lt Nat _ p.1 D) → Q (.ref D) { s with heap := h', toks := tk' }) :
   wpAny (model prog w) (ktrTop dp un gd cn cs L a ccd cl outer) (eval duTxt (duEnv L)) Q E s := by
  conv in duTxt => whnf
  refine c_open F rfl (by decide) rfl (by decide) ?_ (by intro _; rfl)
  refine nameX_L F mt ?_ rfl rfl
  refine c_src F N hq ?_
  intro I C D h tk oI oC mm F' N' li hns hlt hID hDC
  have hI := ne_of_all hlt (Nat.le_refl I)
  have hD := ne_of_all (x := D) hlt (Nat.le_of_lt hID)
  have hC := ne_of_all (x := C) hlt (Nat.le_of_lt (Nat.lt_trans hID hDC))
  have hfl := hf.1
  refine txt_loop (q := q) (us := us) (e := e) (news := news) (r := r) B X T hk hdp hun hr hRd ((by k_ne)) ((by k_ne)) ((by k_ne)) hq hcR hI hC hD ts us 0 [] [] h tk oI oC mm rfl hts .nil hf.2 F' N' li hns (by simp only [List.length_nil]; ktr_room) ?_
  intro h2 tk2 oC2 mm2 ys2 F2 N2 ns2 st2
  refine c_fin F2 N2 (List.forall_mem_cons.mpr ⟨(by k_ne), hC⟩) ns2 ?_
  intro h3 F3 N3
  exact ret _ _ _ _ F3 N3 (by simpa using st2) (fun p hp => Nat.lt_trans (hlt p hp) hID)
end
end Mine
end
section
open PySem PySem.W PyProof.Rows PySem.Calls
namespace Mine
theorem offPar68 : True := by
  w_top off
  trivial
set_option maxRecDepth 100000
set_option maxHeartbeats 8000000
set_option linter.unusedVariables false

section
variable {w : World} {dp un : Nat} {gd : Option (List Code)} {cn : Str} {cs : Scope} {a : Addr} {ccd : Value} {cl : List (Str × Addr)} {outer : List Env} {A₀ : Around} {base h₀ : Heap} {L : Addr} {m : Str → Option Value}  {p : Program} {loose : List Str} {mean : ExcName → Option Value} {mg mb : Str → Option Value} {Q E : Value → Shared → Prop}
/-- the inner turns of the parting -/
theorem par_in {C D J q : Addr} {news : List (Addr × Obj)} {us : List Value} {e : Nat} {cells : List (Str × Addr)} {A : Around} {s : Shared} {R : Result → Shared → Prop}
   (X : (hd.heap_39 w.params).In h₀) (T : Top p loose mean mg mb h₀) (hh : A.handled = none)
   (hq : (q, listOf us.toArray e) ∈ news) 
   (hJ : ∀ p ∈ news, p.1 ≠ J) (hC : ∀ p ∈ news, p.1 ≠ C) (hD : ∀ p ∈ news, p.1 ≠ D) (hJC : @Ne Nat J C) (hJD : @Ne Nat J D) (hCD : @Ne Nat C D) :
   ∀ (ts : List (List Itm)) (vs : List Value) (i : Nat) (ys : List Value) (h : Heap) (tk : Nat) (oJ oC : Obj) (mm : Str → Option Value), us.drop i = vs → TextsIn news vs ts →
     Fr h₀ L h m → News h₀ L h ((J, oJ) :: (C, oC) :: (D, LCg.lst ys) :: news) → LiIs oJ q i → LCg.NsObj oC mm → ys.length + ts.length ≤ 100000 →
     (∀ h' tk' oC' mm', Fr h₀ L h' m → News h₀ L h' ((C, oC') :: (D, LCg.lst (ys ++ vs)) :: news) → LCg.NsObj oC' mm' → R (.ok .next) { s with heap := h', toks := tk' }) →
     codeAny (model prog w) A (.compLoop duCut 1 (.ref J) (.ref D) (compEnvC duCutS cells C (duEnv L))) R { s with heap := h, toks := tk } := by
  intro ts
  induction ts with
  | nil =>
    intro vs i ys h tk oJ oC mm hvs hits F N li hns hyl fin
    cases hits
    conv in duCut => whnf
    refine turn21 ?_
    refine c_done hh F N (List.forall_mem_cons.mpr ⟨Ne.symm hJC, List.forall_mem_cons.mpr ⟨Ne.symm hJD, hJ⟩⟩) li (List.mem_cons_of_mem _ (List.mem_cons_of_mem _ hq)) (drop_nil hvs) ?_
    intro h' F' N'
    exact fin _ _ _ _ F' (by rw [List.append_nil]; exact N') hns
  | cons t ts ih =>
    intro vs i ys h tk oJ oC mm hvs hits F N li hns hyl fin
    cases hits with
    | @cons v _ vs _ hit hits =>
    obtain ⟨h1, h2⟩ := drop_cons hvs
    obtain ⟨qt, vt, et, rfl, hqt, hti⟩ := hit
    simp only [List.length_cons] at hyl
    conv in duCut => whnf
    refine turn21 ?_
    refine c_name F N (by simpa using hJC) (List.forall_mem_cons.mpr ⟨Ne.symm hJD, hJ⟩) (List.forall_mem_cons.mpr ⟨Ne.symm hCD, hC⟩) li hns (List.mem_cons_of_mem _ hq) h1 rfl rfl ?_
    intro h' tk oJ' oC' m2 F' N' li' hns' e1 e2
    have next : ∀ h'' tk'', Fr h₀ L h'' m → News h₀ L h'' ((J, oJ') :: (C, oC') :: (D, listOf (ys ++ [Value.ref qt]).toArray (ys.length + 1)) :: news) →
       codeAny (model prog w) A (.compLoop duCut 1 (.ref J) (.ref D) (compEnvC duCutS cells C (duEnv L))) R { s with heap := h'', toks := tk'' } := by
      intro h'' tk'' F'' N''
      rw [lst_eq] at N''
      exact ih vs (i + 1) (ys ++ [.ref qt]) h'' tk'' oJ' oC' m2 h2 hits F'' N'' li' hns' (by simp only [List.length_append, List.length_cons, List.length_nil]; ktr_room)
        (fun h3 tk3 oC3 m3 F3 N3 ns3 => fin h3 tk3 oC3 m3 F3 (by simpa using N3) ns3)
    refine wpAny_tests_nil ?_
    simp only [if_true]
    conv in (occs := *) duCutS => all_goals whnf
    unfold duEnv
    conv in (occs := *) duScope => all_goals whnf
    k_steps
    rename Fr _ _ _ _ => FF
    rename News _ _ _ _ => NN
    exact next _ _ FF NN
theorem cutL_len {b : Nat} : ∀ (its cur : List Itm) (shut : Bool), (cutL b shut cur its).length ≤ its.length + 1
  | [], cur, shut => by simp [cutL]
  | it :: its, cur, shut => by
    unfold cutL
    split
    · have := cutL_len (b := b) its [headOf it] false
      simp only [List.length_cons]; ktr_room
    · have := cutL_len (b := b) its (cur ++ [it]) shut
      simp only [List.length_cons]; ktr_room
/-- the outer turns of the parting -/
theorem par_loop {C D I q K : Addr} {us : List Value} {e r : Nat} {d : Int} {tr td : Tok} {oR oD : Obj} {news0 : List (Addr × Obj)} {s : Shared} {R : Result → Shared → Prop}
   (B : Below A₀ base outer h₀) (X : (hd.heap_39 w.params).In h₀) (T : Top p loose mean mg mb h₀) (hk : cs.kind = .function) (hdp : dp + 20 < recursionLimit) (hun : un + 100 < cLine)
   (hr : r ≤ 12) (hRd : oR.data = .cell (some (.int r tr))) (hDd : oD.data = .cell (some (.int d td)))
   (hIC : @Ne Nat I C) (hID : @Ne Nat I D) (hCD : @Ne Nat C D) (hKI : @LE.le Nat _ K I)
   (hq : (q, listOf us.toArray e) ∈ news0) (hcR : (L + 1, oR) ∈ news0) (hcD : (L + 1 + 1, oD) ∈ news0) :
   ∀ (ts : List (List Itm)) (vs : List Value) (i : Nat) (ys : List Value) (done : List (List Itm)) (ex news : List (Addr × Obj)) (h : Heap) (tk : Nat) (oI oC : Obj) (mm : Str → Option Value), us.drop i = vs → TextsIn news0 vs ts → TextsIn ex ys done → news = ex ++ news0 → (∀ p ∈ ex, @LE.le Nat _ K p.1) →
     (∀ p ∈ news, p.1 ≠ I) → (∀ p ∈ news, p.1 ≠ C) → (∀ p ∈ news, p.1 ≠ D) → (∀ t ∈ ts, t.length ≤ 20 ∧ ∀ it ∈ t, okN it) →
     Fr h₀ L h m → News h₀ L h ((I, oI) :: (C, oC) :: (D, LCg.lst ys) :: news) → LiIs oI q i → LCg.NsObj oC mm → ys.length + 21 * ts.length ≤ 100000 →
     (∀ h' tk' oC' mm' ys' ex', Fr h₀ L h' m → News h₀ L h' ((C, oC') :: (D, LCg.lst ys') :: (ex' ++ news0)) → LCg.NsObj oC' mm' → TextsIn ex' ys' (done ++ ts.flatMap fun t => cutL (2 ^ r) (decide (d = 6)) [] t) → (∀ p ∈ ex' ++ news0, p.1 ≠ C) → (∀ p ∈ ex', p.1 ≠ D) → (∀ p ∈ ex', @LE.le Nat _ K p.1) → R (.ok .next) { s with heap := h', toks := tk' }) →
     codeAny (model prog w) (ktrTop dp un gd cn cs L a ccd cl outer) (.compLoop duCut 0 (.ref I) (.ref D) (compEnvC duCutS [(Str.ofString "reads", L + 1), (Str.ofString "deed", L + 1 + 1)] C (duEnv L))) R { s with heap := h, toks := tk } := by
  intro ts
  induction ts with
  | nil =>
    intro vs i ys done ex news h tk oI oC mm hvs hits hdone hnw hxK hI hC hD hok F N li hns hyl fin
    cases hits
    conv in duCut => whnf
    refine turn20 (fun _ => rfl) ?_
    refine c_done rfl F N (List.forall_mem_cons.mpr ⟨Ne.symm hIC, List.forall_mem_cons.mpr ⟨Ne.symm hID, hI⟩⟩) li (List.mem_cons_of_mem _ (List.mem_cons_of_mem _ (hnw ▸ List.mem_append_right _ hq))) (drop_nil hvs) ?_
    intro h' F' N'
    subst hnw
    exact fin _ _ _ _ _ _ F' N' hns (by simpa using hdone) hC (fun p hp => hD p (List.mem_append_left _ hp)) hxK
  | cons t ts ih =>
    intro vs i ys done ex news h tk oI oC mm hvs hits hdone hnw hxK hI hC hD hok F N li hns hyl fin
    cases hits with
    | @cons v _ vs _ hit hits =>
    obtain ⟨h1, h2⟩ := drop_cons hvs
    obtain ⟨qt, vt, et, rfl, hqt0, hti0⟩ := hit
    have sub0 : ∀ p ∈ news0, p ∈ news := fun p hp => hnw ▸ List.mem_append_right _ hp
    have hqt := sub0 _ hqt0
    have hti := items_sub sub0 hti0
    have hcRn := sub0 _ hcR
    have hcDn := sub0 _ hcD
    simp only [List.length_cons] at hyl
    conv in duCut => whnf
    refine turn20 (fun _ => rfl) ?_
    refine c_name F N (by simpa using hIC) (List.forall_mem_cons.mpr ⟨Ne.symm hID, hI⟩) (List.forall_mem_cons.mpr ⟨Ne.symm hCD, hC⟩) li hns (List.mem_cons_of_mem _ (sub0 _ hq)) h1 rfl rfl ?_
    intro h' tk oI' oC' m2 F' N' li' hns' e1 e2
    have next : ∀ h'' tk'' J oJ Dc ysc ec exc, Fr h₀ L h'' m → News h₀ L h'' ((J, oJ) :: (Dc, listOf ysc.toArray ec) :: (exc ++ ((I, oI') :: (C, oC') :: (D, LCg.lst ys) :: news))) → LiIs oJ Dc 0 → (∀ p ∈ ((Dc, listOf ysc.toArray ec) :: (exc ++ ((I, oI') :: (C, oC') :: (D, LCg.lst ys) :: news))), @LT.lt Nat _ p.1 J) →
       TextsIn exc ysc (cutL (2 ^ r) (decide (d = 6)) [] t) → (∀ p ∈ exc, ∀ q ∈ ((I, oI') :: (C, oC') :: (D, LCg.lst ys) :: news), @LT.lt Nat _ q.1 p.1) → (∀ q ∈ ((I, oI') :: (C, oC') :: (D, LCg.lst ys) :: news), @LT.lt Nat _ q.1 Dc) →
       codeAny (model prog w) (ktrTop dp un gd cn cs L a ccd cl outer) (.compLoop duCut 1 (.ref J) (.ref D) (compEnvC duCutS [(Str.ofString "reads", L + 1), (Str.ofString "deed", L + 1 + 1)] C (duEnv L))) (Inner prog w (ktrTop dp un gd cn cs L a ccd cl outer) duCut (.ref I) (.ref D) (compEnvC duCutS [(Str.ofString "reads", L + 1), (Str.ofString "deed", L + 1 + 1)] C (duEnv L)) R) { s with heap := h'', toks := tk'' } := by
      intro h'' tk'' J oJ Dc ysc ec exc F'' N'' liJ hlt htx hfr hDc
      simp only [List.forall_mem_cons, List.forall_mem_append] at hlt hDc
      obtain ⟨l0, lx, l1, l2, l3, l4⟩ := hlt
      obtain ⟨d1, d2, d3, d4⟩ := hDc
      have hfI : ∀ p ∈ exc, @LT.lt Nat _ I p.1 := fun p hp => hfr p hp _ (List.mem_cons_self ..)
      have hfC : ∀ p ∈ exc, @LT.lt Nat _ C p.1 := fun p hp => hfr p hp _ (List.mem_cons_of_mem _ (List.mem_cons_self ..))
      have hfD : ∀ p ∈ exc, @LT.lt Nat _ D p.1 := fun p hp => hfr p hp _ (List.mem_cons_of_mem _ (List.mem_cons_of_mem _ (List.mem_cons_self ..)))
      have hlen := texts_len htx
      have hcl := cutL_len (b := 2 ^ r) t [] (decide (d = 6))
      have ht20 := (hok t (List.mem_cons_self ..)).1
      refine par_in (q := Dc) (us := ysc) (e := ec) (news := (Dc, listOf ysc.toArray ec) :: (I, oI') :: (exc ++ news)) X T rfl (List.mem_cons_self ..)
        (List.forall_mem_cons.mpr ⟨Nat.ne_of_lt l0, List.forall_mem_cons.mpr ⟨Nat.ne_of_lt l1, List.forall_mem_append.mpr ⟨ne_of_all lx (Nat.le_refl _), ne_of_all l4 (Nat.le_refl _)⟩⟩⟩)
        (List.forall_mem_cons.mpr ⟨Nat.ne_of_gt d2, List.forall_mem_cons.mpr ⟨hIC, List.forall_mem_append.mpr ⟨fun p hp => Nat.ne_of_gt (hfC p hp), hC⟩⟩⟩)
        (List.forall_mem_cons.mpr ⟨Nat.ne_of_gt d3, List.forall_mem_cons.mpr ⟨hID, List.forall_mem_append.mpr ⟨fun p hp => Nat.ne_of_gt (hfD p hp), hD⟩⟩⟩)
        (Nat.ne_of_gt l2) (Nat.ne_of_gt l3) hCD _ ysc 0 ys h'' tk'' oJ oC' m2 rfl (texts_sub (fun p hp => List.mem_cons_of_mem _ (List.mem_cons_of_mem _ (List.mem_append_left _ hp))) htx) F'' (njoin (nhd N'') (njoin (nhd (ntl (nr (ntl (ntl N''))))) (njoin (nhd (ntl (ntl (nr (ntl (ntl N'')))))) (njoin (nhd (ntl N'')) (njoin (nhd (nr (ntl (ntl N'')))) (napp (nl (ntl (ntl N''))) (ntl (ntl (ntl (nr (ntl (ntl N'')))))))))))) liJ hns' (by ktr_room) ?_
      intro h3 tk3 oC3 m3 F3 N3 ns3
      refine ih vs (i + 1) (ys ++ ysc) (done ++ cutL (2 ^ r) (decide (d = 6)) [] t) (exc ++ ex) (exc ++ news) h3 tk3 oI' oC3 m3 h2 hits (texts_app (texts_sub (fun p hp => List.mem_append_right _ hp) hdone) (texts_sub (fun p hp => List.mem_append_left _ hp) htx)) (by rw [hnw, List.append_assoc])
        (List.forall_mem_append.mpr ⟨fun p hp => Nat.le_trans hKI (Nat.le_of_lt (hfI p hp)), hxK⟩)
        (List.forall_mem_append.mpr ⟨fun p hp => Nat.ne_of_gt (hfI p hp), hI⟩) (List.forall_mem_append.mpr ⟨fun p hp => Nat.ne_of_gt (hfC p hp), hC⟩) (List.forall_mem_append.mpr ⟨fun p hp => Nat.ne_of_gt (hfD p hp), hD⟩)
        (fun t ht => hok t (List.mem_cons_of_mem _ ht)) F3 (njoin (nhd (ntl (ntl (ntl N3)))) (njoin (nhd N3) (njoin (nhd (ntl N3)) (ntl (ntl (ntl (ntl N3))))))) li' ns3 ?_ ?_
      · rw [List.length_append]; ktr_room
      intro h4 tk4 oC4 m4 ys4 ex4 F4 N4 ns4 tx4 c4 d4 k4
      exact fin h4 tk4 oC4 m4 ys4 ex4 F4 N4 ns4 (by rw [List.flatMap_cons, ← List.append_assoc]; exact tx4) c4 d4 k4
    conv in (occs := *) duCutS => all_goals whnf
    unfold duEnv
    conv in (occs := *) duScope => all_goals whnf
    k_steps
    refine cut_call (q := qt) (vs := vt) (its := t) (r := r) (b := 2 ^ r) B F' X T hk (by ktr_room) (by ktr_room) N' (List.mem_cons_of_mem _ (List.mem_cons_of_mem _ (List.mem_cons_of_mem _ hqt))) (items_tail (items_tail (items_tail hti))) hr rfl (hok t (List.mem_cons_self ..)).2 (by have := (hok t (List.mem_cons_self ..)).1; ktr_room) ?_
    intro Dc ysc ec exc hc tkc Fc Nc htx hfr hDc hne
    show wpAny _ _ (pyIter (.ref Dc)) _ _ _
    refine iterL Fc Nc (List.mem_cons_self ..) ?_
    intro J h5 oJ F5 N5 liJ hlt
    have lp := fun tk => next h5 tk J oJ Dc ysc ec exc F5 N5 liJ hlt htx hfr hDc
    exact start1 (lp _) (wpAny_pyIter_listiter (l := Dc) (i := 0) ⟨oJ, (N5 _ (List.mem_cons_self ..)).1, liJ.1, liJ.2⟩ (lp _))
noncomputable def duCutSt : Stmt := stAt (stBody duIf) 1
theorem par_stmt {q : Addr} {news : List (Addr × Obj)} {us : List Value} {ts : List (List Itm)} {e r : Nat} {d : Int} {tr td : Tok} {oR oD : Obj} {s : Shared} {Q : Flow → Shared → Prop}
   (B : Below A₀ base outer h₀) (X : (hd.heap_39 w.params).In h₀) (T : Top p loose mean mg mb h₀) (hk : cs.kind = .function) (hdp : dp + 20 < recursionLimit) (hun : un + 100 < cLine)
   (F : Fr h₀ L s.heap m) (N : News h₀ L s.heap news) (mt : m (Str.ofString "texts") = some (.ref q)) (hq : (q, listOf us.toArray e) ∈ news) (hts : TextsIn news us ts)
   (hr : r ≤ 12) (hRd : oR.data = .cell (some (.int r tr))) (hDd : oD.data = .cell (some (.int d td))) (hcR : (L + 1, oR) ∈ news) (hcD : (L + 1 + 1, oD) ∈ news)
   (hf : Fine ts)
   (ret : ∀ D ys ex h' tk', Fr h₀ L h' (fun z => if z = Str.ofString "texts" then some (.ref D) else m z) → News h₀ L h' ((D, LCg.lst ys) :: (ex ++ news)) → TextsIn ex ys (ts.flatMap fun t => cutL (2 ^ r) (decide (d = 6)) [] t) → (∀ p ∈ ex, ∀ q ∈ news, @LT.lt Nat _ q.1 p.1) → (∀ q ∈ news, @LT.lt Nat _ q.1 D) → (∀ p ∈ ex, p.1 ≠ D) → Q .next { s with heap := h', toks := tk' }) :
   wpAny (model prog w) (ktrTop dp un gd cn cs L a ccd cl outer) (exec duCutSt (duEnv L)) Q E s := by
  conv in duCutSt => whnf
  refine c_openU rfl F rfl (by decide) rfl (by decide) ?_ (by intro _; rfl)
  refine nameX_L F mt ?_ rfl rfl
  refine c_srcU F N hq ?_
  intro I C D h tk oI oC mm F' N' li hns hlt hID hDC
  have hI := ne_of_all hlt (Nat.le_refl I)
  have hD := ne_of_all (x := D) hlt (Nat.le_of_lt hID)
  have hC := ne_of_all (x := C) hlt (Nat.le_of_lt (Nat.lt_trans hID hDC))
  have hfl := hf.1
  refine par_loop (q := q) (us := us) (e := e) (K := I) (news0 := news) (r := r) (d := d) B X T hk hdp hun hr hRd hDd ((by k_ne)) ((by k_ne)) ((by k_ne)) (Nat.le_refl _) hq hcR hcD ts us 0 [] [] [] news h tk oI oC mm rfl hts .nil rfl (by simp) hI hC hD (fun t ht => ⟨(hf.2 t ht).1, fun it hi => okN_of ((hf.2 t ht).2 it hi)⟩) F' N' li hns (by simp only [List.length_nil]; ktr_room) ?_
  intro h2 tk2 oC2 mm2 ys2 ex2 F2 N2 ns2 tx2 hC2 hD2 hK2
  refine c_finU F2 N2 (List.forall_mem_cons.mpr ⟨(by k_ne), hC2⟩) ns2 ?_ rfl rfl
  intro h3 F3 N3
  exact ret _ _ _ _ _ F3 N3 (by simpa using tx2) (fun p hp q hq => Nat.lt_of_lt_of_le (hlt q hq) (hK2 p hp)) (fun p hp => Nat.lt_trans (hlt p hp) hID) hD2
end
end Mine
end
section
open PySem PySem.W PyProof.Rows PySem.Calls
namespace Mine
theorem offCnt68 : True := by
  w_top off
  trivial
set_option maxRecDepth 100000
set_option maxHeartbeats 8000000
set_option linter.unusedVariables false

section
variable {w : World} {A : Around} {Q E : Value → Shared → Prop} {s : Shared} {h₀ : Heap} {L l : Addr} {news : List (Addr × Obj)}
theorem sub4 {value slice : PySem.Expr} {v1 v2 v3 v4 v : Value} {e : Nat} {k : Int} {u : Tok} (N : News h₀ L s.heap news) (hm : (l, listOf #[v1, v2, v3, v4] e) ∈ news) (h0 : 0 ≤ k) (h4 : k < 4) (hx : #[v1, v2, v3, v4][k.toNat]? = some v) (h : Q v s)
    (hs : subscripted slice false (.ref l) (.int k u) = operate [.ref l, .int k u] (getItem (.ref l) (.int k u)) ) :
    wpAny (model prog w) A (subscriptTail value slice (.ref l) (.int k u)) Q E s :=
  item_listR (items := #[v1, v2, v3, v4]) ⟨_, (N _ hm).1, rfl, _, rfl⟩ h0 (by ktr_room) hx h hs
theorem sub41 {value slice : PySem.Expr} {v1 v2 v3 v4 : Value} {e : Nat} {u : Tok} (N : News h₀ L s.heap news) (hm : (l, listOf #[v1, v2, v3, v4] e) ∈ news) (h : Q v2 s)
    (hs : subscripted slice false (.ref l) (.int 1 u) = operate [.ref l, .int 1 u] (getItem (.ref l) (.int 1 u)) ) :
    wpAny (model prog w) A (subscriptTail value slice (.ref l) (.int 1 u)) Q E s := sub4 N hm (by decide) (by decide) rfl h hs
theorem sub43 {value slice : PySem.Expr} {v1 v2 v3 v4 : Value} {e : Nat} {u : Tok} (N : News h₀ L s.heap news) (hm : (l, listOf #[v1, v2, v3, v4] e) ∈ news) (h : Q v4 s)
    (hs : subscripted slice false (.ref l) (.int 3 u) = operate [.ref l, .int 3 u] (getItem (.ref l) (.int 3 u)) ) :
    wpAny (model prog w) A (subscriptTail value slice (.ref l) (.int 3 u)) Q E s := sub4 N hm (by decide) (by decide) rfl h hs
end
local macro_rules | `(tactic| walk_at "subscriptTail Name Constant ref int") => `(tactic| (refine hold ?_))
section
variable {w : World} {dp un : Nat} {gd : Option (List Code)} {cn : Str} {cs : Scope} {a : Addr} {ccd : Value} {cl : List (Str × Addr)} {outer : List Env} {A₀ : Around} {base h₀ : Heap} {L : Addr} {m : Str → Option Value}  {p : Program} {loose : List Str} {mean : ExcName → Option Value} {mg mb : Str → Option Value} {Q E : Value → Shared → Prop}
/-- the inner turns of the count -/
theorem cnt_in {C D J q : Addr} {news : List (Addr × Obj)} {us : List Value} {e : Nat} {A : Around} {s : Shared} {R : Result → Shared → Prop}
   (X : (hd.heap_39 w.params).In h₀) (T : Top p loose mean mg mb h₀) (hh : A.handled = none)
   (hq : (q, listOf us.toArray e) ∈ news) 
   (hJ : ∀ p ∈ news, p.1 ≠ J) (hC : ∀ p ∈ news, p.1 ≠ C) (hD : ∀ p ∈ news, p.1 ≠ D) (hJC : @Ne Nat J C) (hJD : @Ne Nat J D) (hCD : @Ne Nat C D) :
   ∀ (its : List Itm) (vs : List Value) (i : Nat) (ys : List Value) (h : Heap) (tk : Nat) (oJ oC : Obj) (mm : Str → Option Value), us.drop i = vs → ItemsIn news vs its →
     Fr h₀ L h m → News h₀ L h ((J, oJ) :: (C, oC) :: (D, LCg.lst ys) :: news) → LiIs oJ q i → LCg.NsObj oC mm → ys.length + its.length ≤ 100000 →
     (∀ h' tk' oC' mm' ys', Fr h₀ L h' m → News h₀ L h' ((C, oC') :: (D, LCg.lst ys') :: news) → LCg.NsObj oC' mm' → ys'.length = ys.length + its.countP isFeed → R (.ok .next) { s with heap := h', toks := tk' }) →
     codeAny (model prog w) A (.compLoop duCnt 1 (.ref J) (.ref D) (compEnvC duCntS [] C (duEnv L))) R { s with heap := h, toks := tk } := by
  intro its
  induction its with
  | nil =>
    intro vs i ys h tk oJ oC mm hvs hits F N li hns hyl fin
    cases hits
    conv in duCnt => whnf
    refine turn21 ?_
    refine c_done hh F N (List.forall_mem_cons.mpr ⟨Ne.symm hJC, List.forall_mem_cons.mpr ⟨Ne.symm hJD, hJ⟩⟩) li (List.mem_cons_of_mem _ (List.mem_cons_of_mem _ hq)) (drop_nil hvs) ?_
    intro h' F' N'
    exact fin _ _ _ _ _ F' N' hns (by simp)
  | cons it its ih =>
    intro vs i ys h tk oJ oC mm hvs hits F N li hns hyl fin
    cases hits with
    | @cons v _ vs _ hit hits =>
    obtain ⟨h1, h2⟩ := drop_cons hvs
    obtain ⟨qi, tn, ts, tl, tw, ei, rfl, hqi⟩ := hit
    simp only [List.length_cons] at hyl
    conv in duCnt => whnf
    refine turn21 ?_
    refine c_name F N (by simpa using hJC) (List.forall_mem_cons.mpr ⟨Ne.symm hJD, hJ⟩) (List.forall_mem_cons.mpr ⟨Ne.symm hCD, hC⟩) li hns (List.mem_cons_of_mem _ hq) h1 rfl rfl ?_
    intro h' tk oJ' oC' m2 F' N' li' hns' e1 e2
    have yes : ∀ h'' tk'' v, isFeed it = true → Fr h₀ L h'' m → News h₀ L h'' ((J, oJ') :: (C, oC') :: (D, listOf (ys ++ [v]).toArray (ys.length + 1)) :: news) →
       codeAny (model prog w) A (.compLoop duCnt 1 (.ref J) (.ref D) (compEnvC duCntS [] C (duEnv L))) R { s with heap := h'', toks := tk'' } := by
      intro h'' tk'' v hf F'' N''
      rw [lst_eq] at N''
      exact ih vs (i + 1) (ys ++ [v]) h'' tk'' oJ' oC' m2 h2 hits F'' N'' li' hns' (by simp only [List.length_append, List.length_cons, List.length_nil]; ktr_room)
        (fun h3 tk3 oC3 m3 ys3 F3 N3 ns3 st3 => fin h3 tk3 oC3 m3 ys3 F3 N3 ns3 (by rw [st3, List.countP_cons_of_pos hf, List.length_append]; simp only [List.length_cons, List.length_nil]; ktr_room))
    have no : ∀ h'' tk'', isFeed it = false → Fr h₀ L h'' m → News h₀ L h'' ((J, oJ') :: (C, oC') :: (D, LCg.lst ys) :: news) →
       codeAny (model prog w) A (.compLoop duCnt 1 (.ref J) (.ref D) (compEnvC duCntS [] C (duEnv L))) R { s with heap := h'', toks := tk'' } := by
      intro h'' tk'' hf F'' N''
      exact ih vs (i + 1) ys h'' tk'' oJ' oC' m2 h2 hits F'' N'' li' hns' (by ktr_room)
        (fun h3 tk3 oC3 m3 ys3 F3 N3 ns3 st3 => fin h3 tk3 oC3 m3 ys3 F3 N3 ns3 (by rw [st3, List.countP_cons_of_neg (by simp [hf])]))
    refine wpAny_tests_one ?_
    conv in (occs := *) duCntS => all_goals whnf
    unfold duEnv
    conv in (occs := *) duScope => all_goals whnf
    k_steps
    unfold Hold
    k_dflt (refine' sub41 ?N7 ?m7 ?_ (by with_unfolding_all rfl); (case N7 => with_reducible assumption); (case m7 => k_mem))
    k_steps
    all_goals
      try
        unfold Hold
        k_dflt (refine' sub43 ?N8 ?m8 ?_ (by with_unfolding_all rfl); (case N8 => with_reducible assumption); (case m8 => k_mem))
        k_steps
    all_goals
      rename Fr _ _ _ _ => FF
      rename News _ _ _ _ => NN
      first
        | exact yes _ _ _ (by unfold isFeed; simp only [*]; rfl) FF NN
        | exact no _ _ (by unfold isFeed; simp only [*]; rfl) FF NN
/-- the outer turns of the count -/
theorem cnt_loop {C D I q : Addr} {news : List (Addr × Obj)} {us : List Value} {e : Nat} {A : Around} {s : Shared} {R : Result → Shared → Prop}
   (X : (hd.heap_39 w.params).In h₀) (T : Top p loose mean mg mb h₀) (hh : A.handled = none)
   (hq : (q, listOf us.toArray e) ∈ news) 
   (hI : ∀ p ∈ news, p.1 ≠ I) (hC : ∀ p ∈ news, p.1 ≠ C) (hD : ∀ p ∈ news, p.1 ≠ D) (hIC : @Ne Nat I C) (hID : @Ne Nat I D) (hCD : @Ne Nat C D) :
   ∀ (ts : List (List Itm)) (vs : List Value) (i : Nat) (ys : List Value) (h : Heap) (tk : Nat) (oI oC : Obj) (mm : Str → Option Value), us.drop i = vs → TextsIn news vs ts →
     Fr h₀ L h m → News h₀ L h ((I, oI) :: (C, oC) :: (D, LCg.lst ys) :: news) → LiIs oI q i → LCg.NsObj oC mm → ys.length + (ts.map List.length).sum ≤ 100000 →
     (∀ h' tk' oC' mm' ys', Fr h₀ L h' m → News h₀ L h' ((C, oC') :: (D, LCg.lst ys') :: news) → LCg.NsObj oC' mm' → ys'.length = ys.length + feedL ts → R (.ok .next) { s with heap := h', toks := tk' }) →
     codeAny (model prog w) A (.compLoop duCnt 0 (.ref I) (.ref D) (compEnvC duCntS [] C (duEnv L))) R { s with heap := h, toks := tk } := by
  intro ts
  induction ts with
  | nil =>
    intro vs i ys h tk oI oC mm hvs hits F N li hns hyl fin
    cases hits
    conv in duCnt => whnf
    refine turn20 (fun _ => rfl) ?_
    refine c_done hh F N (List.forall_mem_cons.mpr ⟨Ne.symm hIC, List.forall_mem_cons.mpr ⟨Ne.symm hID, hI⟩⟩) li (List.mem_cons_of_mem _ (List.mem_cons_of_mem _ hq)) (drop_nil hvs) ?_
    intro h' F' N'
    exact fin _ _ _ _ _ F' N' hns (by simp [feedL])
  | cons t ts ih =>
    intro vs i ys h tk oI oC mm hvs hits F N li hns hyl fin
    cases hits with
    | @cons v _ vs _ hit hits =>
    obtain ⟨h1, h2⟩ := drop_cons hvs
    obtain ⟨qt, vt, et, rfl, hqt, hti⟩ := hit
    simp only [List.map_cons, List.sum_cons] at hyl
    conv in duCnt => whnf
    refine turn20 (fun _ => rfl) ?_
    refine c_name F N (by simpa using hIC) (List.forall_mem_cons.mpr ⟨Ne.symm hID, hI⟩) (List.forall_mem_cons.mpr ⟨Ne.symm hCD, hC⟩) li hns (List.mem_cons_of_mem _ hq) h1 rfl rfl ?_
    intro h' tk oI' oC' m2 F' N' li' hns' e1 e2
    have next : ∀ h'' tk'' J oJ, Fr h₀ L h'' m → News h₀ L h'' ((J, oJ) :: (I, oI') :: (C, oC') :: (D, LCg.lst ys) :: news) → LiIs oJ qt 0 → (∀ p ∈ ((I, oI') :: (C, oC') :: (D, LCg.lst ys) :: news), @LT.lt Nat _ p.1 J) →
       codeAny (model prog w) A (.compLoop duCnt 1 (.ref J) (.ref D) (compEnvC duCntS [] C (duEnv L))) (Inner prog w A duCnt (.ref I) (.ref D) (compEnvC duCntS [] C (duEnv L)) R) { s with heap := h'', toks := tk'' } := by
      intro h'' tk'' J oJ F'' N'' liJ hlt
      simp only [List.forall_mem_cons] at hlt
      obtain ⟨l1, l2, l3, l4⟩ := hlt
      refine cnt_in (q := qt) (us := vt) (e := et) (news := (I, oI') :: news) X T hh (List.mem_cons_of_mem _ hqt) (List.forall_mem_cons.mpr ⟨Nat.ne_of_lt l1, ne_of_all l4 (Nat.le_refl _)⟩) (List.forall_mem_cons.mpr ⟨hIC, hC⟩) (List.forall_mem_cons.mpr ⟨hID, hD⟩) (Nat.ne_of_gt l2) (Nat.ne_of_gt l3) hCD t vt 0 ys h'' tk'' oJ oC' m2 rfl (items_tail hti) F'' (njoin (nhd N'') (njoin (nhd (ntl (ntl N''))) (njoin (nhd (ntl (ntl (ntl N'')))) (njoin (nhd (ntl N'')) (ntl (ntl (ntl (ntl N'')))))))) liJ hns' (by ktr_room) ?_
      intro h3 tk3 oC3 m3 ys3 F3 N3 ns3 hy3
      refine ih vs (i + 1) ys3 h3 tk3 oI' oC3 m3 h2 hits F3 (njoin (nhd (ntl (ntl N3))) (njoin (nhd N3) (njoin (nhd (ntl N3)) (ntl (ntl (ntl N3)))))) li' ns3 ?_ ?_
      · have := List.countP_le_length (p := isFeed) (l := t); ktr_room
      intro h4 tk4 oC4 m4 ys4 F4 N4 ns4 hy4
      exact fin h4 tk4 oC4 m4 ys4 F4 N4 ns4 (by rw [hy4, hy3]; simp only [feedL, List.map_cons, List.sum_cons]; ktr_room)
    conv in (occs := *) duCntS => all_goals whnf
    unfold duEnv
    conv in (occs := *) duScope => all_goals whnf
    k_steps
    refine iterL F' N' (List.mem_cons_of_mem _ (List.mem_cons_of_mem _ (List.mem_cons_of_mem _ hqt))) ?_
    intro J h5 oJ F5 N5 liJ hlt
    have lp := fun tk => next h5 tk J oJ F5 N5 liJ hlt
    exact start1 (lp _) (wpAny_pyIter_listiter (l := qt) (i := 0) ⟨oJ, (N5 _ (List.mem_cons_self ..)).1, liJ.1, liJ.2⟩ (lp _))
theorem cnt_comp {q : Addr} {news : List (Addr × Obj)} {us : List Value} {ts : List (List Itm)} {e : Nat} {A : Around} {s : Shared}
   (X : (hd.heap_39 w.params).In h₀) (T : Top p loose mean mg mb h₀) (hh : A.handled = none) (F : Fr h₀ L s.heap m) (N : News h₀ L s.heap news) (mt : m (Str.ofString "texts") = some (.ref q)) (hq : (q, listOf us.toArray e) ∈ news) (hts : TextsIn news us ts)
   (hsum : (ts.map List.length).sum ≤ 100000)
   (ret : ∀ D ys h' tk', Fr h₀ L h' m → News h₀ L h' ((D, LCg.lst ys) :: news) → (∀ p ∈ news, @LT.lt Nat _ p.1 D) → ys.length = feedL ts → Q (.ref D) { s with heap := h', toks := tk' }) :
   wpAny (model prog w) A (eval duCnt (duEnv L)) Q E s := by
  conv in duCnt => whnf
  refine c_open F rfl (by decide) rfl (by decide) ?_ (by intro _; rfl)
  refine nameX_L F mt ?_ rfl rfl
  refine c_src F N hq ?_
  intro I C D h tk oI oC mm F' N' li hns hlt hID hDC
  have hI := ne_of_all hlt (Nat.le_refl I)
  have hD := ne_of_all (x := D) hlt (Nat.le_of_lt hID)
  have hC := ne_of_all (x := C) hlt (Nat.le_of_lt (Nat.lt_trans hID hDC))
  refine cnt_loop (q := q) (us := us) (e := e) X T hh hq hI hC hD ((by k_ne)) ((by k_ne)) ((by k_ne)) ts us 0 [] h tk oI oC mm rfl hts F' N' li hns (by simpa using hsum) ?_
  intro h2 tk2 oC2 mm2 ys2 F2 N2 ns2 hy2
  refine c_fin F2 N2 (List.forall_mem_cons.mpr ⟨(by k_ne), hC⟩) ns2 ?_
  intro h3 F3 N3
  exact ret _ _ _ _ F3 N3 (fun p hp => Nat.lt_trans (hlt p hp) hID) (by simpa using hy2)
end
end Mine
end
section
open PySem.Calls Mine
local macro_rules | `(tactic| walk_at "exec Assign cons ListComp") => `(tactic| (refine hold ?_))
section
open PySem PySem.W PyProof.Rows PySem.Calls
namespace Mine
theorem offDue68 : True := by
  w_top off
  trivial
local macro_rules | `(tactic| walk_at "nowhere") => `(tactic| skip)
set_option maxRecDepth 100000
set_option maxHeartbeats 8000000
set_option linter.unusedVariables false


theorem feed_le {ts : List (List Itm)} (h : Fine ts) : feedL ts ≤ 400 ∧ (ts.map List.length).sum ≤ 400 := by
  have key : ∀ (l : List (List Itm)), (∀ t ∈ l, t.length ≤ 20) → feedL l ≤ 20 * l.length ∧ (l.map List.length).sum ≤ 20 * l.length := by
    intro l
    induction l with
    | nil => intro _; exact ⟨Nat.le_refl _, Nat.le_refl _⟩
    | cons t l ih =>
      intro hl
      have h1 := hl t (List.mem_cons_self ..)
      have h2 := ih fun x hx => hl x (List.mem_cons_of_mem _ hx)
      have h3 := List.countP_le_length (p := isFeed) (l := t)
      simp only [feedL, List.map_cons, List.sum_cons, List.length_cons] at h2 ⊢
      ktr_room
  have := key ts fun t ht => (h.2 t ht).1
  have := h.1
  ktr_room
section
variable {w : World} {dp un : Nat} {gd : Option (List Code)} {cn : Str} {cs : Scope} {a : Addr} {ccd : Value} {cl : List (Str × Addr)} {outer : List Env} {A₀ : Around} {base h₀ : Heap} {L : Addr} {m : Str → Option Value}  {s : Shared} {p : Program} {loose : List Str} {mean : ExcName → Option Value} {mg mb : Str → Option Value} {Q E : Value → Shared → Prop}
noncomputable abbrev duCells (L : Addr) : List (Str × Addr) := [(Str.ofString "table", L + 1 + 1 + 1), (Str.ofString "deed", L + 1 + 1), (Str.ofString "reads", L + 1)]
theorem dict_apart {g h : Heap} {x c : Addr} {o oc : Obj} {v : Option Value} {kvs : List (Str × Value)} {rest : List (Addr × Obj)} (N : News g L h ((x, o) :: rest)) (hB : Obj.IsDictOf (strKind prog w) o kvs) (hc : oc.data = .cell v) (hm : (c, oc) ∈ rest) : @Ne Nat x c := by
  intro e
  have e1 := (N _ (List.mem_cons_self ..)).1
  have e2 := (N _ (List.mem_cons_of_mem _ hm)).1
  dsimp only at e1 e2
  have e3 : h.get? x = h.get? c := congrArg h.get? e
  rw [e3, e2] at e1
  have e4 : oc = o := Option.some.inj e1
  obtain ⟨es, ep, _, hd, _⟩ := hB
  rw [← e4, hc] at hd
  cases hd
theorem repack {g h : Heap} {D2 D1 Dt I c1 c2 c3 : Addr} {o2 o1 ot oI oT oD oR : Obj} {ex news : List (Addr × Obj)} (N : News g L h ((D2, o2) :: (ex ++ ((D1, o1) :: (Dt, ot) :: (I, oI) :: (c3, oT) :: (c2, oD) :: (c1, oR) :: news))))
   (l1 : @LT.lt Nat _ I Dt ∧ @LT.lt Nat _ c3 Dt ∧ @LT.lt Nat _ c2 Dt ∧ @LT.lt Nat _ c1 Dt ∧ AllLt Dt news)
   (lt1 : ∀ p ∈ ((Dt, ot) :: (I, oI) :: (c3, oT) :: (c2, oD) :: (c1, oR) :: news), @LT.lt Nat _ p.1 D1)
   (lt2 : ∀ p ∈ ((D1, o1) :: (Dt, ot) :: (I, oI) :: (c3, oT) :: (c2, oD) :: (c1, oR) :: news), @LT.lt Nat _ p.1 D2)
   (hfr : ∀ p ∈ ex, ∀ q ∈ ((D1, o1) :: (Dt, ot) :: (I, oI) :: (c3, oT) :: (c2, oD) :: (c1, oR) :: news), @LT.lt Nat _ q.1 p.1)
   (nI : ∀ p ∈ news, p.1 ≠ I) (n1 : ∀ p ∈ news, p.1 ≠ c1) (n2 : ∀ p ∈ news, p.1 ≠ c2) (n3 : ∀ p ∈ news, p.1 ≠ c3) :
   ∃ NW, News g L h ((I, oI) :: (c3, oT) :: (c2, oD) :: (c1, oR) :: NW) ∧ (∀ p ∈ NW, p.1 ≠ I) ∧ (∀ p ∈ NW, p.1 ≠ c1) ∧ (∀ p ∈ NW, p.1 ≠ c2) ∧ (∀ p ∈ NW, p.1 ≠ c3) ∧ (D2, o2) ∈ NW ∧ (∀ p ∈ ex, p ∈ NW) ∧ (∀ p ∈ news, p ∈ NW) := by
  obtain ⟨a1, a2, a3, a4, _⟩ := l1
  simp only [List.forall_mem_cons] at lt1 lt2
  obtain ⟨b0, b1, b2, b3, b4, b5⟩ := lt1
  obtain ⟨d0, d1, d2, d3, d4, d5, d6⟩ := lt2
  refine ⟨(D2, o2) :: (D1, o1) :: (Dt, ot) :: (ex ++ news), (njoin (nhd (ntl (ntl (nr (ntl N))))) (njoin (nhd (ntl (ntl (ntl (nr (ntl N)))))) (njoin (nhd (ntl (ntl (ntl (ntl (nr (ntl N))))))) (njoin (nhd (ntl (ntl (ntl (ntl (ntl (nr (ntl N)))))))) (njoin (nhd N) (njoin (nhd (nr (ntl N))) (njoin (nhd (ntl (nr (ntl N)))) (napp (nl (ntl N)) (ntl (ntl (ntl (ntl (ntl (ntl (nr (ntl N)))))))))))))))), ?_, ?_, ?_, ?_, List.mem_cons_self .., fun p hp => ?_, fun p hp => ?_⟩
  · exact List.forall_mem_cons.mpr ⟨Nat.ne_of_gt d2, List.forall_mem_cons.mpr ⟨Nat.ne_of_gt b1, List.forall_mem_cons.mpr ⟨Nat.ne_of_gt a1, List.forall_mem_append.mpr ⟨fun p hp => Nat.ne_of_gt (hfr p hp (I, oI) (by simp only [List.mem_cons, true_or, or_true])), nI⟩⟩⟩⟩
  · exact List.forall_mem_cons.mpr ⟨Nat.ne_of_gt d5, List.forall_mem_cons.mpr ⟨Nat.ne_of_gt b4, List.forall_mem_cons.mpr ⟨Nat.ne_of_gt a4, List.forall_mem_append.mpr ⟨fun p hp => Nat.ne_of_gt (hfr p hp (c1, oR) (by simp only [List.mem_cons, true_or, or_true])), n1⟩⟩⟩⟩
  · exact List.forall_mem_cons.mpr ⟨Nat.ne_of_gt d4, List.forall_mem_cons.mpr ⟨Nat.ne_of_gt b3, List.forall_mem_cons.mpr ⟨Nat.ne_of_gt a3, List.forall_mem_append.mpr ⟨fun p hp => Nat.ne_of_gt (hfr p hp (c2, oD) (by simp only [List.mem_cons, true_or, or_true])), n2⟩⟩⟩⟩
  · exact List.forall_mem_cons.mpr ⟨Nat.ne_of_gt d3, List.forall_mem_cons.mpr ⟨Nat.ne_of_gt b2, List.forall_mem_cons.mpr ⟨Nat.ne_of_gt a2, List.forall_mem_append.mpr ⟨fun p hp => Nat.ne_of_gt (hfr p hp (c3, oT) (by simp only [List.mem_cons, true_or, or_true])), n3⟩⟩⟩⟩
  · simp only [List.mem_cons, List.mem_append, hp, true_or, or_true]
  · simp only [List.mem_cons, List.mem_append, hp, true_or, or_true]
theorem repack2 {g h : Heap} {D2 x Dt I c1 c2 c3 : Addr} {o2 ox ot oI oT oD oR : Obj} {ex news : List (Addr × Obj)} (N : News g L h ((D2, o2) :: (ex ++ ((x, ox) :: (Dt, ot) :: (I, oI) :: (c3, oT) :: (c2, oD) :: (c1, oR) :: news))))
   (l1 : @LT.lt Nat _ I Dt ∧ @LT.lt Nat _ c3 Dt ∧ @LT.lt Nat _ c2 Dt ∧ @LT.lt Nat _ c1 Dt ∧ AllLt Dt news)
   (lt2 : ∀ p ∈ ((x, ox) :: (Dt, ot) :: (I, oI) :: (c3, oT) :: (c2, oD) :: (c1, oR) :: news), @LT.lt Nat _ p.1 D2)
   (hfr : ∀ p ∈ ex, ∀ q ∈ ((x, ox) :: (Dt, ot) :: (I, oI) :: (c3, oT) :: (c2, oD) :: (c1, oR) :: news), @LT.lt Nat _ q.1 p.1)
   (nI : ∀ p ∈ news, p.1 ≠ I) (n1 : ∀ p ∈ news, p.1 ≠ c1) (n2 : ∀ p ∈ news, p.1 ≠ c2) (n3 : ∀ p ∈ news, p.1 ≠ c3) :
   ∃ NW, News g L h ((I, oI) :: (c3, oT) :: (c2, oD) :: (c1, oR) :: NW) ∧ (∀ p ∈ NW, p.1 ≠ I) ∧ (∀ p ∈ NW, p.1 ≠ c1) ∧ (∀ p ∈ NW, p.1 ≠ c2) ∧ (∀ p ∈ NW, p.1 ≠ c3) ∧ (D2, o2) ∈ NW ∧ (∀ p ∈ ex, p ∈ NW) ∧ (∀ p ∈ news, p ∈ NW) := by
  obtain ⟨a1, a2, a3, a4, _⟩ := l1
  simp only [List.forall_mem_cons] at lt2
  obtain ⟨d0, d1, d2, d3, d4, d5, d6⟩ := lt2
  refine ⟨(D2, o2) :: (Dt, ot) :: (ex ++ news), (njoin (nhd (ntl (ntl (nr (ntl N))))) (njoin (nhd (ntl (ntl (ntl (nr (ntl N)))))) (njoin (nhd (ntl (ntl (ntl (ntl (nr (ntl N))))))) (njoin (nhd (ntl (ntl (ntl (ntl (ntl (nr (ntl N)))))))) (njoin (nhd N) (njoin (nhd (ntl (nr (ntl N)))) (napp (nl (ntl N)) (ntl (ntl (ntl (ntl (ntl (ntl (nr (ntl N))))))))))))))), ?_, ?_, ?_, ?_, List.mem_cons_self .., fun p hp => ?_, fun p hp => ?_⟩
  · exact List.forall_mem_cons.mpr ⟨Nat.ne_of_gt d2, List.forall_mem_cons.mpr ⟨Nat.ne_of_gt a1, List.forall_mem_append.mpr ⟨fun p hp => Nat.ne_of_gt (hfr p hp (I, oI) (by simp only [List.mem_cons, true_or, or_true])), nI⟩⟩⟩
  · exact List.forall_mem_cons.mpr ⟨Nat.ne_of_gt d5, List.forall_mem_cons.mpr ⟨Nat.ne_of_gt a4, List.forall_mem_append.mpr ⟨fun p hp => Nat.ne_of_gt (hfr p hp (c1, oR) (by simp only [List.mem_cons, true_or, or_true])), n1⟩⟩⟩
  · exact List.forall_mem_cons.mpr ⟨Nat.ne_of_gt d4, List.forall_mem_cons.mpr ⟨Nat.ne_of_gt a3, List.forall_mem_append.mpr ⟨fun p hp => Nat.ne_of_gt (hfr p hp (c2, oD) (by simp only [List.mem_cons, true_or, or_true])), n2⟩⟩⟩
  · exact List.forall_mem_cons.mpr ⟨Nat.ne_of_gt d3, List.forall_mem_cons.mpr ⟨Nat.ne_of_gt a2, List.forall_mem_append.mpr ⟨fun p hp => Nat.ne_of_gt (hfr p hp (c3, oT) (by simp only [List.mem_cons, true_or, or_true])), n3⟩⟩⟩
  · simp only [List.mem_cons, List.mem_append, hp, true_or, or_true]
  · simp only [List.mem_cons, List.mem_append, hp, true_or, or_true]
theorem due_loop {I dd : Addr} {dvs : List Value} {dep : Nat} {s : Shared} {R : Result → Shared → Prop} {news0 : List (Addr × Obj)}
   (B : Below A₀ base outer h₀) (X : (hd.heap_39 w.params).In h₀) (T : Top p loose mean mg mb h₀) (hdp : dp + 25 < recursionLimit) (hun : un + 110 < cLine)
   (hI1 : @LT.lt Nat _ (L + 1 + 1 + 1) I) {ds : List Int} {ts : List (List Itm)} {r : Nat} {f : Int} {fin : List (List Itm)} {rf : Nat} {ff : Int} (hD : Due ds ts r f fin rf ff) :
   ∀ (tail : List Value) (i : Nat) (q : Addr) (us : List Value) (e : Nat) (news : List (Addr × Obj)) (h : Heap) (tk : Nat) (oI oR oD oT : Obj) (vD vT : Option Value) (mm : Str → Option Value), dvs.drop i = tail → IntsAre tail ds → TextsIn news us ts → (q, listOf us.toArray e) ∈ news → (dd, listOf dvs.toArray dep) ∈ news → (∀ p ∈ news0, p ∈ news) →
     (∀ p ∈ news, p.1 ≠ I) → (∀ p ∈ news, p.1 ≠ L + 1) → (∀ p ∈ news, p.1 ≠ L + 1 + 1) → (∀ p ∈ news, p.1 ≠ L + 1 + 1 + 1) →
     Fr h₀ L h mm → mm (Str.ofString "texts") = some (.ref q) → (∃ tf, mm (Str.ofString "feeds") = some (.int f tf)) → News h₀ L h ((I, oI) :: (L + 1 + 1 + 1, oT) :: (L + 1 + 1, oD) :: (L + 1, oR) :: news) → LiIs oI dd i →
     (∃ tr, oR.data = .cell (some (.int r tr))) → oD.data = .cell vD → oT.data = .cell vT → 0 ≤ f → f + 400 * (ds.length : Int) ≤ 100000 →
     (∀ h' tk' mm' us' q' e' oR' news' tr' tf', Fr h₀ L h' mm' → mm' (Str.ofString "texts") = some (.ref q') → mm' (Str.ofString "feeds") = some (.int ff tf') → News h₀ L h' ((L + 1, oR') :: news') → (q', listOf us'.toArray e') ∈ news' → TextsIn news' us' fin → oR'.data = .cell (some (.int rf tr')) → (∀ p ∈ news0, p ∈ news') → R (.ok .next) { s with heap := h', toks := tk' }) →
     codeAny (model prog w) (ktrTop dp un gd (Str.ofString "_law_due") duScope L 127 (.ref 126) (duCells L) outer) (.forLoop duTarget (.ref I) duBody [] (duEnv L)) R { s with heap := h, toks := tk } := by
  induction hD with
  | nil hf hr =>
    intro tail i q us e news h tk oI oR oD oT vD vT mm hvs hds hts hq hdd hsub nI n1 n2 n3 F mt ⟨tf, mf⟩ N li ⟨tr, hR⟩ hDd hT f0 f1 ret
    cases hds
    refine for1 ?_
    refine lnext_done rfl F N (List.forall_mem_cons.mpr ⟨(by k_ne), List.forall_mem_cons.mpr ⟨(by k_ne), List.forall_mem_cons.mpr ⟨(by k_ne), nI⟩⟩⟩) li (List.mem_cons_of_mem _ (List.mem_cons_of_mem _ (List.mem_cons_of_mem _ hdd))) (drop_nil hvs) ?_
    intro h' F' N'
    dsimp only
    exact ret _ _ _ _ _ _ _ _ _ _ F' mt mf (news_rest (news_rest N')) hq hts hR hsub
  | @read d ds ts r f fin rf ff hd hf hr hDue ih =>
    intro tail i q us e news h tk oI oR oD oT vD vT mm hvs hds hts hq hdd hsub nI n1 n2 n3 F mt ⟨tf, mf⟩ N li ⟨tr, hR⟩ hDd hT f0 f1 ret
    cases hds with
    | @cons _ td vs _ hds =>
    obtain ⟨h1, h2⟩ := drop_cons hvs
    simp only [List.length_cons] at f1
    have hfl := feed_le hf
    conv in duTarget => whnf
    conv in duBody => whnf
    unfold duEnv
    conv in (occs := *) duScope => all_goals whnf
    refine for1 ?_
    refine lnext_item F N (List.forall_mem_cons.mpr ⟨(by k_ne), List.forall_mem_cons.mpr ⟨(by k_ne), List.forall_mem_cons.mpr ⟨(by k_ne), nI⟩⟩⟩) li (List.mem_cons_of_mem _ (List.mem_cons_of_mem _ (List.mem_cons_of_mem _ hdd))) h1 fun h₁ oI₁ F₁ N₁ li₁ => ?_
    dsimp only
    show wpAny _ _ (pure ()) _ _ _
    refine wpAny_pure ?_
    clear N F
    k_steps
    unfold Hold
    refine in06 (News.isTup (by assumption) (.head _)) (by repeat constructor) (in_yes hd) ?_
    k_steps
    rename Fr h₀ L _ _ => FF
    rename News h₀ L _ _ => NN
    rename _ ∧ _ => l1
    rename _ = Data.cell (some (.int _ td)) => hD2
    unfold Hold
    refine cnt_comp (q := q) (ts := ts) X T rfl FF NN mt (by k_mem) (texts_sub (fun p hp => by k_mem) hts) (by ktr_room) ?_
    intro D1 ys1 h3 tk3 F3 N3 lt1 hy1
    have hy1' : ys1.length ≤ 400 := by ktr_room
    clear FF NN
    k_steps
    rename Fr h₀ L _ _ => FF
    rename News h₀ L _ _ => NN
    unfold Hold
    refine par_stmt (q := q) (ts := ts) (r := r) B X T rfl (by ktr_room) (by ktr_room) FF NN ((if_neg (by decide)).trans mt) (by k_mem) (texts_sub (fun p hp => by k_mem) hts) (by ktr_room) hR hD2 (by k_mem) (by k_mem) hf ?_
    intro D2 ys2 ex2 h5 tk5 F5 N5 htx hfr hDc hne
    obtain ⟨NW, N6, w1, w2, w3, w4, w5, w6, w7⟩ := repack N5 l1 lt1 hDc hfr nI n1 n2 n3
    clear FF NN N5
    dsimp only
    k_steps
    rename Fr h₀ L _ _ => FF
    rename News h₀ L _ _ => NN
    rename _ = Data.cell (some (.int ((r : Int) + 1) _)) => hR2
    refine ih vs (i + 1) D2 ys2 _ NW _ _ oI₁ _ _ _ _ _ _ h2 hds (texts_sub w6 htx) w5 (w7 _ hdd) (fun p hp => w7 _ (hsub p hp)) w1 w2 w3 w4 FF (if_pos rfl) ⟨_, (if_neg (by decide)).trans ((if_pos rfl).trans (by rw [hy1]))⟩ NN li₁ ⟨_, hR2⟩ hD2 hT (by ktr_room) (by ktr_room) ret
  | @esc d ds ts r f fin rf ff hd hf hr hDue ih =>
    intro tail i q us e news h tk oI oR oD oT vD vT mm hvs hds hts hq hdd hsub nI n1 n2 n3 F mt ⟨tf, mf⟩ N li ⟨tr, hR⟩ hDd hT f0 f1 ret
    cases hds with
    | @cons _ td vs _ hds =>
    obtain ⟨h1, h2⟩ := drop_cons hvs
    simp only [List.length_cons] at f1
    conv in duTarget => whnf
    conv in duBody => whnf
    unfold duEnv
    conv in (occs := *) duScope => all_goals whnf
    refine for1 ?_
    refine lnext_item F N (List.forall_mem_cons.mpr ⟨(by k_ne), List.forall_mem_cons.mpr ⟨(by k_ne), List.forall_mem_cons.mpr ⟨(by k_ne), nI⟩⟩⟩) li (List.mem_cons_of_mem _ (List.mem_cons_of_mem _ (List.mem_cons_of_mem _ hdd))) h1 fun h₁ oI₁ F₁ N₁ li₁ => ?_
    dsimp only
    show wpAny _ _ (pure ()) _ _ _
    refine wpAny_pure ?_
    clear N F
    k_steps
    unfold Hold
    refine in06 (News.isTup (by assumption) (.head _)) (by repeat constructor) (in_no (by ktr_room) (by ktr_room)) ?_
    k_steps
    rename Fr h₀ L _ _ => FF
    rename News h₀ L _ _ => NN
    rename _ ∧ _ => l1
    rename _ = Data.cell (some (.int _ td)) => hD2
    unfold Hold
    refine table_call (cs := duScope) B FF X T rfl (by ktr_room) (by ktr_room) NN hd ?_
    intro x oB kvs h3 tk3 F3 N3 lo hB hP
    have nx3 : @Ne Nat x (L + 1 + 1 + 1) := dict_apart N3 hB hT (by k_mem)
    dsimp only
    k_steps
    rename Fr h₀ L _ _ => FF
    rename News h₀ L _ _ => NN
    rename _ = Data.cell (some (Value.ref x)) => hT2
    unfold Hold
    refine esc_stmt (q := q) (ts := ts) (tb := x) X T rfl FF NN mt (by k_mem) (texts_sub (fun p hp => by k_mem) hts) (by k_mem) hT2 (by k_mem) hB lo hP hf ?_
    intro D2 ys2 ex2 h5 tk5 F5 N5 htx hfr hDc hne
    obtain ⟨NW, N6, w1, w2, w3, w4, w5, w6, w7⟩ := repack2 N5 l1 hDc hfr nI n1 n2 n3
    clear FF NN N5
    dsimp only
    k_steps
    rename Fr h₀ L _ _ => FF
    rename News h₀ L _ _ => NN
    refine ih vs (i + 1) D2 ys2 _ NW _ _ oI₁ _ _ _ _ _ _ h2 hds (texts_sub w6 htx) w5 (w7 _ hdd) (fun p hp => w7 _ (hsub p hp)) w1 w2 w3 w4 FF (if_pos rfl) ⟨_, (if_neg (by decide)).trans mf⟩ NN li₁ ⟨_, hR⟩ hD2 hT2 (by ktr_room) (by ktr_room) ret
end
end Mine
end
section
open PySem PySem.W PyProof.Rows PySem.Calls
namespace Mine
theorem offDueC68 : True := by
  w_top off
  trivial
set_option maxRecDepth 100000
set_option maxHeartbeats 8000000
set_option linter.unusedVariables false


section
variable {w : World} {dp un : Nat} {gd : Option (List Code)} {cn : Str} {cs : Scope} {a : Addr} {ccd : Value} {cl : List (Str × Addr)} {outer : List Env} {A₀ : Around} {base h₀ : Heap} {L : Addr} {m : Str → Option Value}  {s : Shared} {p : Program} {loose : List Str} {mean : ExcName → Option Value} {mg mb : Str → Option Value} {Q E : Value → Shared → Prop}
theorem perm_due {g h : Heap} {I l c1 c2 c3 : Addr} {oI ol oT oD oR : Obj} {news : List (Addr × Obj)} (N : News g L h ((I, oI) :: (l, ol) :: (c3, oT) :: (c2, oD) :: (c1, oR) :: news)) : News g L h ((I, oI) :: (c3, oT) :: (c2, oD) :: (c1, oR) :: (l, ol) :: news) := (njoin (nhd N) (njoin (nhd (ntl (ntl N))) (njoin (nhd (ntl (ntl (ntl N)))) (njoin (nhd (ntl (ntl (ntl (ntl N))))) (njoin (nhd (ntl N)) (ntl (ntl (ntl (ntl (ntl N))))))))))
theorem due_call {q dd : Addr} {vs dvs : List Value} {its : List Itm} {e dep : Nat} {ds : List Int} {fin : List (List Itm)} {rf : Nat} {ff : Int} {news : List (Addr × Obj)}
   (B : Below A₀ base outer h₀) (F : Fr h₀ L s.heap m) (X : (hd.heap_39 w.params).In h₀) (T : Top p loose mean mg mb h₀) (hk : cs.kind = .function) (hdp : dp + 40 < recursionLimit) (hun : un + 140 < cLine)
   (N : News h₀ L s.heap news) (hq : (q, listOf vs.toArray e) ∈ news) (hi : ItemsIn news vs its) (hdd : (dd, listOf dvs.toArray dep) ∈ news) (hds : IntsAre dvs ds)
   (hD : Due ds [its] 0 1 fin rf ff) (hfin : Fine fin) (hrf : rf ≤ 12) (hdl : ds.length ≤ 100)
   (ret : ∀ tp D ys t1 h' tk', Fr h₀ L h' m → News h₀ L h' ((tp, tupObj [.ref D, .int ff t1]) :: (D, LCg.lst ys) :: news) → StrsAre ys (fin.map (textS (2 ^ rf))) → Q (.ref tp) { s with heap := h', toks := tk' }) :
   wpAny (model prog w) (ktrTop dp un gd cn cs L a ccd cl outer) (call (.ref 127) [.ref q, .ref dd]) Q E s := by
  refine wpAny_call ?_
  k_dflt (refine' code_defC ?k1 ?k2 ?k3 ?k4 ?k5 ?kA ?kF ?kK ?k6 ?k7 ?k8 ?k9 ?kB ?kD ?_ ?c2 ?c3 ?c4; (case kA => exact rfl); (case kF => exact rfl); (case kK => assumption); (case k1 => k_asm); (case k2 => k_asm); (case k3 => k_asm); (case k4 => k_asm); (case k5 => k_asm); (case k6 => k_is); (case k7 => k_is); (case k8 => k_room); (case k9 => first | exact BindsTo.of_eq rfl | exact binds_K (by k_in) rfl (by k_is) rfl rfl rfl | fail "k_enter: no rule for these arguments"); (case kB => exact rfl); (case kD => decide +kernel); (case c2 => exact rfl); (case c3 => exact rfl); (case c4 => exact rfl); k_whole; intro g' L' h' tk' cells' FG' F' N' Y' B' X' T' l1; (try k_lt l1); k_cells Y'; (try simp only [List.cons_append, List.nil_append] at N'); (try dsimp only); (try k_lift B'); (try k_fold))
  k_steps
  rename News _ _ _ _ => NN
  rename Fr _ _ _ _ => FF
  rename _ ∧ _ => l1
  rename ∀ p ∈ news, @LT.lt Nat _ _ _ => l0
  unfold Hold
  refine wpAny_For ?_
  walk1
  refine iterL FF NN (by k_mem) ?_
  intro I h3 oI F3 N3 li l2
  simp only [List.forall_mem_cons] at l2
  obtain ⟨a1, a2, a3, a4, a5⟩ := l2
  obtain ⟨b1, b2, b3, b4⟩ := l1
  have hall := allLt_all b4
  rename _ = Data.cell (some (.int 0 _)) => hR0
  refine due_loop (dd := dd) (dvs := dvs) (dep := dep) (news0 := news) (by assumption) (by assumption) (by assumption) ?dp ?un (Nat.lt_trans b1 a1) hD dvs 0 _ [.ref q] 0 ((_, listOf #[.ref q] 0) :: news) h3 _ oI _ _ _ _ _ _ rfl hds (.cons ⟨q, vs, e, rfl, List.mem_cons_of_mem _ hq, items_tail hi⟩ .nil) (List.mem_cons_self ..) (List.mem_cons_of_mem _ hdd) (fun p hp => List.mem_cons_of_mem _ hp)
    (List.forall_mem_cons.mpr ⟨Nat.ne_of_lt a1, ne_of_all a5 (Nat.le_refl _)⟩) (List.forall_mem_cons.mpr ⟨Nat.ne_of_gt b3, fun p hp => Nat.ne_of_lt (Nat.lt_trans (l0 p hp) (Nat.lt_succ_self _))⟩) (List.forall_mem_cons.mpr ⟨Nat.ne_of_gt b2, fun p hp => Nat.ne_of_lt (Nat.lt_trans (l0 p hp) (Nat.lt_succ_of_lt (Nat.lt_succ_self _)))⟩) (List.forall_mem_cons.mpr ⟨Nat.ne_of_gt b1, fun p hp => Nat.ne_of_lt (Nat.lt_trans (l0 p hp) (Nat.lt_succ_of_lt (Nat.lt_succ_of_lt (Nat.lt_succ_self _))))⟩)
    F3 rfl ⟨_, rfl⟩ (perm_due N3) li ⟨_, hR0⟩ (by assumption) (by assumption) (by decide) (by ktr_room) ?_
  case dp => ktr_room
  case un => ktr_room
  intro h4 tk4 m4 us4 q4 e4 oR4 news4 tr4 tf4 F4 mt4 mf4 N4 hq4 hts4 hR4 sub4
  dsimp only
  k_steps
  unfold Hold
  refine txt_comp (q := q4) (ts := fin) (r := rf) (by assumption) (by assumption) (by assumption) ?k ?dp ?un F4 N4 mt4 (by k_mem) (texts_sub (fun p hp => List.mem_cons_of_mem _ hp) hts4) hrf hR4 (by k_mem) hfin ?_
  case k => rfl
  case dp => ktr_room
  case un => ktr_room
  intro D5 ys5 h5 tk5 F5 N5 st5 lt5
  dsimp only
  k_steps
  rename Fr h₀ _ _ _ => kF
  rename News h₀ _ _ _ => kN
  refine ret _ D5 ys5 tf4 _ _ kF (fun p hp => kN p ?_) st5
  rcases List.mem_cons.mp hp with rfl | hp
  · exact List.mem_cons_self ..
  · rcases List.mem_cons.mp hp with rfl | hp
    · exact List.mem_cons_of_mem _ (List.mem_cons_self ..)
    · exact List.mem_cons_of_mem _ (List.mem_cons_of_mem _ (List.mem_cons_of_mem _ (sub4 p hp)))
end
end Mine
end
end
section
open PySem PySem.W PyProof.Rows PySem.Calls
namespace Mine
set_option linter.unusedVariables false
noncomputable abbrev tl (x : Str) : List Nat := x.cps.toList
noncomputable def bodyL (it : Itm) : List Nat := if tl it.w ≠ [] then tl it.w else tl it.s
noncomputable def piece (b : Nat) (it : Itm) : List Nat := List.replicate (it.n.toNat / b) 92 ++ (bodyL it ++ tl it.l)
noncomputable def textL (b : Nat) (its : List Itm) : List Nat := its.flatMap (piece b)
theorem textL_append (b : Nat) (x y : List Itm) : textL b (x ++ y) = textL b x ++ textL b y := List.flatMap_append
theorem textL_cons (b : Nat) (x : Itm) (y : List Itm) : textL b (x :: y) = piece b x ++ textL b y := by simp [textL]
theorem textL_nil (b : Nat) : textL b [] = [] := rfl
noncomputable def rd (shut : Bool) (cs tok : List Nat) : List Nat × List Nat := if shut = true then quoteL cs tok else wordL cs tok
noncomputable def stops (shut : Bool) (c : Nat) : Bool := if shut = true then decide (c = 34) else isWs c
theorem rd_nil (shut : Bool) (tok : List Nat) : rd shut [] tok = (tok, []) := by cases shut <;> simp [rd, wordL, quoteL]
theorem rd_cons (shut : Bool) (c : Nat) (cs tok : List Nat) : rd shut (c :: cs) tok = if stops shut c = true then (tok, cs) else if c = 92 then (match cs with | [] => (tok, []) | d :: cs' => rd shut cs' (tok ++ [d])) else rd shut cs (tok ++ [c]) := by
  cases shut
  · simp only [rd, stops, Bool.false_eq_true, if_false]
    rw [wordL_cons]
    all_goals (cases cs <;> rfl)
  · simp only [rd, stops, if_true, decide_eq_true_eq]
    rw [quoteL_cons]
    all_goals (cases cs <;> rfl)
theorem stops_bs (shut : Bool) : stops shut 92 = false := by cases shut <;> decide
theorem rd_bs (shut : Bool) (c : Nat) (cs tok : List Nat) : rd shut (92 :: c :: cs) tok = rd shut cs (tok ++ [c]) := by
  rw [rd_cons, stops_bs]; simp
theorem rd_bs1 (shut : Bool) (tok : List Nat) : rd shut [92] tok = (tok, []) := by
  rw [rd_cons, stops_bs]; simp
theorem rd_run (shut : Bool) (ys : List Nat) : ∀ (j : Nat) (tok : List Nat), rd shut (List.replicate (2 * j) 92 ++ ys) tok = rd shut ys (tok ++ List.replicate j 92)
  | 0, tok => by simp
  | j + 1, tok => by
    have : 2 * (j + 1) = 2 * j + 1 + 1 := by lia
    rw [this, List.replicate_succ, List.replicate_succ, List.cons_append, List.cons_append, rd_bs, rd_run shut ys j]
    simp [List.replicate_succ]
noncomputable def plainC (shut : Bool) (c : Nat) : Bool := !stops shut c && decide (c ≠ 92)
theorem rd_plain (shut : Bool) (ys : List Nat) : ∀ (w tok : List Nat), w.all (plainC shut) = true → rd shut (w ++ ys) tok = rd shut ys (tok ++ w)
  | [], tok, _ => by simp
  | c :: w, tok, h => by
    simp only [List.all_cons, Bool.and_eq_true, plainC, Bool.not_eq_true', decide_eq_true_eq] at h
    rw [List.cons_append, rd_cons, h.1.1, if_neg (by simp), if_neg h.1.2, rd_plain shut ys w _ (by simpa [plainC] using h.2)]
    simp
theorem rd_even {shut : Bool} {ys w tok : List Nat} {k : Nat} (hk : k % 2 = 0) (h : w.all (plainC shut) = true) : rd shut (List.replicate k 92 ++ w ++ ys) tok = rd shut ys (tok ++ (List.replicate (k / 2) 92 ++ w)) := by
  have : k = 2 * (k / 2) := by lia
  rw [List.append_assoc]
  conv => lhs; rw [this]
  rw [rd_run, rd_plain _ _ _ _ h, List.append_assoc]
theorem rd_odd {shut : Bool} {ys w tok : List Nat} {k c : Nat} (hk : k % 2 = 1) (h : w.all (plainC shut) = true) : rd shut (List.replicate k 92 ++ (c :: w) ++ ys) tok = rd shut ys (tok ++ (List.replicate (k / 2) 92 ++ (c :: w))) := by
  have : k = 2 * (k / 2) + 1 := by lia
  conv => lhs; rw [this]
  rw [List.replicate_succ', List.append_assoc, List.append_assoc, rd_run]
  show rd shut (92 :: c :: (w ++ ys)) _ = _
  rw [rd_bs, rd_plain _ _ _ _ h]
  simp
theorem rd_end {shut : Bool} {tok : List Nat} (k : Nat) : rd shut (List.replicate k 92) tok = (tok ++ List.replicate (k / 2) 92, []) := by
  by_cases hk : k % 2 = 0
  · have := rd_even (shut := shut) (ys := []) (w := []) (tok := tok) hk rfl
    simp only [List.append_nil] at this
    rw [this, rd_nil]
  · have e : k = 2 * (k / 2) + 1 := by lia
    conv => lhs; rw [e]
    rw [List.replicate_succ', rd_run, rd_bs1]
noncomputable def signs8 : List Nat := [32, 9, 10, 13, 34, 38, 60, 62]
noncomputable def letters5 : List Nat := [111, 97, 35, 59, 39]
noncomputable def safeC (y : Nat) : Bool := decide (y < 1114112) && !([9, 10, 13, 32, 34, 38, 60, 62, 92].contains y)
noncomputable def wOk (w : Str) : Prop := tl w = [] ∨ ∃ w', tl w = 38 :: w' ∧ w'.all safeC = true
structure AIt (it : Itm) : Prop where
  s : ∃ c, it.s = ⟨#[c]⟩ ∧ c ∈ signs8
  l : ∃ x, it.l = ⟨#[x]⟩ ∧ x ∈ letters5
  w : wOk it.w
  n : 0 ≤ it.n
structure BIt (it : Itm) : Prop where
  s : it.s = ⟨#[]⟩
  l : it.l = ⟨#[]⟩
  w : it.w = ⟨#[]⟩
structure CIt (it : Itm) : Prop where
  n : it.n = 0
  s : it.s = ⟨#[]⟩
  l : ∃ x, it.l = ⟨#[x]⟩ ∧ x ∈ letters5
  w : it.w = ⟨#[]⟩
inductive Tail : List Itm → Prop
  | nil : Tail []
  | run {it} : BIt it → Tail [it]
  | cons {it its} : AIt it → Tail its → Tail (it :: its)
theorem empty_is : Str.ofString "" = ⟨#[]⟩ := by decide
theorem str_nil {x : Str} : (x == Str.ofString "") = true ↔ tl x = [] := by
  rw [beq_iff_eq, empty_is]
  constructor
  · rintro rfl; rfl
  · intro h
    obtain ⟨⟨l⟩⟩ := x
    simp only [tl] at h
    rw [h]
theorem hit_sign : ∀ (shut : Bool), ∀ c ∈ signs8, hit shut ⟨#[c]⟩ = stops shut c := by decide +kernel
theorem letter_plain : ∀ (shut : Bool), ∀ c ∈ letters5, plainC shut c = true := by decide
theorem sign_bs : ∀ c ∈ signs8, c ≠ 92 := by decide
theorem safe_plain (shut : Bool) (c : Nat) (h : safeC c = true) : plainC shut c = true := by
  simp only [safeC, Bool.and_eq_true, Bool.not_eq_true', List.contains_eq_mem, List.mem_cons, List.not_mem_nil, or_false, decide_eq_false_iff_not, not_or] at h
  replace h := h.2
  cases shut <;> simp [plainC, stops, isWs, h]
theorem amp_plain (shut : Bool) : plainC shut 38 = true := by cases shut <;> decide
theorem wOk_plain {w : Str} (h : wOk w) (shut : Bool) : (tl w).all (plainC shut) = true := by
  rcases h with h | ⟨w', h, hs⟩
  · rw [h]; rfl
  · rw [h, List.all_cons, amp_plain, Bool.true_and, List.all_eq_true]
    rw [List.all_eq_true] at hs
    exact fun x hx => safe_plain _ _ (hs x hx)
theorem half (n b : Nat) : n / (2 * b) = n / b / 2 := by rw [Nat.mul_comm, Nat.div_div_eq_div_mul]
theorem div_nat {n : Int} (h : 0 ≤ n) (b : Nat) : n / (b : Int) = ((n.toNat / b : Nat) : Int) := by
  obtain ⟨k, rfl⟩ := Int.eq_ofNat_of_zero_le h
  simp
theorem even_nat {n : Int} (h : 0 ≤ n) (b : Nat) : decide ((n / (b : Int)).fmod 2 = 0) = decide (n.toNat / b % 2 = 0) := by
  rw [div_nat h, Int.fmod_eq_emod_of_nonneg _ (by decide)]
  congr 1
  apply propext
  lia
theorem body_w {it : Itm} (h : tl it.w ≠ []) : bodyL it = tl it.w := by rw [bodyL, if_pos h]
theorem body_s {it : Itm} (h : tl it.w = []) : bodyL it = tl it.s := by rw [bodyL, if_neg (by simp [h])]
theorem isCut_A {it : Itm} (h : AIt it) {b : Nat} {shut : Bool} {c : Nat} (hc : it.s = ⟨#[c]⟩) (h8 : c ∈ signs8) : isCut b shut it = (decide (tl it.w = []) && (decide (it.n.toNat / b % 2 = 0) && stops shut c)) := by
  unfold isCut
  rw [even_nat h.n, hc, hit_sign shut c h8]
  have e1 : ((⟨#[c]⟩ : Str) != Str.ofString "") = true := by rw [empty_is]; simp
  have e2 : (it.w == Str.ofString "") = decide (tl it.w = []) := by rw [Bool.eq_iff_iff, str_nil, decide_eq_true_eq]
  rw [e1, e2, Bool.true_and]
theorem step_A {it : Itm} (h : AIt it) {b : Nat} {shut : Bool} (hc : isCut b shut it = false) (ys tok : List Nat) : rd shut (piece b it ++ ys) tok = rd shut ys (tok ++ piece (2 * b) it) := by
  obtain ⟨c, e, h8⟩ := h.s
  obtain ⟨x, ex, h5⟩ := h.l
  rw [isCut_A h e h8] at hc
  unfold piece
  rw [half]
  have el : tl it.l = [x] := by rw [ex]
  have es : tl it.s = [c] := by rw [e]
  by_cases hk : it.n.toNat / b % 2 = 0
  · refine rd_even hk ?_
    rw [List.all_append, el]
    simp only [List.all_cons, List.all_nil, letter_plain shut x h5, Bool.and_true]
    by_cases hw : tl it.w = []
    · rw [body_s hw, es]
      simp only [hw, hk, decide_true, Bool.true_and] at hc
      simp [plainC, hc, sign_bs c h8]
    · rw [body_w hw]; exact wOk_plain h.w shut
  · have hk : it.n.toNat / b % 2 = 1 := by lia
    by_cases hw : tl it.w = []
    · rw [body_s hw, es, el]
      exact rd_odd hk (by simp [letter_plain shut x h5])
    · rw [body_w hw, el]
      rcases h.w with hw' | ⟨w', e', hs⟩
      · exact absurd hw' hw
      · rw [e']
        refine rd_odd hk ?_
        show (w' ++ [x]).all (plainC shut) = true
        rw [List.all_append, List.all_eq_true.mpr (fun y hy => safe_plain shut y (List.all_eq_true.mp hs y hy))]
        simp [letter_plain shut x h5]
theorem step_C {it : Itm} (h : CIt it) {b : Nat} {shut : Bool} (ys tok : List Nat) : rd shut (piece b it ++ ys) tok = rd shut ys (tok ++ piece (2 * b) it) := by
  obtain ⟨x, ex, h5⟩ := h.l
  unfold piece
  rw [half]
  have el : tl it.l = [x] := by rw [ex]
  refine rd_even (by rw [h.n]; simp) ?_
  rw [body_s (by rw [h.w]), h.s, el]
  simp [letter_plain shut x h5]
theorem step_B {it : Itm} (h : BIt it) {b : Nat} {shut : Bool} (tok : List Nat) : rd shut (piece b it) tok = (tok ++ piece (2 * b) it, []) := by
  unfold piece
  rw [half, body_s (by rw [h.w]), h.s, h.l]
  simp only [tl, List.append_nil]
  exact rd_end _
theorem isCut_B {it : Itm} (h : it.s = ⟨#[]⟩) (b : Nat) (shut : Bool) : isCut b shut it = false := by
  unfold isCut
  rw [h, ← empty_is]; simp
theorem step_cut {it : Itm} (h : AIt it) {b : Nat} {shut : Bool} (hc : isCut b shut it = true) (ys tok : List Nat) : rd shut (piece b it ++ ys) tok = (tok ++ piece (2 * b) (runOf it), tl it.l ++ ys) := by
  obtain ⟨c, e, h8⟩ := h.s
  rw [isCut_A h e h8] at hc
  simp only [Bool.and_eq_true, decide_eq_true_eq] at hc
  obtain ⟨hw, hk, hs⟩ := hc
  have es : tl it.s = [c] := by rw [e]
  have h2 : piece (2 * b) (runOf it) = List.replicate (it.n.toNat / b / 2) 92 := by
    unfold piece
    rw [half, body_s (show tl (runOf it).w = [] from by simp [runOf, empty_is])]
    simp [runOf, empty_is]
  rw [h2]
  unfold piece
  rw [body_s hw, es]
  have hk2 : it.n.toNat / b = 2 * (it.n.toNat / b / 2) := by lia
  conv => lhs; rw [hk2]
  rw [List.append_assoc, rd_run]
  show rd shut (c :: (tl it.l ++ ys)) _ = _
  rw [rd_cons, hs, if_pos rfl]
theorem lex_word {c : Nat} {cs : List Nat} (h1 : isWs c = false) (h2 : c ≠ 34) : lexTok (c :: cs) = rd false (c :: cs) [] := by
  rw [lexTok_cons, rd_cons]
  simp only [h1, stops, h2, if_false, Bool.false_eq_true]
  split
  · cases cs <;> rfl
  · rfl
theorem letter_lex : ∀ c ∈ letters5, isWs c = false ∧ c ≠ 34 := by decide
theorem cut_ne {b : Nat} : ∀ (its cur : List Itm) (shut : Bool), ∃ T TS, cutL b shut cur its = T :: TS
  | [], cur, shut => ⟨_, _, rfl⟩
  | it :: its, cur, shut => by
    unfold cutL
    split
    · exact ⟨_, _, rfl⟩
    · exact cut_ne its _ _
theorem headC {it : Itm} (h : AIt it) : CIt (headOf it) := ⟨rfl, empty_is, h.l, empty_is⟩
theorem piece_C {it : Itm} (h : CIt it) (b : Nat) : piece b it = tl it.l := by
  unfold piece
  rw [body_s (by rw [h.w]), h.s, h.n]
  simp
theorem cut_reads {b : Nat} : ∀ (its cur : List Itm) (shut : Bool) (tok : List Nat) (T : List Itm) (TS : List (List Itm)), Tail its → tok = textL (2 * b) cur → tok ≠ [] → cutL b shut cur its = T :: TS →
    (rd shut (textL b its) tok).1 = textL (2 * b) T ∧ textL (2 * b) T ≠ [] ∧ Lexes (rd shut (textL b its) tok).2 (TS.map (textL (2 * b))) [] := by
  intro its
  induction its with
  | nil =>
    intro cur shut tok T TS ht hT hne hcut
    rw [cutL] at hcut
    cases hcut
    rw [textL_nil, rd_nil]
    refine ⟨hT, hT ▸ hne, ?_⟩
    exact Lexes.stop (by simp [lexTok.eq_def]) (by simp [lexTok.eq_def])
  | cons it its ih =>
    intro cur shut tok T TS ht hT hne hcut
    rw [cutL] at hcut
    cases ht with
    | run hB =>
      rw [if_neg (by rw [isCut_B hB.s]; simp), cutL] at hcut
      cases hcut
      rw [textL_cons, textL_nil, List.append_nil, step_B hB, textL_append, textL_cons, textL_nil, List.append_nil, hT]
      refine ⟨rfl, ?_, ?_⟩
      · intro e
        rw [← hT] at e
        exact hne (List.append_eq_nil_iff.mp e).1
      · exact Lexes.stop (by simp [lexTok.eq_def]) (by simp [lexTok.eq_def])
    | cons hA ht =>
      by_cases hc : isCut b shut it = true
      · rw [if_pos hc] at hcut
        obtain ⟨T2, TS2, h2⟩ := cut_ne (b := b) its [headOf it] false
        rw [h2] at hcut
        cases hcut
        rw [textL_cons, step_cut hA hc, textL_append, textL_cons, textL_nil, List.append_nil, ← hT]
        refine ⟨rfl, by simp [hne], ?_⟩
        obtain ⟨x, ex, h5⟩ := hA.l
        have el : tl it.l = [x] := by rw [ex]
        have hh : tl (headOf it).l = [x] := el
        have ph : textL (2 * b) [headOf it] = [x] := by rw [textL_cons, textL_nil, piece_C (headC hA), hh]; rfl
        obtain ⟨g1, g2, g3⟩ := ih [headOf it] false [x] T2 TS2 ht ph.symm (by simp) h2
        have hx := letter_lex x h5
        have hlex : lexTok (x :: textL b its) = rd false (textL b its) [x] := by
          rw [lex_word hx.1 hx.2]
          have := rd_plain false (textL b its) [x] [] (by simp [letter_plain false x h5])
          simpa using this
        rw [el]
        refine Lexes.more ?_ g2 ?_
        · show (lexTok (x :: textL b its)).1 = _
          rw [hlex, g1]
        · show Lexes (lexTok (x :: textL b its)).2 _ _
          rw [hlex]; exact g3
      · rw [if_neg hc] at hcut
        have hc' : isCut b shut it = false := by simpa using hc
        rw [textL_cons, step_A hA hc']
        exact ih _ shut _ T TS ht (by rw [textL_append, textL_cons, textL_nil, List.append_nil, hT]) (by simp [hne]) hcut
end Mine
end
section
open PySem PySem.W PyProof.Rows PySem.Calls
namespace Mine
set_option linter.unusedVariables false
noncomputable def Start (R : Nat) (it : Itm) : Prop := CIt it ∨ (AIt it ∧ it.n = ((2 ^ R - 1 : Nat) : Int))
noncomputable def Whole (R : Nat) (t : List Itm) : Prop := ∃ it its, t = it :: its ∧ Start R it ∧ Tail its
noncomputable def CurOk (R : Nat) (t : List Itm) : Prop := ∃ it its, t = it :: its ∧ Start R it ∧ ∀ x ∈ its, AIt x
theorem tail_app {its : List Itm} (h : Tail its) : ∀ mid : List Itm, (∀ x ∈ mid, AIt x) → Tail (mid ++ its)
  | [], _ => h
  | x :: mid, hm => .cons (hm x (List.mem_cons_self ..)) (tail_app h mid fun y hy => hm y (List.mem_cons_of_mem _ hy))
theorem runB (it : Itm) : BIt (runOf it) := ⟨empty_is, empty_is, empty_is⟩
theorem curOk_snoc {R : Nat} {cur : List Itm} {it : Itm} (h : CurOk R cur) (hA : AIt it) : CurOk R (cur ++ [it]) := by
  obtain ⟨i0, mid, rfl, hs, hm⟩ := h
  refine ⟨i0, mid ++ [it], rfl, hs, fun x hx => ?_⟩
  rcases List.mem_append.mp hx with hx | hx
  · exact hm x hx
  · rw [List.mem_singleton] at hx; exact hx ▸ hA
theorem curOk_end {R : Nat} {cur its : List Itm} (h : CurOk R cur) (ht : Tail its) : Whole R (cur ++ its) := by
  obtain ⟨i0, mid, rfl, hs, hm⟩ := h
  exact ⟨i0, mid ++ its, rfl, hs, tail_app ht mid hm⟩
theorem cut_whole {R b : Nat} : ∀ (its cur : List Itm) (shut : Bool), CurOk R cur → Tail its → ∀ t ∈ cutL b shut cur its, Whole R t := by
  intro its
  induction its with
  | nil =>
    intro cur shut hc ht t h
    rw [cutL, List.mem_singleton] at h
    subst h
    simpa using curOk_end hc .nil
  | cons it its ih =>
    intro cur shut hc ht t h
    rw [cutL] at h
    cases ht with
    | run hB =>
      rw [if_neg (by rw [isCut_B hB.s]; simp), cutL, List.mem_singleton] at h
      subst h
      exact curOk_end hc (.run hB)
    | cons hA ht =>
      split at h
      · rcases List.mem_cons.mp h with rfl | h
        · exact curOk_end hc (.run (runB it))
        · exact ih _ _ ⟨headOf it, [], rfl, .inl (headC hA), by simp⟩ ht t h
      · exact ih _ _ (curOk_snoc hc hA) ht t h
theorem cut_len {b : Nat} : ∀ (its cur : List Itm) (shut : Bool), ∀ t ∈ cutL b shut cur its, t.length ≤ cur.length + its.length + (if cur = [] then 1 else 0) := by
  intro its
  induction its with
  | nil =>
    intro cur shut t h
    rw [cutL, List.mem_singleton] at h
    subst h
    lia
  | cons it its ih =>
    intro cur shut t h
    rw [cutL] at h
    split at h
    · rcases List.mem_cons.mp h with rfl | h
      · simp only [List.length_append, List.length_cons, List.length_nil]; lia
      · have := ih _ _ t h
        simp only [List.length_cons, List.length_nil, List.cons_ne_nil, if_false] at this ⊢
        have : cur.length = 0 → cur = [] := List.length_eq_zero_iff.mp
        split <;> lia
    · have := ih _ _ t h
      rw [if_neg (by simp)] at this
      simp only [List.length_append, List.length_cons, List.length_nil] at this ⊢
      lia
theorem cut_all {P : Itm → Prop} (hP : ∀ it, P it → P (runOf it) ∧ P (headOf it)) {b : Nat} : ∀ (its cur : List Itm) (shut : Bool), (∀ x ∈ cur, P x) → (∀ x ∈ its, P x) → ∀ t ∈ cutL b shut cur its, ∀ x ∈ t, P x := by
  intro its
  induction its with
  | nil =>
    intro cur shut hc ht t h
    rw [cutL, List.mem_singleton] at h
    exact h ▸ hc
  | cons it its ih =>
    intro cur shut hc ht t h
    rw [cutL] at h
    have hi := ht it (List.mem_cons_self ..)
    have ht' : ∀ x ∈ its, P x := fun x hx => ht x (List.mem_cons_of_mem _ hx)
    have snoc : ∀ y, P y → ∀ x ∈ cur ++ [y], P x := by
      intro y hy x hx
      rcases List.mem_append.mp hx with hx | hx
      · exact hc x hx
      · rw [List.mem_singleton] at hx; exact hx ▸ hy
    split at h
    · rcases List.mem_cons.mp h with rfl | h
      · exact snoc _ (hP it hi).1
      · exact ih _ _ (by simpa using (hP it hi).2) ht' t h
    · exact ih _ _ (snoc _ hi) ht' t h
noncomputable def hasS (it : Itm) : Bool := it.s != Str.ofString ""
theorem cut_cnt {b : Nat} : ∀ (its cur : List Itm) (shut : Bool), ((cutL b shut cur its).map fun t => 1 + t.countP hasS).sum = 1 + cur.countP hasS + its.countP hasS := by
  intro its
  induction its with
  | nil => intro cur shut; simp [cutL]
  | cons it its ih =>
    intro cur shut
    rw [cutL]
    split
    · rename_i h
      have hs : hasS it = true := by
        simp only [isCut, Bool.and_eq_true] at h
        exact h.1
      have h0 : hasS (runOf it) = false := by simp [hasS, runOf]
      have h1 : hasS (headOf it) = false := by simp [hasS, headOf]
      rw [List.map_cons, List.sum_cons, ih, List.countP_append, List.countP_cons_of_pos hs]
      simp only [List.countP_cons, List.countP_nil, h0, h1]
      simp only [Bool.false_eq_true, if_false]
      lia
    · rw [ih, List.countP_append, List.countP_cons, List.countP_cons]
      simp only [List.countP_nil]
      lia
theorem flat_sum {α β : Type} (f : α → List β) (g : β → Nat) (k : α → Nat) : ∀ ts : List α, (∀ t ∈ ts, ((f t).map g).sum = k t) → ((ts.flatMap f).map g).sum = (ts.map k).sum
  | [], _ => rfl
  | t :: ts, h => by
    rw [List.flatMap_cons, List.map_append, List.sum_append, List.map_cons, List.sum_cons, h t (List.mem_cons_self ..), flat_sum f g k ts fun x hx => h x (List.mem_cons_of_mem _ hx)]
noncomputable def bnd (W : Nat) (it : Itm) : Prop := 0 ≤ it.n ∧ it.n ≤ 200 ∧ it.w.length ≤ W ∧ it.s.length ≤ 1 ∧ it.l.length ≤ 1
structure Inv (R W : Nat) (ts : List (List Itm)) : Prop where
  whole : ∀ t ∈ ts, Whole R t
  len : ∀ t ∈ ts, t.length ≤ 11
  bnd : ∀ t ∈ ts, ∀ it ∈ t, bnd W it
  cnt : (ts.map fun t => 1 + t.countP hasS).sum ≤ 12
theorem sum_len {α : Type} (k : α → Nat) : ∀ ts : List α, ts.length ≤ (ts.map fun t => 1 + k t).sum
  | [] => Nat.le_refl _
  | t :: ts => by have := sum_len k ts; simp only [List.length_cons, List.map_cons, List.sum_cons]; lia
theorem Inv.num {R W : Nat} {ts : List (List Itm)} (h : Inv R W ts) : ts.length ≤ 12 := Nat.le_trans (sum_len _ ts) h.cnt
theorem Inv.fine {R W : Nat} {ts : List (List Itm)} (h : Inv R W ts) (hW : W ≤ 1000) : Fine ts := by
  refine ⟨by have := h.num; lia, fun t ht => ⟨by have := h.len t ht; lia, fun it hi => ?_⟩⟩
  obtain ⟨a, b, c, d, e⟩ := h.bnd t ht it hi
  exact ⟨a, by lia, by lia, by lia, by lia⟩
/-- a whole text's first item is never parted before the last reading -/
theorem start_keep {R r : Nat} {it : Itm} (h : Start R it) (hr : r < R) (shut : Bool) : isCut (2 ^ r) shut it = false := by
  rcases h with h | ⟨hA, hn⟩
  · exact isCut_B h.s _ _
  · obtain ⟨c, e, h8⟩ := hA.s
    rw [isCut_A hA e h8, hn]
    have : ((2 ^ R - 1 : Nat) : Int).toNat / 2 ^ r % 2 = 1 := by
      rw [Int.toNat_natCast]
      obtain ⟨k, rfl⟩ : ∃ k, R = r + 1 + k := ⟨R - r - 1, by lia⟩
      have hp : 0 < 2 ^ r := Nat.two_pow_pos r
      have hk : 0 < 2 ^ k := Nat.two_pow_pos k
      have e : 2 ^ (r + 1 + k) - 1 = 2 ^ r * (2 * 2 ^ k - 1) + (2 ^ r - 1) := by
        rw [Nat.mul_sub, Nat.mul_one, Nat.pow_add, Nat.pow_succ, Nat.mul_assoc]
        have : 2 ^ r ≤ 2 ^ r * (2 * 2 ^ k) := Nat.le_mul_of_pos_right _ (by lia)
        lia
      rw [e, Nat.mul_add_div hp, Nat.div_eq_of_lt (by lia : 2 ^ r - 1 < 2 ^ r)]
      lia
    rw [this]; simp
theorem cut_start {R r : Nat} {it : Itm} {its : List Itm} (h : Start R it) (hr : r < R) (shut : Bool) : cutL (2 ^ r) shut [] (it :: its) = cutL (2 ^ r) shut [it] its := by
  rw [cutL, start_keep h hr]; simp
theorem read_inv {R W r : Nat} {ts : List (List Itm)} (h : Inv R W ts) (hr : r < R) (shut : Bool) : Inv R W (ts.flatMap fun t => cutL (2 ^ r) shut [] t) := by
  refine ⟨fun t ht => ?_, fun t ht => ?_, fun t ht => ?_, ?_⟩
  · obtain ⟨t0, h0, h1⟩ := List.mem_flatMap.mp ht
    obtain ⟨it, its, rfl, hs, htl⟩ := h.whole t0 h0
    rw [cut_start hs hr] at h1
    exact cut_whole its [it] shut ⟨it, [], rfl, hs, by simp⟩ htl t h1
  · obtain ⟨t0, h0, h1⟩ := List.mem_flatMap.mp ht
    have hl := h.len t0 h0
    obtain ⟨it, its, rfl, hs, htl⟩ := h.whole t0 h0
    rw [cut_start hs hr] at h1
    have := cut_len its [it] shut t h1
    simp only [List.length_cons, List.length_nil, List.cons_ne_nil, if_false] at this hl
    lia
  · obtain ⟨t0, h0, h1⟩ := List.mem_flatMap.mp ht
    refine cut_all (P := bnd W) ?_ t0 [] shut (by simp) (h.bnd t0 h0) t h1
    rintro it ⟨a, b, c, d, e⟩
    have e0 : (Str.ofString "").length = 0 := by decide
    refine ⟨⟨a, b, ?_, ?_, ?_⟩, ⟨Int.le_refl _, by show (0 : Int) ≤ 200; lia, ?_, ?_, e⟩⟩
    all_goals (first | (show (Str.ofString "").length ≤ _; rw [e0]; lia))
  · rw [flat_sum _ _ (fun t => 1 + t.countP hasS) ts fun t ht => by rw [cut_cnt]; simp]
    exact h.cnt
noncomputable abbrev aheadL (shut : Bool) : List Nat := if shut = true then [32, 34] else [32]
theorem start_head {R r : Nat} {it : Itm} (h : Start R it) (hr : r < R) (ys : List Nat) : ∃ c cs, piece (2 ^ r) it ++ ys = c :: cs ∧ isWs c = false ∧ c ≠ 34 := by
  rcases h with h | ⟨hA, hn⟩
  · obtain ⟨x, ex, h5⟩ := h.l
    rw [piece_C h, ex]
    exact ⟨x, ys, rfl, letter_lex x h5⟩
  · have hpos : 0 < it.n.toNat / 2 ^ r := by
      rw [hn, Int.toNat_natCast]
      refine Nat.div_pos ?_ (Nat.two_pow_pos r)
      have : 2 ^ (r + 1) ≤ 2 ^ R := Nat.pow_le_pow_right (by decide) (by lia)
      have hp := Nat.two_pow_pos r
      rw [Nat.pow_succ] at this
      lia
    obtain ⟨k, hk⟩ : ∃ k, it.n.toNat / 2 ^ r = k + 1 := ⟨_, (Nat.succ_pred_eq_of_pos hpos).symm⟩
    unfold piece
    rw [hk, List.replicate_succ]
    exact ⟨92, _, rfl, by decide, by decide⟩
theorem piece_ne {R b : Nat} {it : Itm} (h : Start R it) : piece b it ≠ [] := by
  have hl : tl it.l ≠ [] := by
    rcases h with h | ⟨hA, _⟩
    · obtain ⟨x, ex, _⟩ := h.l; rw [ex]; simp [tl]
    · obtain ⟨x, ex, _⟩ := hA.l; rw [ex]; simp [tl]
  unfold piece
  simp [hl]
theorem lex_ahead {R r : Nat} {it : Itm} (h : Start R it) (hr : r < R) (shut : Bool) (ys : List Nat) : lexTok (aheadL shut ++ (piece (2 ^ r) it ++ ys)) = rd shut (piece (2 ^ r) it ++ ys) [] := by
  obtain ⟨c, cs, e, h1, h2⟩ := start_head h hr ys
  cases shut
  · show lexTok (32 :: (piece (2 ^ r) it ++ ys)) = _
    rw [lexTok_cons, if_pos (by decide), e, lex_word h1 h2]
  · show lexTok (32 :: 34 :: (piece (2 ^ r) it ++ ys)) = _
    rw [lexTok_cons, if_pos (by decide), lexTok_cons, if_neg (by decide), if_pos rfl]
    rfl
theorem read_text {R r : Nat} {t : List Itm} (h : Whole R t) (hr : r < R) (shut : Bool) : Lexes (aheadL shut ++ textL (2 ^ r) t) ((cutL (2 ^ r) shut [] t).map (textL (2 ^ (r + 1)))) [] := by
  obtain ⟨it, its, rfl, hs, htl⟩ := h
  rw [cut_start hs hr]
  obtain ⟨T, TS, hT⟩ := cut_ne (b := 2 ^ r) its [it] shut
  have e2 : 2 ^ (r + 1) = 2 * 2 ^ r := by rw [Nat.pow_succ, Nat.mul_comm]
  have hk : rd shut (piece (2 ^ r) it ++ textL (2 ^ r) its) [] = rd shut (textL (2 ^ r) its) (piece (2 * 2 ^ r) it) := by
    rcases id hs with hC | ⟨hA, _⟩
    · have := step_C hC (b := 2 ^ r) (shut := shut) (textL (2 ^ r) its) []
      simpa using this
    · have := step_A hA (start_keep hs hr shut) (textL (2 ^ r) its) []
      simpa using this
  obtain ⟨g1, g2, g3⟩ := cut_reads its [it] shut (piece (2 * 2 ^ r) it) T TS htl (by rw [textL_cons, textL_nil, List.append_nil]) (piece_ne hs) hT
  have hlex := lex_ahead hs hr shut (textL (2 ^ r) its)
  rw [hk] at hlex
  rw [hT, List.map_cons, e2, textL_cons]
  refine Lexes.more ?_ g2 ?_
  · rw [hlex, g1]
  · rw [hlex]; exact g3
end Mine
end
section
open PySem PySem.W PyProof.Rows PySem.Calls
namespace Mine
set_option linter.unusedVariables false
noncomputable def oneToFive (d : Int) : Prop := d = 1 ∨ d = 2 ∨ d = 3 ∨ d = 4 ∨ d = 5
theorem esc_good {d : Int} (h : oneToFive d) : goodPs (escOf d) = true := by
  rcases h with rfl | rfl | rfl | rfl | rfl <;> decide +kernel
noncomputable abbrev escF (d : Int) (c : Nat) : List Nat := tabOf (escOf d) c
theorem esc_flat {d : Int} (h : oneToFive d) (l : List Nat) : escL (escOf d) l = l.flatMap (escF d) := escL_tab _ _ (esc_good h)
theorem escF_bs {d : Int} (h : oneToFive d) : escF d 92 = [92] := by
  rcases h with rfl | rfl | rfl | rfl | rfl <;> decide +kernel
theorem escF_amp {d : Int} (h : oneToFive d) : escF d 38 = [38, 97, 109, 112, 59] := by
  rcases h with rfl | rfl | rfl | rfl | rfl <;> decide +kernel
theorem escF_letter {d : Int} (h : oneToFive d) : ∀ x ∈ letters5, escF d x = [x] := by
  rcases h with rfl | rfl | rfl | rfl | rfl <;> decide +kernel
theorem tabOf_safe : ∀ (ps : List (Nat × List Nat)) (y : Nat), (∀ p ∈ ps, p.1 ≠ y) → tabOf ps y = [y]
  | [], _, _ => rfl
  | (c, z) :: r, y, h => by
    rw [tabOf, if_neg (fun e => h _ (List.mem_cons_self ..) e.symm), tabOf_safe r y fun p hp => h p (List.mem_cons_of_mem _ hp)]
theorem esc_keys {d : Int} (h : oneToFive d) : ∀ p ∈ escOf d, safeC p.1 = false := by
  rcases h with rfl | rfl | rfl | rfl | rfl <;> decide +kernel
theorem escF_safe {d : Int} (h : oneToFive d) {y : Nat} (hy : safeC y = true) : escF d y = [y] := by
  refine tabOf_safe _ _ fun p hp e => ?_
  have := esc_keys h p hp
  rw [e, hy] at this
  exact absurd this (by decide)
theorem escF_sign {d : Int} (h : oneToFive d) : ∀ c ∈ signs8, escF d c = (if tl (tabS d ⟨#[c]⟩) ≠ [] then tl (tabS d ⟨#[c]⟩) else [c]) := by
  rcases h with rfl | rfl | rfl | rfl | rfl <;> decide +kernel
theorem tabS_none {d : Int} (h : oneToFive d) : tabS d ⟨#[]⟩ = ⟨#[]⟩ := by
  rcases h with rfl | rfl | rfl | rfl | rfl <;> decide +kernel
theorem tabS_len {d : Int} (h : oneToFive d) : ∀ c ∈ signs8, (tabS d ⟨#[c]⟩).length ≤ 6 := by
  rcases h with rfl | rfl | rfl | rfl | rfl <;> decide +kernel
theorem tabS_ok {d : Int} (h : oneToFive d) : ∀ c ∈ signs8, tl (tabS d ⟨#[c]⟩) = [] ∨ (tl (tabS d ⟨#[c]⟩)).head? = some 38 ∧ ((tl (tabS d ⟨#[c]⟩)).drop 1).all safeC = true := by
  rcases h with rfl | rfl | rfl | rfl | rfl <;> decide +kernel
theorem flat_rep {f : Nat → List Nat} {c : Nat} (h : f c = [c]) : ∀ k : Nat, (List.replicate k c).flatMap f = List.replicate k c
  | 0 => rfl
  | k + 1 => by rw [List.replicate_succ, List.flatMap_cons, h, flat_rep h k]; rfl
theorem flat_all {f : Nat → List Nat} {l : List Nat} (h : ∀ x ∈ l, f x = [x]) : l.flatMap f = l := by
  induction l with
  | nil => rfl
  | cons c l ih => rw [List.flatMap_cons, h c (List.mem_cons_self ..), ih fun x hx => h x (List.mem_cons_of_mem _ hx)]; rfl
theorem ne_w {w : Str} : (w != Str.ofString "") = decide (tl w ≠ []) := by
  by_cases h : tl w = []
  · rw [bne, str_nil.mpr h]; simp [h]
  · have : (w == Str.ofString "") = false := by rw [Bool.eq_false_iff]; exact fun q => h (str_nil.mp q)
    rw [bne, this]; simp [h]
theorem escW_w {d : Int} {s w : Str} {w' : List Nat} (hw : tl w = 38 :: w') : tl (escW d s w) = [38, 97, 109, 112, 59] ++ w' := by
  unfold escW
  rw [if_pos (by rw [ne_w, hw]; simp)]
  have e0 : (Str.ofString "&amp;").cps.toList = [38, 97, 109, 112, 59] := by decide
  have e1 : w.cps.toList.drop 1 = w' := by rw [show w.cps.toList = 38 :: w' from hw]; rfl
  unfold tl
  rw [e1, Str.cps_append, Array.toList_append, e0]
theorem escW_s {d : Int} {s w : Str} (hw : tl w = []) : escW d s w = tabS d s := by
  unfold escW
  rw [if_neg (by rw [ne_w, hw]; simp)]
theorem esc_A {d : Int} (h : oneToFive d) {it : Itm} (hA : AIt it) (b : Nat) : (piece b it).flatMap (escF d) = piece b (escIt d it) ∧ AIt (escIt d it) := by
  obtain ⟨c, e, h8⟩ := hA.s
  obtain ⟨x, ex, h5⟩ := hA.l
  have el : tl it.l = [x] := by rw [ex]
  have es : tl it.s = [c] := by rw [e]
  have hbody : (bodyL it).flatMap (escF d) = bodyL (escIt d it) ∧ wOk (escIt d it).w := by
    rcases hA.w with hw | ⟨w', hw, hs⟩
    · have e1 : (escIt d it).w = tabS d ⟨#[c]⟩ := by
        show escW d it.s it.w = _
        rw [escW_s hw, e]
      rw [body_s hw, es, List.flatMap_cons, List.flatMap_nil, List.append_nil, escF_sign h c h8]
      constructor
      · unfold bodyL
        rw [e1]
        show _ = if tl (tabS d ⟨#[c]⟩) ≠ [] then _ else tl it.s
        rw [es]
      · rw [e1]
        rcases tabS_ok h c h8 with h0 | ⟨h0, h1⟩
        · exact .inl h0
        · right
          cases ht : tl (tabS d ⟨#[c]⟩) with
          | nil => rw [ht] at h0; simp at h0
          | cons y ys =>
            rw [ht] at h0 h1
            simp only [List.head?_cons, Option.some.injEq] at h0
            exact ⟨ys, by rw [h0], by simpa using h1⟩
    · have e1 : tl (escIt d it).w = [38, 97, 109, 112, 59] ++ w' := escW_w hw
      have hne : tl it.w ≠ [] := by rw [hw]; simp
      have hne2 : tl (escIt d it).w ≠ [] := by rw [e1]; simp
      rw [body_w hne, body_w hne2, hw, e1, List.flatMap_cons, escF_amp h, flat_all fun y hy => escF_safe h (List.all_eq_true.mp hs y hy)]
      refine ⟨rfl, .inr ⟨[97, 109, 112, 59] ++ w', by rw [e1]; rfl, ?_⟩⟩
      rw [List.all_append, hs]; decide
  constructor
  · unfold piece
    rw [List.flatMap_append, List.flatMap_append, flat_rep (escF_bs h), hbody.1, el, List.flatMap_cons, List.flatMap_nil, escF_letter h x h5]
    show _ = _ ++ (_ ++ tl it.l)
    rw [el]; rfl
  · exact ⟨hA.s, hA.l, hbody.2, hA.n⟩
theorem esc_B {d : Int} (h : oneToFive d) {it : Itm} (hB : BIt it) (b : Nat) : (piece b it).flatMap (escF d) = piece b (escIt d it) ∧ BIt (escIt d it) := by
  have hw : (escIt d it).w = ⟨#[]⟩ := by
    show escW d it.s it.w = _
    rw [escW_s (by rw [hB.w]), hB.s, tabS_none h]
  refine ⟨?_, hB.s, hB.l, hw⟩
  unfold piece
  rw [body_s (show tl it.w = [] by rw [hB.w]), body_s (show tl (escIt d it).w = [] by rw [hw])]
  show _ = _ ++ (tl it.s ++ tl it.l)
  rw [hB.s, hB.l]
  simp only [tl, List.append_nil]
  exact flat_rep (escF_bs h) _
theorem esc_C {d : Int} (h : oneToFive d) {it : Itm} (hC : CIt it) (b : Nat) : (piece b it).flatMap (escF d) = piece b (escIt d it) ∧ CIt (escIt d it) := by
  have hw : (escIt d it).w = ⟨#[]⟩ := by
    show escW d it.s it.w = _
    rw [escW_s (by rw [hC.w]), hC.s, tabS_none h]
  have h2 : CIt (escIt d it) := ⟨hC.n, hC.s, hC.l, hw⟩
  refine ⟨?_, h2⟩
  rw [piece_C hC, piece_C h2]
  obtain ⟨x, ex, h5⟩ := hC.l
  have el : tl it.l = [x] := by rw [ex]
  show _ = tl it.l
  rw [el, List.flatMap_cons, List.flatMap_nil, escF_letter h x h5]; rfl
theorem esc_tail {d : Int} (h : oneToFive d) (b : Nat) {its : List Itm} (ht : Tail its) : (textL b its).flatMap (escF d) = textL b (its.map (escIt d)) ∧ Tail (its.map (escIt d)) := by
  induction ht with
  | nil => exact ⟨rfl, .nil⟩
  | run hB =>
    obtain ⟨e, hB'⟩ := esc_B h hB b
    refine ⟨?_, .run hB'⟩
    rw [List.map_cons, List.map_nil, textL_cons, textL_cons, textL_nil, List.append_nil, List.append_nil, e]
  | cons hA _ ih =>
    obtain ⟨e, hA'⟩ := esc_A h hA b
    refine ⟨?_, .cons hA' ih.2⟩
    rw [List.map_cons, textL_cons, textL_cons, List.flatMap_append, e, ih.1]
theorem esc_start {d : Int} (h : oneToFive d) (b : Nat) {R : Nat} {it : Itm} (hs : Start R it) : (piece b it).flatMap (escF d) = piece b (escIt d it) ∧ Start R (escIt d it) := by
  rcases hs with hC | ⟨hA, hn⟩
  · obtain ⟨e, h'⟩ := esc_C h hC b; exact ⟨e, .inl h'⟩
  · obtain ⟨e, h'⟩ := esc_A h hA b; exact ⟨e, .inr ⟨h', hn⟩⟩
theorem esc_whole {d : Int} (h : oneToFive d) (b : Nat) {R : Nat} {t : List Itm} (hw : Whole R t) : escL (escOf d) (textL b t) = textL b (t.map (escIt d)) ∧ Whole R (t.map (escIt d)) := by
  obtain ⟨it, its, rfl, hs, ht⟩ := hw
  obtain ⟨e1, h1⟩ := esc_start h b hs
  obtain ⟨e2, h2⟩ := esc_tail h b ht
  refine ⟨?_, ⟨_, _, rfl, h1, h2⟩⟩
  rw [esc_flat h, List.map_cons, textL_cons, textL_cons, List.flatMap_append, e1, e2]
theorem no_feed : ((⟨#[]⟩ : Str) == Str.ofString "\n") = false := by decide +kernel
theorem letter_feed : ∀ x ∈ letters5, [x].count 10 = 0 := by decide
theorem countB {it : Itm} (h : BIt it) (b : Nat) : (piece b it).count 10 = 0 ∧ isFeed it = false := by
  constructor
  · unfold piece
    rw [body_s (show tl it.w = [] by rw [h.w]), h.s, h.l]
    simp [tl, List.count_replicate]
  · unfold isFeed
    rw [h.s, no_feed]
    rfl
theorem countC {it : Itm} (h : CIt it) (b : Nat) : (piece b it).count 10 = 0 ∧ isFeed it = false := by
  constructor
  · rw [piece_C h]
    obtain ⟨x, ex, h5⟩ := h.l
    rw [ex]
    exact letter_feed x h5
  · unfold isFeed
    rw [h.s, no_feed]
    rfl
theorem safe_feed {l : List Nat} (h : l.all safeC = true) : l.count 10 = 0 := by
  rw [List.count_eq_zero]
  intro hm
  have := List.all_eq_true.mp h _ hm
  exact absurd this (by decide)
theorem sign_feed : ∀ c ∈ signs8, [c].count 10 = if ((⟨#[c]⟩ : Str) == Str.ofString "\n") = true then 1 else 0 := by decide +kernel
theorem countA {it : Itm} (h : AIt it) (b : Nat) : (piece b it).count 10 = if isFeed it = true then 1 else 0 := by
  obtain ⟨c, e, h8⟩ := h.s
  obtain ⟨x, ex, h5⟩ := h.l
  have el : tl it.l = [x] := by rw [ex]
  have es : tl it.s = [c] := by rw [e]
  unfold piece
  rw [List.count_append, List.count_append, el, letter_feed x h5, List.count_replicate]
  rcases h.w with hw | ⟨w', hw, hs⟩
  · rw [body_s hw, es, sign_feed c h8]
    unfold isFeed
    rw [e, (str_nil (x := it.w)).mpr hw]
    simp
  · have hne : tl it.w ≠ [] := by rw [hw]; simp
    have hn2 : (it.w == Str.ofString "") = false := by
      rw [Bool.eq_false_iff]; intro q; exact hne (str_nil.mp q)
    rw [body_w hne, hw, List.count_cons, safe_feed hs]
    unfold isFeed
    rw [hn2]
    simp
theorem count_tail {b : Nat} {its : List Itm} (ht : Tail its) : (textL b its).count 10 = its.countP isFeed := by
  induction ht with
  | nil => rfl
  | run hB => rw [textL_cons, textL_nil, List.append_nil, (countB hB b).1, List.countP_cons, (countB hB b).2]; simp
  | cons hA _ ih => rw [textL_cons, List.count_append, ih, countA hA b, List.countP_cons]; lia
theorem count_whole {b R : Nat} {t : List Itm} (h : Whole R t) : (textL b t).count 10 = t.countP isFeed := by
  obtain ⟨it, its, rfl, hs, ht⟩ := h
  rw [textL_cons, List.count_append, count_tail ht, List.countP_cons]
  rcases hs with hC | ⟨hA, _⟩
  · rw [(countC hC b).1, (countC hC b).2]; simp
  · rw [countA hA b]; lia
theorem piece_len {b W : Nat} {it : Itm} (h : bnd W it) : (piece b it).length ≤ W + 202 := by
  obtain ⟨h0, h1, h2, h3, h4⟩ := h
  unfold piece
  have : it.n.toNat / b ≤ it.n.toNat := Nat.div_le_self _ _
  have hb : (bodyL it).length ≤ W + 1 := by
    unfold bodyL
    split
    · show (it.w.cps.toList).length ≤ _; simp only [Array.length_toList]; have : it.w.cps.size ≤ W := h2; lia
    · show (it.s.cps.toList).length ≤ _; simp only [Array.length_toList]; have : it.s.cps.size ≤ 1 := h3; lia
  have hl : (tl it.l).length ≤ 1 := by show (it.l.cps.toList).length ≤ _; simp only [Array.length_toList]; exact h4
  simp only [List.length_append, List.length_replicate]
  lia
theorem text_len {b W : Nat} : ∀ t : List Itm, (∀ it ∈ t, bnd W it) → (textL b t).length ≤ t.length * (W + 202)
  | [], _ => by simp [textL]
  | it :: t, h => by
    rw [textL_cons, List.length_append, List.length_cons, Nat.succ_mul]
    have := piece_len (b := b) (h it (List.mem_cons_self ..))
    have := text_len (b := b) t fun x hx => h x (List.mem_cons_of_mem _ hx)
    lia
theorem Inv.short {R W b : Nat} {ts : List (List Itm)} (h : Inv R W ts) (hW : W ≤ 100) : ∀ t ∈ ts, (textL b t).length ≤ 40000 := by
  intro t ht
  have h1 := text_len (b := b) t (h.bnd t ht)
  have h2 := h.len t ht
  have h3 : t.length * (W + 202) ≤ 11 * 302 := Nat.mul_le_mul h2 (by lia)
  lia
theorem tail_shape {its : List Itm} (h : Tail its) : ∀ it ∈ its, (∃ c, it.s = ⟨#[c]⟩ ∧ c ∈ signs8) ∨ it.s = ⟨#[]⟩ := by
  induction h with
  | nil => intro it h1; cases h1
  | run hB => intro it h1; rw [List.mem_singleton] at h1; exact .inr (h1 ▸ hB.s)
  | cons hA _ ih =>
    intro it h1
    rcases List.mem_cons.mp h1 with rfl | h1
    · exact .inl hA.s
    · exact ih it h1
theorem esc_inv {d : Int} (h : oneToFive d) {R W : Nat} (hW : 6 ≤ W) {ts : List (List Itm)} (hi : Inv R W ts) : Inv R (W + 4) (ts.map fun t => t.map (escIt d)) := by
  refine ⟨fun t ht => ?_, fun t ht => ?_, fun t ht => ?_, ?_⟩
  · obtain ⟨t0, h0, rfl⟩ := List.mem_map.mp ht
    exact (esc_whole h 1 (hi.whole t0 h0)).2
  · obtain ⟨t0, h0, rfl⟩ := List.mem_map.mp ht
    rw [List.length_map]; exact hi.len t0 h0
  · obtain ⟨t0, h0, rfl⟩ := List.mem_map.mp ht
    intro it hit
    obtain ⟨i0, h1, rfl⟩ := List.mem_map.mp hit
    obtain ⟨a, b, c, e, f⟩ := hi.bnd t0 h0 i0 h1
    refine ⟨a, b, ?_, e, f⟩
    show (escW d i0.s i0.w).length ≤ W + 4
    -- by the shape of the item
    have shape : (∃ c, i0.s = ⟨#[c]⟩ ∧ c ∈ signs8) ∨ i0.s = ⟨#[]⟩ := by
      obtain ⟨it, its, rfl, hs, htl⟩ := hi.whole t0 h0
      rcases List.mem_cons.mp h1 with rfl | h1
      · rcases hs with hC | ⟨hA, _⟩
        · exact .inr hC.s
        · exact .inl hA.s
      · exact tail_shape htl _ h1
    unfold escW
    split
    · have e0 : (Str.ofString "&amp;").cps.size = 5 := by decide
      rename_i hw
      rw [ne_w] at hw
      simp only [ne_eq, decide_eq_true_eq] at hw
      show (Str.ofString "&amp;" ++ _).cps.size ≤ _
      rw [Str.cps_append, Array.size_append, e0]
      have c2 : i0.w.cps.size ≤ W := c
      have c3 : i0.w.cps.size ≠ 0 := by
        intro q; apply hw; show i0.w.cps.toList = []; exact List.length_eq_zero_iff.mp (by simpa using q)
      simp only [List.size_toArray, List.length_drop, Array.length_toList]
      lia
    · rcases shape with ⟨c, e, h8⟩ | e
      · rw [e]; exact Nat.le_trans (tabS_len h c h8) (by lia)
      · rw [e, tabS_none h]; exact Nat.zero_le _
  · rw [List.map_map]
    have : ((fun t => 1 + t.countP hasS) ∘ fun t => List.map (escIt d) t) = fun t => 1 + t.countP hasS := by
      funext t
      show 1 + (t.map (escIt d)).countP hasS = _
      rw [List.countP_map]; rfl
    rw [this]; exact hi.cnt
theorem outs_read {d : Int} (hd : d = 0 ∨ d = 6) {R W r : Nat} (hr : r < R) : ∀ ts : List (List Itm), (∀ t ∈ ts, Whole R t) → (∀ t ∈ ts, (textL (2 ^ r) t).length ≤ 40000) →
    Outs d (ts.map (textL (2 ^ r))) ((ts.flatMap fun t => cutL (2 ^ r) (decide (d = 6)) [] t).map (textL (2 ^ (r + 1)))) (feedL ts : Int)
  | [], _, _ => .nil
  | t :: ts, hw, hl => by
    have h1 := hw t (List.mem_cons_self ..)
    have ih := outs_read hd hr (W := W) ts (fun x hx => hw x (List.mem_cons_of_mem _ hx)) (fun x hx => hl x (List.mem_cons_of_mem _ hx))
    have hL := read_text h1 hr (decide (d = 6))
    have ea : aheadL (decide (d = 6)) = ahead d := by
      rcases hd with rfl | rfl <;> rfl
    rw [ea] at hL
    have := Outs.read hd (hl t (List.mem_cons_self ..)) hL ih
    rw [count_whole h1] at this
    rw [List.map_cons, List.flatMap_cons, List.map_append]
    have e : ((feedL (t :: ts) : Nat) : Int) = (feedL ts : Int) + (t.countP isFeed : Int) := by
      simp only [feedL, List.map_cons, List.sum_cons]; lia
    rw [e]
    exact this
theorem outs_esc {d : Int} (hd : oneToFive d) {R b : Nat} : ∀ ts : List (List Itm), (∀ t ∈ ts, Whole R t) → (∀ t ∈ ts, (textL b t).length ≤ 40000) →
    Outs d (ts.map (textL b)) ((ts.map fun t => t.map (escIt d)).map (textL b)) 0
  | [], _, _ => .nil
  | t :: ts, hw, hl => by
    have ih := outs_esc hd (b := b) ts (fun x hx => hw x (List.mem_cons_of_mem _ hx)) (fun x hx => hl x (List.mem_cons_of_mem _ hx))
    have := Outs.esc (d := d) (by rcases hd with rfl | rfl | rfl | rfl | rfl <;> decide) (by rcases hd with rfl | rfl | rfl | rfl | rfl <;> decide) (hl t (List.mem_cons_self ..)) ih
    rw [(esc_whole hd b (hw t (List.mem_cons_self ..))).1] at this
    exact this
noncomputable def isRead (d : Int) : Bool := decide (d = 0) || decide (d = 6)
/-- both sides by turns -/
theorem steps_due {R : Nat} (hR : R ≤ 12) : ∀ (ds : List Int) (ts : List (List Itm)) (r : Nat) (f : Int) (W : Nat), (∀ d ∈ ds, 0 ≤ d ∧ d < 7) → Inv R W ts → r + ds.countP isRead = R → 6 ≤ W → W + 4 * ds.length ≤ 100 →
    ∃ fin ff, Due ds ts r f fin R ff ∧ Steps ds (ts.map (textL (2 ^ r))) f (fin.map (textL (2 ^ R))) ff ∧ fin.length ≤ 12 ∧ Fine fin ∧ ∀ t ∈ fin, Whole R t
  | [], ts, r, f, W, _, hi, hr, _, hW => by
    simp only [List.countP_nil, Nat.add_zero] at hr
    subst hr
    exact ⟨ts, f, .nil (hi.fine (by lia)) hR, .nil, hi.num, hi.fine (by lia), hi.whole⟩
  | d :: ds, ts, r, f, W, hd, hi, hr, h6, hW => by
    have hd1 := hd d (List.mem_cons_self ..)
    have hd2 : ∀ x ∈ ds, 0 ≤ x ∧ x < 7 := fun x hx => hd x (List.mem_cons_of_mem _ hx)
    simp only [List.length_cons] at hW
    by_cases h : d = 0 ∨ d = 6
    · have hp : isRead d = true := by rcases h with rfl | rfl <;> rfl
      rw [List.countP_cons_of_pos hp] at hr
      have hrR : r < R := by lia
      have hi2 := read_inv hi hrR (decide (d = 6))
      obtain ⟨fin, ff, hD, hS, hn, hf⟩ := steps_due hR ds _ (r + 1) (f + (feedL ts : Int)) W hd2 hi2 (by lia) h6 (by lia)
      refine ⟨fin, ff, .read h (hi.fine (by lia)) (by lia) hD, .cons (outs_read h hrR (W := W) ts hi.whole (hi.short (by lia))) ?_ hS, hn, hf⟩
      rw [List.length_map, List.length_map]
      have := hi.num
      have := hi2.num
      lia
    · have h5 : oneToFive d := by unfold oneToFive; lia
      have hp : ¬ isRead d = true := by simp only [isRead, Bool.or_eq_true, decide_eq_true_eq]; exact h
      rw [List.countP_cons_of_neg hp] at hr
      have hi2 := esc_inv h5 h6 hi
      obtain ⟨fin, ff, hD, hS, hn, hf⟩ := steps_due hR ds _ r f (W + 4) hd2 hi2 hr (by lia) (by lia)
      refine ⟨fin, ff, .esc h5 (hi.fine (by lia)) (by lia) hD, .cons (outs_esc h5 ts hi.whole (hi.short (by lia))) ?_ (by rw [Int.add_zero]; exact hS), hn, hf⟩
      rw [List.length_map, List.length_map, List.length_map]
      have := hi.num
      lia
end Mine
end
section
open PySem PySem.W PyProof.Rows PySem.Calls
namespace Mine
set_option linter.unusedVariables false
theorem tl_app (x y : Str) : tl (x ++ y) = tl x ++ tl y := by
  unfold tl
  rw [Str.cps_append, Array.toList_append]
theorem tl_pieceS {b : Nat} {it : Itm} (h : 0 ≤ it.n) : tl (pieceS b it) = piece b it := by
  unfold pieceS piece
  rw [tl_app, tl_app, div_nat h, List.append_assoc]
  have e : tl (if (it.w != Str.ofString "") = true then it.w else it.s) = bodyL it := by
    rw [ne_w]
    unfold bodyL
    by_cases hw : tl it.w = []
    · rw [if_neg (by simp [hw]), if_neg (by simp [hw])]
    · rw [if_pos (by simp [hw]), if_pos hw]
  rw [e]
  congr 1
theorem tl_join : ∀ ys : List Str, tl (Txt.join (Str.ofString "") ys) = ys.flatMap tl := by
  intro ys
  show tl (Builtin.Str.glued (Str.ofString "") ys) = _
  rw [StrLaws.glued_eq_join]
  induction ys with
  | nil => rfl
  | cons y ys ih =>
    cases ys with
    | nil => rw [Str.join]; simp
    | cons z r =>
      rw [show Str.join (Str.ofString "") (y :: z :: r) = y ++ Str.ofString "" ++ Str.join (Str.ofString "") (z :: r) from rfl, tl_app, tl_app, ih, List.flatMap_cons]
      have : tl (Str.ofString "") = [] := by decide
      rw [this, List.append_nil]
      simp
theorem tl_textS {b : Nat} {t : List Itm} (h : ∀ it ∈ t, 0 ≤ it.n) : tl (textS b t) = textL b t := by
  unfold textS
  rw [tl_join]
  unfold textL
  induction t with
  | nil => rfl
  | cons it t ih =>
    rw [List.map_cons, List.flatMap_cons, List.flatMap_cons, tl_pieceS (h it (List.mem_cons_self ..)), ih fun x hx => h x (List.mem_cons_of_mem _ hx)]
theorem small_signs : ∀ c ∈ signs8, c < 1114112 := by decide
theorem small_letters : ∀ c ∈ letters5, c < 1114112 := by decide
theorem small_piece {b : Nat} {it : Itm} (h : AIt it ∨ BIt it ∨ CIt it) : ∀ c ∈ piece b it, c < 1114112 := by
  have hl : ∀ c ∈ tl it.l, c < 1114112 := by
    rcases h with h | h | h
    · obtain ⟨x, ex, h5⟩ := h.l
      rw [ex]; intro c hc; rw [show tl ⟨#[x]⟩ = [x] from rfl, List.mem_singleton] at hc; exact hc ▸ small_letters x h5
    · rw [h.l]; intro c hc; exact absurd hc (by simp [tl])
    · obtain ⟨x, ex, h5⟩ := h.l
      rw [ex]; intro c hc; rw [show tl ⟨#[x]⟩ = [x] from rfl, List.mem_singleton] at hc; exact hc ▸ small_letters x h5
  have hs : ∀ c ∈ tl it.s, c < 1114112 := by
    rcases h with h | h | h
    · obtain ⟨x, ex, h5⟩ := h.s
      rw [ex]; intro c hc; rw [show tl ⟨#[x]⟩ = [x] from rfl, List.mem_singleton] at hc; exact hc ▸ small_signs x h5
    · rw [h.s]; intro c hc; exact absurd hc (by simp [tl])
    · rw [h.s]; intro c hc; exact absurd hc (by simp [tl])
  have hw : ∀ c ∈ tl it.w, c < 1114112 := by
    rcases h with h | h | h
    · rcases h.w with hw | ⟨w', hw, hsafe⟩
      · rw [hw]; intro c hc; cases hc
      · rw [hw]; intro c hc
        rcases List.mem_cons.mp hc with rfl | hc
        · decide
        · have := List.all_eq_true.mp hsafe c hc
          simp only [safeC, Bool.and_eq_true, decide_eq_true_eq] at this
          exact this.1
    · rw [h.w]; intro c hc; exact absurd hc (by simp [tl])
    · rw [h.w]; intro c hc; exact absurd hc (by simp [tl])
  intro c hc
  unfold piece at hc
  rcases List.mem_append.mp hc with hc | hc
  · rw [List.mem_replicate] at hc; rw [hc.2]; decide
  · rcases List.mem_append.mp hc with hc | hc
    · unfold bodyL at hc
      split at hc
      · exact hw c hc
      · exact hs c hc
    · exact hl c hc
theorem tail_kinds {its : List Itm} (h : Tail its) : ∀ it ∈ its, AIt it ∨ BIt it ∨ CIt it := by
  induction h with
  | nil => intro it h1; cases h1
  | run hB => intro it h1; rw [List.mem_singleton] at h1; exact .inr (.inl (h1 ▸ hB))
  | cons hA _ ih =>
    intro it h1
    rcases List.mem_cons.mp h1 with rfl | h1
    · exact .inl hA
    · exact ih it h1
theorem small_text {b R : Nat} {t : List Itm} (h : Whole R t) : ∀ c ∈ textL b t, c < 1114112 := by
  obtain ⟨it, its, rfl, hs, ht⟩ := h
  intro c hc
  unfold textL at hc
  obtain ⟨x, hx, hc2⟩ := List.mem_flatMap.mp hc
  clear hc
  rcases List.mem_cons.mp hx with rfl | hx
  · refine small_piece ?_ c hc2
    rcases hs with hC | ⟨hA, _⟩
    · exact .inr (.inr hC)
    · exact .inl hA
  · exact small_piece (tail_kinds ht x hx) c hc2
noncomputable def headIt (R : Nat) (k : Int) : Itm := ⟨((2 ^ R - 1 : Nat) : Int), Txt.item (Str.ofString "\" \n") k, Str.ofString "o", Str.ofString ""⟩
theorem item_sign : ∀ k : Int, 0 ≤ k → k < 8 → ∃ c, Txt.item (Str.ofString " \t\n\x0d\"&<>") k = ⟨#[c]⟩ ∧ c ∈ signs8 := by
  intro k h0 h1
  have : k = 0 ∨ k = 1 ∨ k = 2 ∨ k = 3 ∨ k = 4 ∨ k = 5 ∨ k = 6 ∨ k = 7 := by lia
  rcases this with rfl | rfl | rfl | rfl | rfl | rfl | rfl | rfl <;> exact ⟨_, rfl, by decide +kernel⟩
theorem item_letter : ∀ k : Int, 0 ≤ k → k < 4 → ∃ c, Txt.item (Str.ofString "a#;'") k = ⟨#[c]⟩ ∧ c ∈ letters5 := by
  intro k h0 h1
  have : k = 0 ∨ k = 1 ∨ k = 2 ∨ k = 3 := by lia
  rcases this with rfl | rfl | rfl | rfl <;> exact ⟨_, rfl, by decide +kernel⟩
theorem item_head : ∀ k : Int, 0 ≤ k → k < 3 → ∃ c, Txt.item (Str.ofString "\" \n") k = ⟨#[c]⟩ ∧ c ∈ signs8 := by
  intro k h0 h1
  have : k = 0 ∨ k = 1 ∨ k = 2 := by lia
  rcases this with rfl | rfl | rfl <;> exact ⟨_, rfl, by decide +kernel⟩
theorem fmod_range (n : Int) {b : Int} (hb : 0 < b) : 0 ≤ n.fmod b ∧ n.fmod b < b := by
  rw [Int.fmod_eq_emod_of_nonneg _ (Int.le_of_lt hb)]
  exact ⟨Int.emod_nonneg _ (by lia), Int.emod_lt_of_pos _ hb⟩
theorem item_A (n : Int) : AIt (itemOf n) := by
  refine ⟨?_, ?_, .inl (by show tl (Str.ofString "") = []; decide), (fmod_range n (by decide)).1⟩
  · have := fmod_range (n.fdiv 16) (b := 8) (by decide)
    exact item_sign _ this.1 this.2
  · have := fmod_range (n.fdiv 128) (b := 4) (by decide)
    exact item_letter _ this.1 this.2
theorem head_A {R : Nat} {k : Int} (h0 : 0 ≤ k) (h1 : k < 3) : AIt (headIt R k) := by
  refine ⟨item_head k h0 h1, ⟨111, (show Str.ofString "o" = ⟨#[111]⟩ by decide +kernel), by decide⟩, .inl (by show tl (Str.ofString "") = []; decide), Int.natCast_nonneg _⟩
theorem A_bnd {it : Itm} (h : AIt it) (hn : it.n ≤ 200) (hw : it.w = Str.ofString "") : bnd 6 it := by
  refine ⟨h.n, hn, by rw [hw]; decide, ?_, ?_⟩
  · obtain ⟨c, e, _⟩ := h.s; rw [e]; exact Nat.le_refl _
  · obtain ⟨c, e, _⟩ := h.l; rw [e]; exact Nat.le_refl _
noncomputable def itemsL (R : Nat) (k : Int) (ns : List Int) : List Itm := headIt R k :: ([17, 197, 299, 384, 183, 344] ++ ns).map itemOf
theorem items_inv {R : Nat} {k : Int} {ns : List Int} (hR : R ≤ 7) (h0 : 0 ≤ k) (h1 : k < 3) (hl : ns.length ≤ 4) : Inv R 6 [itemsL R k ns] := by
  have hp : 2 ^ R ≤ 2 ^ 7 := Nat.pow_le_pow_right (by decide) hR
  have hb : ∀ it ∈ itemsL R k ns, bnd 6 it := by
    intro it hi
    rcases List.mem_cons.mp hi with rfl | hi
    · refine A_bnd (head_A h0 h1) ?_ rfl
      show ((2 ^ R - 1 : Nat) : Int) ≤ 200
      lia
    · obtain ⟨n, _, rfl⟩ := List.mem_map.mp hi
      refine A_bnd (item_A n) ?_ rfl
      have := fmod_range n (b := 16) (by decide)
      show n.fmod 16 ≤ 200
      lia
  have hlen : (itemsL R k ns).length ≤ 11 := by
    unfold itemsL
    simp only [List.length_cons, List.length_map, List.length_append, List.length_nil]
    lia
  refine ⟨fun t ht => ?_, fun t ht => ?_, fun t ht => ?_, ?_⟩
  · rw [List.mem_singleton] at ht
    subst ht
    refine ⟨_, _, rfl, .inr ⟨head_A h0 h1, rfl⟩, ?_⟩
    have : ∀ l : List Int, Tail (l.map itemOf) := by
      intro l
      induction l with
      | nil => exact .nil
      | cons n l ih => exact .cons (item_A n) ih
    exact this _
  · rw [List.mem_singleton] at ht; exact ht ▸ hlen
  · rw [List.mem_singleton] at ht; exact ht ▸ hb
  · have := List.countP_le_length (p := hasS) (l := itemsL R k ns)
    simp only [List.map_cons, List.map_nil, List.sum_cons, List.sum_nil]
    lia
noncomputable def deedsL (ns : List Int) : List Int := (ns.take 2).map (fun n => n.fmod 7) ++ [0, 6, 4, 0, 5] ++ (ns.drop 2).map (fun n => n.fmod 7)
theorem deeds_range {ns : List Int} : ∀ d ∈ deedsL ns, 0 ≤ d ∧ d < 7 := by
  intro d hd
  unfold deedsL at hd
  rcases List.mem_append.mp hd with hd | hd
  · rcases List.mem_append.mp hd with hd | hd
    · obtain ⟨n, _, rfl⟩ := List.mem_map.mp hd
      exact fmod_range n (by decide)
    · simp only [List.mem_cons, List.not_mem_nil, or_false] at hd
      lia
  · obtain ⟨n, _, rfl⟩ := List.mem_map.mp hd
    exact fmod_range n (by decide)
theorem deeds_len {ns : List Int} (hl : ns.length ≤ 4) : (deedsL ns).length ≤ 9 ∧ (deedsL ns).countP isRead ≤ 7 := by
  unfold deedsL
  have h1 := List.countP_le_length (p := isRead) (l := (ns.take 2).map (fun n => n.fmod 7))
  have h2 := List.countP_le_length (p := isRead) (l := (ns.drop 2).map (fun n => n.fmod 7))
  have h3 : ([0, 6, 4, 0, 5] : List Int).countP isRead = 3 := by decide
  simp only [List.length_map, List.length_take, List.length_drop] at h1 h2
  rw [List.countP_append, List.countP_append, h3]
  simp only [List.length_append, List.length_map, List.length_take, List.length_drop, List.length_cons, List.length_nil]
  lia
theorem law_plain {ns : List Int} {k : Int} (h0 : 0 ≤ k) (h1 : k < 3) (hl : ns.length ≤ 4) : ∃ fin ff, Due (deedsL ns) [itemsL ((deedsL ns).countP isRead) k ns] 0 1 fin ((deedsL ns).countP isRead) ff ∧
    Steps (deedsL ns) [textL 1 (itemsL ((deedsL ns).countP isRead) k ns)] 1 (fin.map (textL (2 ^ (deedsL ns).countP isRead))) ff ∧ fin.length ≤ 12 ∧ Fine fin ∧ ∀ t ∈ fin, Whole ((deedsL ns).countP isRead) t := by
  have hd := deeds_len hl
  have := steps_due (R := (deedsL ns).countP isRead) (by lia) (deedsL ns) [itemsL ((deedsL ns).countP isRead) k ns] 0 1 6 deeds_range (items_inv hd.2 h0 h1 hl) (by lia) (Nat.le_refl _) (by lia)
  simpa using this
end Mine
end
section
open PySem PySem.W PyProof.Rows PySem.Calls
namespace Mine
theorem offLawL68 : True := by
  w_top off
  trivial
set_option maxRecDepth 100000
set_option maxHeartbeats 8000000
set_option linter.unusedVariables false


section
variable {w : World} {A : Around} {Q E : Value → Shared → Prop} {s : Shared} {h₀ : Heap} {L I D a b : Addr} {m : Str → Option Value} {news : List (Addr × Obj)} {env : Env}
theorem addLL {xs ys : List Value} {n1 n2 : Nat} (F : Fr h₀ L s.heap m) (N : News h₀ L s.heap news) (ha : (a, listOf xs.toArray n1) ∈ news) (hb : (b, listOf ys.toArray n2) ∈ news) (hz : xs.length + ys.length ≤ 16777216)
    (h : ∀ D h', Fr h₀ L h' m → News h₀ L h' ((D, listOf (xs ++ ys).toArray 0) :: news) → (∀ p ∈ news, @LT.lt Nat _ p.1 D) → Q (.ref D) { s with heap := h' }) : wpAny (model prog w) A (binaryOp .Add (.ref a) (.ref b)) Q E s :=
  add_lists F N ⟨_, (N _ ha).1, rfl, _, rfl⟩ ⟨_, (N _ hb).1, rfl, _, rfl⟩ (fun h' F' N' => h _ h' F' N' fun p hp => Heap.lt_size (N p hp).1) (by rw [sizeLine_eq]; exact hz)
noncomputable abbrev modS : Scope := { kind := .function, names := [(Str.ofString ".0", .local), (Str.ofString "n", .local)], isGenerator := false, isCoroutine := false }
theorem mod_loop {C q : Addr} {us : List Value} {e : Nat} {R : Result → Shared → Prop} {p1 p2 p3 pt pos : Pos} {kk : Nat} {iter : Expr}
   (X : (hd.heap_39 w.params).In h₀) (hh : A.handled = none) (hq : (q, listOf us.toArray e) ∈ news) 
   (hI : ∀ p ∈ news, p.1 ≠ I) (hC : ∀ p ∈ news, p.1 ≠ C) (hD : ∀ p ∈ news, p.1 ≠ D) (hIC : @Ne Nat I C) (hID : @Ne Nat I D) (hCD : @Ne Nat C D) :
   ∀ (ns : List Int) (vs : List Value) (i : Nat) (ys : List Value) (zs : List Int) (h : Heap) (tk : Nat) (oI oC : Obj) (mm : Str → Option Value), us.drop i = vs → IntsAre vs ns → IntsAre ys zs →
     Fr h₀ L h m → News h₀ L h ((I, oI) :: (C, oC) :: (D, LCg.lst ys) :: news) → LiIs oI q i → LCg.NsObj oC mm → ys.length + ns.length ≤ 100000 →
     (∀ h' tk' oC' mm' ys', Fr h₀ L h' m → News h₀ L h' ((C, oC') :: (D, LCg.lst ys') :: news) → LCg.NsObj oC' mm' → IntsAre ys' (zs ++ ns.map fun n => n.fmod 7) → R (.ok .next) { s with heap := h', toks := tk' }) →
     codeAny (model prog w) A (.compLoop (.ListComp (.BinOp (.Name (Str.ofString "n") p1) .Mod (.Constant (.int 7) kk p2) p3) [⟨.Name (Str.ofString "n") pt, iter, [], 0⟩] modS pos) 0 (.ref I) (.ref D) (compEnvC modS [] C env)) R { s with heap := h, toks := tk } := by
  intro ns
  induction ns with
  | nil =>
    intro vs i ys zs h tk oI oC mm hvs hits hzs F N li hns hyl fin
    cases hits
    refine turn1 ?_
    refine c_done hh F N (List.forall_mem_cons.mpr ⟨Ne.symm hIC, List.forall_mem_cons.mpr ⟨Ne.symm hID, hI⟩⟩) li (List.mem_cons_of_mem _ (List.mem_cons_of_mem _ hq)) (drop_nil hvs) ?_
    intro h' F' N'
    exact fin _ _ _ _ _ F' N' hns (by simpa using hzs)
  | cons n ns ih =>
    intro vs i ys zs h tk oI oC mm hvs hits hzs F N li hns hyl fin
    cases hits with
    | @cons _ tn vs _ hits =>
    obtain ⟨h1, h2⟩ := drop_cons hvs
    simp only [List.length_cons] at hyl
    refine turn1 ?_
    refine c_name F N (by simpa using hIC) (List.forall_mem_cons.mpr ⟨Ne.symm hID, hI⟩) (List.forall_mem_cons.mpr ⟨Ne.symm hCD, hC⟩) li hns (List.mem_cons_of_mem _ hq) h1 rfl rfl ?_
    intro h' tk oI' oC' m2 F' N' li' hns' e1 e2
    have next : ∀ h'' tk'' t', Fr h₀ L h'' m → News h₀ L h'' ((I, oI') :: (C, oC') :: (D, listOf (ys ++ [Value.int (n.fmod 7) t']).toArray (ys.length + 1)) :: news) →
       codeAny (model prog w) A (.compLoop (.ListComp (.BinOp (.Name (Str.ofString "n") p1) .Mod (.Constant (.int 7) kk p2) p3) [⟨.Name (Str.ofString "n") pt, iter, [], 0⟩] modS pos) 0 (.ref I) (.ref D) (compEnvC modS [] C env)) R { s with heap := h'', toks := tk'' } := by
      intro h'' tk'' t' F'' N''
      rw [lst_eq] at N''
      exact ih vs (i + 1) _ (zs ++ [n.fmod 7]) h'' tk'' oI' oC' m2 h2 hits (hzs.append (.cons _ _ .nil)) F'' N'' li' hns' (by simp only [List.length_append, List.length_cons, List.length_nil]; ktr_room)
        (fun h3 tk3 oC3 m3 ys3 F3 N3 ns3 st3 => fin h3 tk3 oC3 m3 ys3 F3 N3 ns3 (by simpa using st3))
    refine wpAny_tests_nil ?_
    simp only [if_true]
    k_steps
    rename Fr _ _ _ _ => FF
    rename News _ _ _ _ => NN
    exact next _ _ _ FF NN
/-- what a block over ints hands on -/
theorem mod_comp {q : Addr} {us : List Value} {ns : List Int} {e : Nat} {p1 p2 p3 pt pos : Pos} {kk : Nat} {iter : Expr}
   (X : (hd.heap_39 w.params).In h₀) (hh : A.handled = none) (F : Fr h₀ L s.heap m) (N : News h₀ L s.heap news) (hq : (q, listOf us.toArray e) ∈ news) (hi : IntsAre us ns) (hl : ns.length ≤ 100000)
   (ret : ∀ D ys h' tk', Fr h₀ L h' m → News h₀ L h' ((D, LCg.lst ys) :: news) → IntsAre ys (ns.map fun n => n.fmod 7) → (∀ p ∈ news, @LT.lt Nat _ p.1 D) → Q (.ref D) { s with heap := h', toks := tk' }) :
   CSrc w A h₀ L m (.ListComp (.BinOp (.Name (Str.ofString "n") p1) .Mod (.Constant (.int 7) kk p2) p3) [⟨.Name (Str.ofString "n") pt, iter, [], 0⟩] modS pos) modS [] env Q (.ref q) s := by
  refine c_src F N hq ?_
  intro I C D h tk oI oC mm F' N' li hns hlt hID hDC
  have hI := ne_of_all hlt (Nat.le_refl I)
  have hD := ne_of_all (x := D) hlt (Nat.le_of_lt hID)
  have hC := ne_of_all (x := C) hlt (Nat.le_of_lt (Nat.lt_trans hID hDC))
  refine mod_loop (q := q) (us := us) (e := e) X hh hq hI hC hD ((by k_ne)) ((by k_ne)) ((by k_ne)) ns us 0 [] [] h tk oI oC mm rfl hi .nil F' N' li hns (by simpa using hl) ?_
  intro h2 tk2 oC2 mm2 ys2 F2 N2 ns2 st2
  refine c_fin F2 N2 (List.forall_mem_cons.mpr ⟨(by k_ne), hC⟩) ns2 ?_
  intro h3 F3 N3
  exact ret _ _ _ _ F3 N3 (by simpa using st2) (fun p hp => Nat.lt_trans (hlt p hp) hID)
theorem isRead_any {n : Int} : isRead n = [(0 : Int), 6].any (· == n) := by
  by_cases h0 : n = 0
  · subst h0; rfl
  · by_cases h6 : n = 6
    · subst h6; rfl
    · rw [in_no h0 h6]; simp [isRead, h0, h6]
noncomputable abbrev fltS : Scope := { kind := .function, names := [(Str.ofString ".0", .local), (Str.ofString "deed", .local)], isGenerator := false, isCoroutine := false }
theorem flt_loop {C q : Addr} {us : List Value} {e : Nat} {R : Result → Shared → Prop} {p1 p2 p3 p4 p5 p6 pt pos : Pos} {k1 k2 k3 : Nat} {iter : Expr}
   (X : (hd.heap_39 w.params).In h₀) (hh : A.handled = none) (hq : (q, listOf us.toArray e) ∈ news) 
   (hI : ∀ p ∈ news, p.1 ≠ I) (hC : ∀ p ∈ news, p.1 ≠ C) (hD : ∀ p ∈ news, p.1 ≠ D) (hIC : @Ne Nat I C) (hID : @Ne Nat I D) (hCD : @Ne Nat C D) :
   ∀ (ns : List Int) (vs : List Value) (i : Nat) (ys : List Value) (h : Heap) (tk : Nat) (oI oC : Obj) (mm : Str → Option Value), us.drop i = vs → IntsAre vs ns → (∀ n ∈ ns, 0 ≤ n ∧ n < 7) →
     Fr h₀ L h m → News h₀ L h ((I, oI) :: (C, oC) :: (D, LCg.lst ys) :: news) → LiIs oI q i → LCg.NsObj oC mm → ys.length + ns.length ≤ 100000 →
     (∀ h' tk' oC' mm' ys', Fr h₀ L h' m → News h₀ L h' ((C, oC') :: (D, LCg.lst ys') :: news) → LCg.NsObj oC' mm' → ys'.length = ys.length + ns.countP isRead → R (.ok .next) { s with heap := h', toks := tk' }) →
     codeAny (model prog w) A (.compLoop (.ListComp (.Name (Str.ofString "deed") p1) [⟨.Name (Str.ofString "deed") pt, iter, [.Compare (.Name (Str.ofString "deed") p2) [.In] [.Tuple [.Constant (.int 0) k1 p3, .Constant (.int 6) k2 p4] k3 p5] p6], 0⟩] fltS pos) 0 (.ref I) (.ref D) (compEnvC fltS [] C env)) R { s with heap := h, toks := tk } := by
  intro ns
  induction ns with
  | nil =>
    intro vs i ys h tk oI oC mm hvs hits hrg F N li hns hyl fin
    cases hits
    refine turn1 ?_
    refine c_done hh F N (List.forall_mem_cons.mpr ⟨Ne.symm hIC, List.forall_mem_cons.mpr ⟨Ne.symm hID, hI⟩⟩) li (List.mem_cons_of_mem _ (List.mem_cons_of_mem _ hq)) (drop_nil hvs) ?_
    intro h' F' N'
    exact fin _ _ _ _ _ F' N' hns (by simp)
  | cons n ns ih =>
    intro vs i ys h tk oI oC mm hvs hits hrg F N li hns hyl fin
    cases hits with
    | @cons _ tn vs _ hits =>
    obtain ⟨h1, h2⟩ := drop_cons hvs
    simp only [List.length_cons] at hyl
    refine turn1 ?_
    refine c_name F N (by simpa using hIC) (List.forall_mem_cons.mpr ⟨Ne.symm hID, hI⟩) (List.forall_mem_cons.mpr ⟨Ne.symm hCD, hC⟩) li hns (List.mem_cons_of_mem _ hq) h1 rfl rfl ?_
    intro h' tk oI' oC' m2 F' N' li' hns' e1 e2
    have yes : ∀ h'' tk'' v, isRead n = true → Fr h₀ L h'' m → News h₀ L h'' ((I, oI') :: (C, oC') :: (D, listOf (ys ++ [v]).toArray (ys.length + 1)) :: news) →
       codeAny (model prog w) A (.compLoop (.ListComp (.Name (Str.ofString "deed") p1) [⟨.Name (Str.ofString "deed") pt, iter, [.Compare (.Name (Str.ofString "deed") p2) [.In] [.Tuple [.Constant (.int 0) k1 p3, .Constant (.int 6) k2 p4] k3 p5] p6], 0⟩] fltS pos) 0 (.ref I) (.ref D) (compEnvC fltS [] C env)) R { s with heap := h'', toks := tk'' } := by
      intro h'' tk'' v hr F'' N''
      rw [lst_eq] at N''
      exact ih vs (i + 1) _ h'' tk'' oI' oC' m2 h2 hits (fun x hx => hrg x (List.mem_cons_of_mem _ hx)) F'' N'' li' hns' (by simp only [List.length_append, List.length_cons, List.length_nil]; ktr_room)
        (fun h3 tk3 oC3 m3 ys3 F3 N3 ns3 st3 => fin h3 tk3 oC3 m3 ys3 F3 N3 ns3 (by rw [st3, List.countP_cons_of_pos hr, List.length_append]; simp only [List.length_cons, List.length_nil]; ktr_room))
    have no : ∀ h'' tk'', isRead n = false → Fr h₀ L h'' m → News h₀ L h'' ((I, oI') :: (C, oC') :: (D, LCg.lst ys) :: news) →
       codeAny (model prog w) A (.compLoop (.ListComp (.Name (Str.ofString "deed") p1) [⟨.Name (Str.ofString "deed") pt, iter, [.Compare (.Name (Str.ofString "deed") p2) [.In] [.Tuple [.Constant (.int 0) k1 p3, .Constant (.int 6) k2 p4] k3 p5] p6], 0⟩] fltS pos) 0 (.ref I) (.ref D) (compEnvC fltS [] C env)) R { s with heap := h'', toks := tk'' } := by
      intro h'' tk'' hr F'' N''
      exact ih vs (i + 1) ys h'' tk'' oI' oC' m2 h2 hits (fun x hx => hrg x (List.mem_cons_of_mem _ hx)) F'' N'' li' hns' (by ktr_room)
        (fun h3 tk3 oC3 m3 ys3 F3 N3 ns3 st3 => fin h3 tk3 oC3 m3 ys3 F3 N3 ns3 (by rw [st3, List.countP_cons_of_neg (by simp [hr])]))
    clear ih hrg
    refine wpAny_tests_one ?_
    k_steps
    unfold Hold
    refine in06 (b := [(0 : Int), 6].any (· == n)) (News.isTup (by assumption) (.head _)) (by repeat constructor) rfl ?_
    cases hb : [(0 : Int), 6].any (· == n)
    all_goals
      k_steps
      rename Fr _ _ _ _ => FF
      rename News _ _ _ _ => NN
    · exact no _ _ (isRead_any.trans hb) FF (news_rest NN)
    · exact yes _ _ _ (isRead_any.trans hb) FF (news_rest NN)
theorem flt_comp {q : Addr} {us : List Value} {ns : List Int} {e : Nat} {p1 p2 p3 p4 p5 p6 pt pos : Pos} {k1 k2 k3 : Nat} {iter : Expr}
   (X : (hd.heap_39 w.params).In h₀) (hh : A.handled = none) (F : Fr h₀ L s.heap m) (N : News h₀ L s.heap news) (hq : (q, listOf us.toArray e) ∈ news) (hi : IntsAre us ns) (hrg : ∀ n ∈ ns, 0 ≤ n ∧ n < 7) (hl : ns.length ≤ 100000)
   (ret : ∀ D ys h' tk', Fr h₀ L h' m → News h₀ L h' ((D, LCg.lst ys) :: news) → ys.length = ns.countP isRead → (∀ p ∈ news, @LT.lt Nat _ p.1 D) → Q (.ref D) { s with heap := h', toks := tk' }) :
   CSrc w A h₀ L m (.ListComp (.Name (Str.ofString "deed") p1) [⟨.Name (Str.ofString "deed") pt, iter, [.Compare (.Name (Str.ofString "deed") p2) [.In] [.Tuple [.Constant (.int 0) k1 p3, .Constant (.int 6) k2 p4] k3 p5] p6], 0⟩] fltS pos) fltS [] env Q (.ref q) s := by
  refine c_src F N hq ?_
  intro I C D h tk oI oC mm F' N' li hns hlt hID hDC
  have hI := ne_of_all hlt (Nat.le_refl I)
  have hD := ne_of_all (x := D) hlt (Nat.le_of_lt hID)
  have hC := ne_of_all (x := C) hlt (Nat.le_of_lt (Nat.lt_trans hID hDC))
  refine flt_loop (q := q) (us := us) (e := e) X hh hq hI hC hD ((by k_ne)) ((by k_ne)) ((by k_ne)) ns us 0 [] h tk oI oC mm rfl hi hrg F' N' li hns (by simpa using hl) ?_
  intro h2 tk2 oC2 mm2 ys2 F2 N2 ns2 st2
  refine c_fin F2 N2 (List.forall_mem_cons.mpr ⟨(by k_ne), hC⟩) ns2 ?_
  intro h3 F3 N3
  exact ret _ _ _ _ F3 N3 (by simpa using st2) (fun p hp => Nat.lt_trans (hlt p hp) hID)
theorem reads_told {h : Heap} {us : List Value} {ss : List (List Nat)} (hs : Strs us ss) : ∃ as, ReadsAll h us (ss.map fun c => PyData.str ⟨c.toArray⟩) as := by
  induction hs with
  | nil => exact ⟨_, .nil⟩
  | @cons vs ss x t _ ih =>
    obtain ⟨as, r⟩ := ih
    exact ⟨_, .cons (.str x t) r⟩
theorem reads_due {h : Heap} {us : List Value} {ys : List Str} (hs : StrsAre us ys) : ∃ as, ReadsAll h us (ys.map PyData.str) as := by
  induction hs with
  | nil => exact ⟨_, .nil⟩
  | cons y t _ ih =>
    obtain ⟨as, r⟩ := ih
    exact ⟨_, .cons (.str y t) r⟩
theorem eq_pair {D1 D2 : Addr} {us vs : List Value} {ss : List (List Nat)} {ys : List Str} {f : Int} {t1 t2 : Tok} (N : News h₀ L s.heap news) (ma : (a, tupObj [.ref D1, .int f t1]) ∈ news) (m1 : (D1, LCg.lst us) ∈ news) (hs1 : Strs us ss)
   (mb : (b, tupObj [.ref D2, .int f t2]) ∈ news) (m2 : (D2, LCg.lst vs) ∈ news) (hs2 : StrsAre vs ys) (he : ss = ys.map tl) (hok : ∀ y ∈ ys, PyData.strOk y = true) (hu : A.units + 64 < cLine)
   (h : Q (.bool true) s) : wpAny (model prog w) A (compareOp .Eq (.ref a) (.ref b)) Q E s := by
  obtain ⟨as, r1⟩ := reads_told (h := s.heap) hs1
  obtain ⟨bs, r2⟩ := reads_due (h := s.heap) hs2
  have e1 : (ss.map fun c => PyData.str ⟨c.toArray⟩) = ys.map PyData.str := by
    rw [he, List.map_map]
    rfl
  rw [e1] at r1
  have hsh : SeqAt.shaped (.tuple [.list (ys.map PyData.str), .int f]) = true := by
    have h1 : PyData.canLayAll0 (ys.map PyData.str) = true := by
      clear he hs2 r1 r2 e1
      induction ys with
      | nil => rfl
      | cons y ys ih =>
        simp only [List.map_cons, PyData.canLayAll0, PyData.canLay0, hok y (List.mem_cons_self ..), ih fun x hx => hok x (List.mem_cons_of_mem _ hx), Bool.and_true]
    have h2 : PyData.depthAll (ys.map PyData.str) ≤ 1 := by
      clear he hs2 r1 r2 e1 h1
      induction ys with
      | nil => simp [PyData.depthAll]
      | cons y ys ih =>
        have := ih fun x hx => hok x (List.mem_cons_of_mem _ hx)
        simp only [List.map_cons, PyData.depthAll, PyData.depth]
        ktr_room
    unfold SeqAt.shaped
    rw [Bool.and_eq_true]
    constructor
    · simp only [PyData.canLay0, PyData.canLayAll0, h1, Bool.and_true]
    · refine decide_eq_true ?_
      simp only [PyData.depth, PyData.depthAll]
      ktr_room
  refine eq_dataH (da := .tuple [.list (ys.map PyData.str), .int f]) (db := .tuple [.list (ys.map PyData.str), .int f]) (reads_tuple_at (N.get ma) rfl rfl (.cons (reads_list_at (N.get m1) rfl rfl r1) (.cons (.int f t1) .nil))) (reads_tuple_at (N.get mb) rfl rfl (.cons (reads_list_at (N.get m2) rfl rfl r2) (.cons (.int f t2) .nil))) hsh hsh hu ?_
  rw [SeqAt.eqv_refl _ (SeqAt.canLay_of_shaped hsh)]
  exact h
end
end Mine
end
section
open PySem PySem.W PyProof.Rows PySem.Calls
namespace Mine
set_option linter.unusedVariables false
structure Ready (R : Nat) (k : Int) (ns : List Int) (fin : List (List Itm)) (ff : Int) : Prop where
  due : Due (deedsL ns) [itemsL R k ns] 0 1 fin R ff
  steps : Steps (deedsL ns) [(textS 1 (itemsL R k ns)).cps.toList] 1 (fin.map (textL (2 ^ R))) ff
  num : (fin.map (textL (2 ^ R))).length ≤ 100000
  fine : Fine fin
  reads : R ≤ 12
  deeds : (deedsL ns).length ≤ 100
  same : fin.map (textL (2 ^ R)) = (fin.map (textS (2 ^ R))).map tl
  small : ∀ y ∈ fin.map (textS (2 ^ R)), PyData.strOk y = true
  ok : ∀ it ∈ itemsL R k ns, okN it
  len : (itemsL R k ns).length ≤ 100000
  sum : (((itemsL R k ns).map (pieceS 1)).map (·.length)).sum ≤ 1000000
theorem law_ready {ns : List Int} {k : Int} {R : Nat} (hR : R = (deedsL ns).countP isRead) (h0 : 0 ≤ k) (h1 : k < 3) (hl : ns.length ≤ 4) : ∃ fin ff, Ready R k ns fin ff := by
  subst hR
  obtain ⟨fin, ff, hD, hS, hn, hf, hw⟩ := law_plain h0 h1 hl
  have hd := deeds_len hl
  have hi := items_inv hd.2 h0 h1 hl
  have hfi := hi.fine (by decide)
  have hfi2 := hfi.2 _ (List.mem_singleton.mpr rfl)
  have hlen := hi.len _ (List.mem_singleton.mpr rfl)
  refine ⟨fin, ff, hD, ?_, by rw [List.length_map]; lia, hf, by lia, by lia, ?_, ?_, fun it h => okN_of (hfi2.2 it h), by lia, ?_⟩
  · have e : (textS 1 (itemsL ((deedsL ns).countP isRead) k ns)).cps.toList = textL 1 (itemsL ((deedsL ns).countP isRead) k ns) := tl_textS fun it h => (hfi2.2 it h).1
    rw [e]; exact hS
  · rw [List.map_map]
    exact List.map_congr_left fun t ht => (tl_textS fun it h => ((hf.2 t ht).2 it h).1).symm
  · intro y hy
    obtain ⟨t, ht, rfl⟩ := List.mem_map.mp hy
    have e := tl_textS (b := 2 ^ (deedsL ns).countP isRead) fun it h => ((hf.2 t ht).2 it h).1
    have hs := small_text (b := 2 ^ (deedsL ns).countP isRead) (hw t ht)
    unfold PyData.strOk
    rw [Array.all_eq_true_iff_forall_mem]
    intro c hc
    have hc2 : c ∈ tl (textS (2 ^ (deedsL ns).countP isRead) t) := by unfold tl; simpa using hc
    rw [e] at hc2
    exact decide_eq_true (hs c hc2)
  · have := pieces_sum (b := 1) _ hfi2.2
    lia
theorem law_ready3 {ns : List Int} {R : Nat} (hR : R = (deedsL ns).countP isRead) (hl : ns.length ≤ 4) : ∃ fin ff, Ready R (ns.sum.fmod 3) ns fin ff :=
  law_ready hR (fmod_range _ (by decide)).1 (fmod_range _ (by decide)).2 hl
end Mine
end
section
open PySem PySem.W PyProof.Rows PySem.Calls
namespace Mine
theorem offLawW68 : True := by
  w_top off
  trivial
set_option maxRecDepth 100000
set_option maxHeartbeats 8000000
set_option linter.unusedVariables false


local macro_rules | `(tactic| walk_at "binaryOp Add ref ref") => `(tactic| (refine hold ?_))
local macro_rules | `(tactic| walk_at "compareOp Eq ref ref") => `(tactic| (refine hold ?_))
local macro_rules | `(tactic| walk_at "call ref") => `(tactic| (refine hold ?_))
theorem len4 {ws : List Value} {l : List Int} (h : IntsAre ws (List.take 4 l)) : (List.take 4 l).length ≤ 4 := List.length_take_le 4 l
theorem trim1 {g h : Heap} {L a b c d e f : Addr} {oa ob oc od oe of : Obj} (N : News g L h [(a, oa), (b, ob), (c, oc), (d, od), (e, oe), (f, of)]) : News g L h [(a, oa), (e, oe), (f, of)] := (njoin (nhd N) (njoin (nhd (ntl (ntl (ntl (ntl N))))) (njoin (nhd (ntl (ntl (ntl (ntl (ntl N)))))) (ntl (ntl (ntl (ntl (ntl (ntl N)))))))))
theorem trim2 {g h : Heap} {L a b c d : Addr} {oa ob oc od : Obj} (N : News g L h [(a, oa), (b, ob), (c, oc), (d, od)]) : News g L h [(b, ob), (c, oc), (d, od)] := news_rest N
theorem trim3 {g h : Heap} {L a b c d e f x y : Addr} {oa ob oc od oe of ox oy : Obj} (N : News g L h [(a, oa), (b, ob), (c, oc), (d, od), (e, oe), (f, of), (x, ox), (y, oy)]) : News g L h [(a, oa), (c, oc), (d, od), (f, of), (y, oy)] := (njoin (nhd N) (njoin (nhd (ntl (ntl N))) (njoin (nhd (ntl (ntl (ntl N)))) (njoin (nhd (ntl (ntl (ntl (ntl (ntl N)))))) (njoin (nhd (ntl (ntl (ntl (ntl (ntl (ntl (ntl N)))))))) (ntl (ntl (ntl (ntl (ntl (ntl (ntl (ntl N)))))))))))))
theorem items_extract {N : List (Addr × Obj)} {vs : List Value} {its : List Itm} (h : ItemsIn N vs its) : ∃ ex, (∀ p ∈ ex, p ∈ N ∧ ∃ arr e, p.2 = listOf arr e) ∧ ItemsIn ex vs its := by
  induction h with
  | nil => exact ⟨[], by simp, .nil⟩
  | cons hi _ ih =>
    obtain ⟨ex, h1, h2⟩ := ih
    obtain ⟨q, tn, ts, tl, tw, e, rfl, hm⟩ := hi
    exact ⟨(q, _) :: ex, List.forall_mem_cons.mpr ⟨⟨hm, _, _, rfl⟩, h1⟩, .cons ⟨q, tn, ts, tl, tw, e, rfl, List.mem_cons_self ..⟩ (items_tail h2)⟩
theorem head_in {N : List (Addr × Obj)} {q : Addr} {b r R e : Nat} {k : Int} {t1 t2 t3 t4 : Tok} (hb : 2 ^ r = b) (hb0 : 0 < b) (hr : r = R) (hm : (q, listOf #[.int ((b : Int) - 1) t1, .str (Txt.item (Str.ofString "\" \n") k) t2, .str (Str.ofString "o") t3, .str (Str.ofString "") t4] e) ∈ N) : ItemIn N (.ref q) (headIt R k) := by
  subst hr hb
  have e1 : ((2 ^ r : Nat) : Int) - 1 = ((2 ^ r - 1 : Nat) : Int) := by ktr_room
  rw [e1] at hm
  exact ⟨q, t1, t2, t3, t4, e, rfl, hm⟩
theorem apart136 {g h : Heap} {L c : Addr} {ps : Array Value} {l : List (Addr × Obj)} (N : News g L h l) (hm : (c, tabObj ps) ∈ l) {p : Addr × Obj} (hp : p ∈ l) (ho : ∃ arr e, p.2 = listOf arr e) : p.1 ≠ c := by
  intro e
  have e1 := (N _ hp).1
  have e2 := (N _ hm).1
  dsimp only at e2
  rw [e, e2] at e1
  obtain ⟨arr, n, ho⟩ := ho
  have e3 : tabObj ps = p.2 := Option.some.inj e1
  rw [ho] at e3
  have e4 := congrArg Obj.data e3
  cases e4
theorem regroup {g h : Heap} {L a b c d e f : Addr} {oa ob oc od oe of : Obj} {news ex : List (Addr × Obj)} {P : Addr × Obj → Prop} (N : News g L h ((d, od) :: news)) (sub : ∀ p ∈ [(a, oa), (b, ob), (c, oc), (e, oe), (f, of)], p ∈ news) (hex : ∀ p ∈ ex, p ∈ news ∧ P p) : News g L h ((d, od) :: (b, ob) :: (c, oc) :: (e, oe) :: (f, of) :: ex) := by
  intro p hp
  rcases List.mem_cons.mp hp with rfl | hp
  · exact N _ (List.mem_cons_self ..)
  · rcases List.mem_cons.mp hp with rfl | hp
    · exact N _ (List.mem_cons_of_mem _ (sub _ (by simp only [List.mem_cons, true_or, or_true])))
    · rcases List.mem_cons.mp hp with rfl | hp
      · exact N _ (List.mem_cons_of_mem _ (sub _ (by simp only [List.mem_cons, true_or, or_true])))
      · rcases List.mem_cons.mp hp with rfl | hp
        · exact N _ (List.mem_cons_of_mem _ (sub _ (by simp only [List.mem_cons, true_or, or_true])))
        · rcases List.mem_cons.mp hp with rfl | hp
          · exact N _ (List.mem_cons_of_mem _ (sub _ (by simp only [List.mem_cons, true_or, or_true])))
          · exact N _ (List.mem_cons_of_mem _ (hex p hp).1)
theorem regroup2 {g h : Heap} {L b c d e f x : Addr} {ob oc od oe of ox : Obj} {ex : List (Addr × Obj)} (N : News g L h ((x, ox) :: (d, od) :: (b, ob) :: (c, oc) :: (e, oe) :: (f, of) :: ex)) : News g L h ((f, of) :: (x, ox) :: (c, oc) :: (e, oe) :: ex) := (njoin (nhd (ntl (ntl (ntl (ntl (ntl N)))))) (njoin (nhd N) (njoin (nhd (ntl (ntl (ntl N)))) (njoin (nhd (ntl (ntl (ntl (ntl N))))) (ntl (ntl (ntl (ntl (ntl (ntl N))))))))))
theorem top : PySem.Challenge.rw_pk0068_01.Holds := hd (by
  k_go0
  (all_goals try k_fold)
  k_steps
  unfold Hold
  rename Fr _ _ _ _ => FF
  rename News _ _ _ _ => NN
  rename @LT.lt Nat _ 136 _ => l1
  clear l1
  refine c_open FF rfl (by decide) rfl (by decide) ?_ (by intro _; rfl)
  k_steps
  rename Fr _ _ _ _ => FF
  rename News _ _ _ _ => NN
  rename _ ∧ _ => l1
  clear l1
  rename IntsAre _ (List.take 2 _) => hI2
  rename IntsAre _ (List.take 4 _) => hI4
  refine mod_comp (by assumption) rfl FF NN (List.mem_cons_self ..) hI2 (by simp only [List.length_take]; ktr_room) ?_
  clear FF NN
  intro D1 ys1 h1 tk1 F1 N1 st1 lt1
  clear lt1
  k_steps
  unfold Hold
  rename Fr _ _ _ _ => FF
  rename News _ _ _ _ => NN
  rename _ ∧ _ => l1
  clear l1
  have hl1 := st1.length
  simp only [List.length_map, List.length_take] at hl1
  refine addLL FF NN (by k_mem) (by k_mem) (by simp only [List.length_cons, List.length_nil]; ktr_room) ?_
  clear FF NN
  intro D2 h2 F2 N2 lt2
  clear lt2
  replace N2 := trim1 N2
  k_steps
  unfold Hold
  rename Fr _ _ _ _ => FF
  rename News _ _ _ _ => NN
  refine c_open FF rfl (by decide) rfl (by decide) ?_ (by intro _; rfl)
  k_steps
  rename Fr _ _ _ _ => FF
  rename News _ _ _ _ => NN
  rename _ ∧ _ => l1
  clear l1
  rename IntsAre _ (List.drop 2 _) => hI3
  refine mod_comp (by assumption) rfl FF NN (List.mem_cons_self ..) hI3 (by simp only [List.length_take, List.length_drop]; ktr_room) ?_
  clear FF NN
  intro D3 ys3 h3 tk3 F3 N3 st3 lt3
  clear lt3
  have hl3 := st3.length
  simp only [List.length_map, List.length_take, List.length_drop] at hl3
  k_steps
  unfold Hold
  rename Fr _ _ _ _ => FF
  rename News _ _ _ _ => NN
  refine addLL FF NN (by k_mem) (by k_mem) (by simp only [List.length_append, List.length_cons, List.length_nil]; ktr_room) ?_
  clear FF NN
  intro D4 h4 F4 N4 lt4
  clear lt4
  replace N4 := trim1 N4
  have hDs := fun t0 t1 t2 t3 t4 => (st1.append (.cons 0 t0 (.cons 6 t1 (.cons 4 t2 (.cons 0 t3 (.cons 5 t4 .nil)))))).append st3
  k_steps
  unfold Hold
  rename Fr _ _ _ _ => FF
  rename News _ _ _ _ => NN
  refine c_open FF rfl (by decide) rfl (by decide) ?_ (by intro _; rfl)
  k_steps
  rename Fr _ _ _ _ => FF
  rename News _ _ _ _ => NN
  have h4 := len4 hI4
  have hDl := deeds_len h4
  refine flt_comp (by assumption) rfl FF NN (List.mem_cons_self ..) (hDs _ _ _ _ _) deeds_range ?dl ?_
  case dl => exact Nat.le_trans hDl.1 (by decide)
  clear FF NN
  intro D5 ys5 h5 tk5 F5 N5 hy5 lt5
  clear lt5
  have hl5 : ys5.length ≤ 7 := Nat.le_trans (Nat.le_of_eq hy5) hDl.2
  obtain ⟨b, hb⟩ : ∃ b, 2 ^ ys5.length = b := ⟨_, rfl⟩
  have hb0 : 0 < b := hb ▸ Nat.two_pow_pos _
  k_steps
  unfold Hold
  rename Fr _ _ _ _ => FF
  rename News _ _ _ _ => NN
  rename _ ∧ _ => l1
  clear l1
  rename _ ∧ _ => l1
  clear l1
  rename _ ∧ _ => l1
  clear l1
  have hl4 := hI4.length
  refine addLL FF NN (by k_mem) (by k_mem) (by simp only [List.length_cons, List.length_nil]; ktr_room) ?_
  clear FF NN
  intro D6 h6 F6 N6 lt6
  clear lt6
  replace N6 := trim3 N6
  have hIs := fun t0 t1 t2 t3 t4 t5 => IntsAre.append (.cons 17 t0 (.cons 197 t1 (.cons 299 t2 (.cons 384 t3 (.cons 183 t4 (.cons 344 t5 .nil)))))) hI4
  k_steps
  unfold Hold
  rename Fr _ _ _ _ => FF
  rename News _ _ _ _ => NN
  refine items_call (by assumption) FF (by assumption) (by assumption) rfl ?hd9 ?hu9 NN (by k_mem) (hIs _ _ _ _ _ _) ?hl9 ?_
  case hd9 => decide
  case hu9 => decide
  case hl9 => simp only [List.length_append, List.length_cons, List.length_nil]; ktr_room
  clear FF NN
  intro D7 ys7 news7 h7 tk7 F7 N7 it7 sub7
  obtain ⟨ex, hex, hit⟩ := items_extract it7
  replace N7 := regroup N7 sub7 hex
  have hex2 : ∀ p ∈ ex, ∃ arr e, p.2 = listOf arr e := fun p hp => (hex p hp).2
  clear hex sub7 it7
  have hl7 := items_len hit
  obtain ⟨fin, ff, rdy⟩ := law_ready3 hy5 h4
  k_steps
  unfold Hold
  rename Fr _ _ _ _ => FF
  rename News _ _ _ _ => NN
  refine addLL FF NN (by k_mem) (by k_mem) ?hl8 ?_
  case hl8 =>
    rw [hl7]
    simp only [List.length_map, List.length_append, List.length_cons, List.length_nil]; ktr_room
  clear FF NN
  intro D8 h8 F8 N8 lt8
  clear lt8
  replace N8 := regroup2 N8
  k_steps
  unfold Hold
  rename Fr _ _ _ _ => FF
  rename News _ _ _ _ => NN
  refine text_call (q := D8) (its := itemsL _ _ _) (r := 0) (b := 1) (by assumption) FF (by assumption) (by assumption) rfl ?hd10 ?hu10 NN (by k_mem) (.cons (head_in hb hb0 rfl (by k_mem)) (items_sub (fun p hp => by k_mem) hit)) (by decide) rfl rdy.ok rdy.len rdy.sum ?_
  case hd10 => decide
  case hu10 => decide
  intro t9 h9 tk9 F9 N9
  clear FF NN
  k_steps
  unfold Hold
  rename Fr _ _ _ _ => FF
  rename News _ _ _ _ => NN
  refine told_call (dd := D4) (ds := deedsL _) (by assumption) FF (by assumption) (by assumption) rfl ?hd11 ?hu11 (by assumption) NN ?hne11 (by k_mem) (hDs _ _ _ _ _) rdy.steps rdy.num ?_
  case hd11 => decide
  case hu11 => decide
  case hne11 => exact fun p hp => apart136 NN (List.mem_cons_self ..) (List.mem_cons_of_mem _ hp) ((List.forall_mem_cons.mpr ⟨⟨_, _, rfl⟩, List.forall_mem_cons.mpr ⟨⟨_, _, rfl⟩, List.forall_mem_cons.mpr ⟨⟨_, _, rfl⟩, hex2⟩⟩⟩) p hp)
  intro tp Dt us t1 ps h10 tk10 F10 hus N10
  clear FF NN
  k_steps
  unfold Hold
  rename Fr _ _ _ _ => FF
  rename News _ _ _ _ => NN
  refine due_call (q := D8) (dd := D4) (its := itemsL _ _ _) (ds := deedsL _) (by assumption) FF (by assumption) (by assumption) rfl ?hd12 ?hu12 NN (by k_mem) (.cons (head_in hb hb0 rfl (by k_mem)) (items_sub (fun p hp => by k_mem) hit)) (by k_mem) (hDs _ _ _ _ _) rdy.due rdy.fine rdy.reads rdy.deeds ?_
  case hd12 => decide
  case hu12 => decide
  intro tp2 Dd2 ys9 t2 h11 tk11 F11 N11 st11
  clear FF NN
  k_steps
  unfold Hold
  rename News _ _ _ _ => NN
  refine eq_pair NN (by k_mem) (by k_mem) hus (by k_mem) (by k_mem) st11 rdy.same rdy.small ?hu13 ?_
  case hu13 => first | exact Nat.le_of_ble_eq_true rfl | k_units
  k_steps)
end Mine
end
end
end
end
set_option maxRecDepth 100000 in
set_option maxHeartbeats 8000000 in
theorem PySem.Challenge.cw_pk0068_01_holds : PySem.Challenge.rw_pk0068_01.Holds := by
  exact Mine.top
