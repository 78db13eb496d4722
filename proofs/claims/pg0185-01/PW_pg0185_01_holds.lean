import PyProof.Rows.All
import Wide.All
import OpenK.AllK
import Wide.FinOn
import PySem.Challenge.RW_pg0185_01
open PySem PySem.W PyProof.Rows
set_option Elab.async false
set_option maxRecDepth 100000
set_option maxHeartbeats 8000000
set_option linter.unusedVariables false
namespace Mine
local macro_rules | `(tactic| walk_at "CompEnd") => `(tactic| k_extra "CompEnd")
local macro_rules | `(tactic| walk_at "CompSrc") => `(tactic| k_extra "CompSrc")
local macro_rules | `(tactic| walk_at "EltS") => `(tactic| k_extra "EltS")
local macro_rules | `(tactic| walk_at "HueEnd") => `(tactic| k_extra "HueEnd")
local macro_rules | `(tactic| walk_at "KswEnd") => `(tactic| k_extra "KswEnd")
local macro_rules | `(tactic| walk_at "SrcTup") => `(tactic| k_extra "SrcTup")
local macro_rules | `(tactic| walk_at "binaryOp Add ref ref") => `(tactic| k_extra "binaryOp Add ref ref")
local macro_rules | `(tactic| walk_at "binaryOp Add str str") => `(tactic| k_extra "binaryOp Add str str")
local macro_rules | `(tactic| walk_at "binaryOp Div float float") => `(tactic| k_extra "binaryOp Div float float")
local macro_rules | `(tactic| walk_at "binaryOp Div int int") => `(tactic| k_extra "binaryOp Div int int")
local macro_rules | `(tactic| walk_at "binaryOp FloorDiv int int") => `(tactic| k_extra "binaryOp FloorDiv int int")
local macro_rules | `(tactic| walk_at "binaryOp Sub float float") => `(tactic| k_extra "binaryOp Sub float float")
local macro_rules | `(tactic| walk_at "binaryOp Sub float int") => `(tactic| k_extra "binaryOp Sub float int")
local macro_rules | `(tactic| walk_at "call builtin:len") => `(tactic| k_extra "call builtin:len")
local macro_rules | `(tactic| walk_at "call builtin:list.insert") => `(tactic| k_extra "call builtin:list.insert")
local macro_rules | `(tactic| walk_at "call builtin:max") => `(tactic| k_extra "call builtin:max")
local macro_rules | `(tactic| walk_at "call builtin:min") => `(tactic| k_extra "call builtin:min")
local macro_rules | `(tactic| walk_at "call builtin:round") => `(tactic| k_extra "call builtin:round")
local macro_rules | `(tactic| walk_at "call builtin:str.find") => `(tactic| k_extra "call builtin:str.find")
local macro_rules | `(tactic| walk_at "call builtin:str.index") => `(tactic| k_extra "call builtin:str.index")
local macro_rules | `(tactic| walk_at "call builtin:str.replace") => `(tactic| k_extra "call builtin:str.replace")
local macro_rules | `(tactic| walk_at "call builtin:str.rfind") => `(tactic| k_extra "call builtin:str.rfind")
local macro_rules | `(tactic| walk_at "call builtin:str.split") => `(tactic| k_extra "call builtin:str.split")
local macro_rules | `(tactic| walk_at "call ref") => `(tactic| k_extra "call ref")
local macro_rules | `(tactic| walk_at "call type:int") => `(tactic| k_extra "call type:int")
local macro_rules | `(tactic| walk_at "compareOp Eq float float") => `(tactic| k_extra "compareOp Eq float float")
local macro_rules | `(tactic| walk_at "compareOp Eq ref ref") => `(tactic| k_extra "compareOp Eq ref ref")
local macro_rules | `(tactic| walk_at "compareOp Lt str str") => `(tactic| k_extra "compareOp Lt str str")
local macro_rules | `(tactic| walk_at "compareOp NotEq ref ref") => `(tactic| k_extra "compareOp NotEq ref ref")
local macro_rules | `(tactic| walk_at "eval ListComp") => `(tactic| k_extra "eval ListComp")
local macro_rules | `(tactic| walk_at "exec Assign cons ListComp") => `(tactic| k_extra "exec Assign cons ListComp")
local macro_rules | `(tactic| walk_at "execs cons") => `(tactic| k_extra "execs cons")
local macro_rules | `(tactic| walk_at "setItem ref int int") => `(tactic| k_extra "setItem ref int int")
local macro_rules | `(tactic| walk_at "subscriptTail Name BinOp ref int") => `(tactic| k_extra "subscriptTail Name BinOp ref int")
local macro_rules | `(tactic| walk_at "subscriptTail Name Name ref int") => `(tactic| k_extra "subscriptTail Name Name ref int")
local macro_rules | `(tactic| walk_at "subscriptTail Name Slice ref ref") => `(tactic| k_extra "subscriptTail Name Slice ref ref")
local macro_rules | `(tactic| walk_at "subscriptTail Name Slice str ref") => `(tactic| k_extra "subscriptTail Name Slice str ref")
local macro_rules | `(tactic| k_mem) => `(tactic| k_extra "k_mem")
local macro_rules | `(tactic| k_all) => `(tactic| k_extra "k_all")
local macro_rules | `(tactic| ktr_rel) => `(tactic| k_extra "ktr_rel")
section
set_option synthInstance.maxSize 1 in
open_top hd for PySem.Challenge.rw_pg0185_01
end
section
noncomputable abbrev LS : List Str := looseW hd.view_39 [Str.ofString "insort_right", Str.ofString "bisect_right", Str.ofString "insort_left", Str.ofString "bisect_left"]

noncomputable abbrev Post := Value → List (Addr × Obj) → Prop
/-- a contract: a call of the def at f with these arguments, the ledger news at hand, ends in post (the value, the ledger behind) -/
noncomputable abbrev Does (D U : Nat) (w : World) (mean : ExcName → Option Value) (mg mb : Str → Option Value) (f : Addr) (vs : List Value) (kw : List (Str × Value)) (news : List (Addr × Obj)) (post : Post) : Prop :=
  ∀ (dp un : Nat) (gd : Option (List Code)) (cn : Str) (cs : Scope) (a : Addr) (ccd : Value) (cl : List (Str × Addr)) (outer : List Env) (A₀ : Around) (base h₀ : Heap) (L : Addr) (m : Str → Option Value) (s : Shared) (Q E : Value → Shared → Prop),
    Below A₀ base outer h₀ → Fr h₀ L s.heap m → (hd.heap_39 w.params).In h₀ → News h₀ L s.heap news → Top hd.view_39 LS mean mg mb h₀ → cs.kind = .function →
    dp + D < recursionLimit → un + U < cLine →
    (∀ (v : Value) (news' : List (Addr × Obj)) (h' : Heap) (tk' : Nat), Fr h₀ L h' m → News h₀ L h' news' → post v news' → Q v { s with heap := h', toks := tk' }) →
    wpAny (model Challenge.rw_pg0185_01.row.prog w) (ktrTop dp un gd cn cs L a ccd cl outer) (call (.ref f) vs kw) Q E s

noncomputable def IsS (x : Str) (news : List (Addr × Obj)) : Post := fun v n => (∃ t, v = .str x t) ∧ n = news
noncomputable def IsI (x : Int) (news : List (Addr × Obj)) : Post := fun v n => (∃ t, v = .int x t) ∧ n = news
noncomputable def IsN (news : List (Addr × Obj)) : Post := fun v n => v = .none ∧ n = news
section
variable {h₀ h' : Heap} {L : Addr} {m : Str → Option Value} {s : Shared} {Q : Value → Shared → Prop} {tk' : Nat} {news news₁ : List (Addr × Obj)}
theorem ret_keep {post : Post}
    (hret : ∀ (v : Value) (news' : List (Addr × Obj)) (h' : Heap) (tk' : Nat), Fr h₀ L h' m → News h₀ L h' news' → post v news' → Q v { s with heap := h', toks := tk' })
    {v : Value} (F : Fr h₀ L h' m) (N : News h₀ L h' news₁) (hs : ∀ p ∈ news, p ∈ news₁) (hp : post v news) : Q v { s with heap := h', toks := tk' } :=
  hret v news h' tk' F (fun p hp => N p (hs p hp)) hp
theorem ret_S {x y : Str} {t : Tok}
    (hret : ∀ (v : Value) (news' : List (Addr × Obj)) (h' : Heap) (tk' : Nat), Fr h₀ L h' m → News h₀ L h' news' → IsS x news v news' → Q v { s with heap := h', toks := tk' })
    (F : Fr h₀ L h' m) (N : News h₀ L h' news₁) (hs : ∀ p ∈ news, p ∈ news₁) (e : y = x) : Q (.str y t) { s with heap := h', toks := tk' } :=
  ret_keep hret F N hs ⟨⟨t, by rw [e]⟩, rfl⟩
theorem ret_I {x y : Int} {t : Tok}
    (hret : ∀ (v : Value) (news' : List (Addr × Obj)) (h' : Heap) (tk' : Nat), Fr h₀ L h' m → News h₀ L h' news' → IsI x news v news' → Q v { s with heap := h', toks := tk' })
    (F : Fr h₀ L h' m) (N : News h₀ L h' news₁) (hs : ∀ p ∈ news, p ∈ news₁) (e : y = x) : Q (.int y t) { s with heap := h', toks := tk' } :=
  ret_keep hret F N hs ⟨⟨t, by rw [e]⟩, rfl⟩
end
theorem sub_refl (l : List (Addr × Obj)) : ∀ p ∈ l, p ∈ l := fun _ h => h
theorem sub_cons {l l' : List (Addr × Obj)} {x : Addr × Obj} (h : ∀ p ∈ l, p ∈ l') : ∀ p ∈ l, p ∈ x :: l' := fun p hp => List.Mem.tail _ (h p hp)
noncomputable def Stop (P : Prop) : Prop := P
theorem stop_in {P : Prop} (h : Stop P) : P := h
theorem stop_out {P : Prop} (h : P) : Stop P := h
noncomputable def CutEnd (mid : Shared → Prop) (f : Flow) (s : Shared) : Prop := f = .next ∧ mid s
noncomputable def ValMid (h₀ : Heap) (L : Addr) (s : Shared) (m : Str → Option Value) (x : Str) (g : Tok → Value) (news : List (Addr × Obj)) (s' : Shared) : Prop :=
  ∃ (h' : Heap) (tk : Nat) (t : Tok), s' = { s with heap := h', toks := tk } ∧ Fr h₀ L h' (fun y => if y = x then some (g t) else m y) ∧ News h₀ L h' news
theorem val_cut {M : Model} {A : Around} {E : Value → Shared → Prop} {Q : Flow → Shared → Prop} {s : Shared} {env : Env} {st : Stmt} {h₀ : Heap} {L : Addr} {m : Str → Option Value} {news : List (Addr × Obj)} (x : Str) (g : Tok → Value) (F : Fr h₀ L s.heap m) (N : News h₀ L s.heap news) (h1 : wpAny M A (exec st env) (CutEnd (ValMid h₀ L s m x g news)) E s)
    (h2 : ∀ h' tk t, Fr h₀ L h' (fun y => if y = x then some (g t) else m y) → News h₀ L h' news → Q .next { s with heap := h', toks := tk }) : wpAny M A (exec st env) Q E s :=
  wpAny_mono h1 (fun f s' h => by
    obtain ⟨rfl, h', tk, t, rfl, F', N'⟩ := h
    exact h2 h' tk t F' N') fun _ _ e => e
theorem val_end {h₀ h' : Heap} {L : Addr} {s : Shared} {m : Str → Option Value} {x : Str} {v r : UInt64} {t : Tok} {news : List (Addr × Obj)} {tk : Nat} (F : Fr h₀ L h' (fun y => if y = x then some (.float r t) else m y)) (N : News h₀ L h' news) (e : r = v) : CutEnd (ValMid h₀ L s m x (.float v) news) .next { s with heap := h', toks := tk } := by
  subst e
  exact ⟨rfl, h', tk, t, rfl, F, N⟩
noncomputable def IntMid (h₀ : Heap) (L : Addr) (s : Shared) (m : Str → Option Value) (x : Str) (v : Int) (news : List (Addr × Obj)) (s' : Shared) : Prop :=
  ∃ (h' : Heap) (tk : Nat) (t : Tok), s' = { s with heap := h', toks := tk } ∧ Fr h₀ L h' (fun y => if y = x then some (.int v t) else m y) ∧ News h₀ L h' news
section
variable {M : Model} {A : Around} {E : Value → Shared → Prop} {Q : Flow → Shared → Prop} {s : Shared} {env : Env} {st : Stmt} {h₀ h' : Heap} {L : Addr} {m : Str → Option Value} {x : Str} {v r : Int} {t : Tok} {news news₁ : List (Addr × Obj)} {tk : Nat}
/-- a statement that stores one int on each of its ways -/
theorem int_cut (x : Str) (v : Int) (F : Fr h₀ L s.heap m) (N : News h₀ L s.heap news) (h1 : wpAny M A (exec st env) (CutEnd (IntMid h₀ L s m x v news)) E s)
    (h2 : ∀ h' tk t, Fr h₀ L h' (fun y => if y = x then some (.int v t) else m y) → News h₀ L h' news → Q .next { s with heap := h', toks := tk }) : wpAny M A (exec st env) Q E s :=
  wpAny_mono h1 (fun f s' h => by
    obtain ⟨rfl, h', tk, t, rfl, F', N'⟩ := h
    exact h2 h' tk t F' N') fun _ _ e => e
theorem int_end1 (F : Fr h₀ L h' (fun y => if y = x then some (.int r t) else m y)) (N : News h₀ L h' news) (e : r = v) : CutEnd (IntMid h₀ L s m x v news) .next { s with heap := h', toks := tk } := by
  subst e
  exact ⟨rfl, h', tk, t, rfl, F, N⟩
theorem int_end0 (F : Fr h₀ L h' m) (N : News h₀ L h' news) (hx : m x = some (.int r t)) (e : r = v) : CutEnd (IntMid h₀ L s m x v news) .next { s with heap := h', toks := tk } := by
  subst e
  refine ⟨rfl, h', tk, t, rfl, ?_, N⟩
  have : m = fun y => if y = x then some (.int r t) else m y := by
    funext y
    split
    · rename_i q; rw [q]; exact hx
    · rfl
  rw [← this]
  exact F
end
end
section
open PySem.Builtin PySem.Builtin.Str
noncomputable def find4 (x y : Str) (i j : Int) : Int := match occurrences x y (fromIndex x.length i) (min (fromIndex x.length j) x.length) 1 with | k :: _ => (k : Int) | [] => -1
noncomputable def rfind4 (x y : Str) (i j : Int) : Int := match lastOccurrence x y (fromIndex x.length i) (min (fromIndex x.length j) x.length) with | some k => (k : Int) | none => -1
theorem gives_find4 (x y : Str) (i j : Int) (t u v z : Tok) : Gives («str.find» ⟨[.str x t, .str y u, .int i v, .int j z], []⟩) (.int (find4 x y i j)) := by
  show Gives (match occurrences x y (fromIndex x.length i) (min (fromIndex x.length j) x.length) 1 with | k :: _ => retInt k | [] => (do rule "str.find.not-found"; retInt (-1))) _
  unfold find4
  cases occurrences x y (fromIndex x.length i) (min (fromIndex x.length j) x.length) 1 with
  | nil => exact .rule (.of_eq rfl)
  | cons k _ => exact .of_eq rfl
theorem gives_rfind4 (x y : Str) (i j : Int) (t u v z : Tok) : Gives («str.rfind» ⟨[.str x t, .str y u, .int i v, .int j z], []⟩) (.int (rfind4 x y i j)) := by
  show Gives (match lastOccurrence x y (fromIndex x.length i) (min (fromIndex x.length j) x.length) with | some k => retInt k | none => (do rule "str.rfind.not-found"; retInt (-1))) _
  unfold rfind4
  cases lastOccurrence x y (fromIndex x.length i) (min (fromIndex x.length j) x.length) with
  | none => exact .rule (.of_eq rfl)
  | some k => exact .of_eq rfl
section
variable {prog : Program} {w : World} {A : Around} {E : Value → Shared → Prop} {s : Shared} {x y : Str} {t u v z : Tok} {i j : Int} {Q : Value → Shared → Prop}
theorem call_find4 (hq : Q (.int (find4 x y i j) s.toks) { s with toks := s.toks + 1 }) : wpAny (model prog w) A (call (.builtin "str.find") [.str x t, .str y u, .int i v, .int j z]) Q E s :=
  call_gives F.slot_str_find (typeIs_str _ _ _) F.entry_str_find (F.args_str_find_4 _ _ _ _) (gives_find4 x y i j t u v z) hq
theorem call_rfind4 (hq : Q (.int (rfind4 x y i j) s.toks) { s with toks := s.toks + 1 }) : wpAny (model prog w) A (call (.builtin "str.rfind") [.str x t, .str y u, .int i v, .int j z]) Q E s :=
  call_gives F.slot_str_rfind (typeIs_str _ _ _) F.entry_str_rfind (F.args_str_rfind_4 _ _ _ _) (gives_rfind4 x y i j t u v z) hq
end
end
section
noncomputable def commentS (x : Str) : Str := if (Txt.rstrip x).length = 0 then Str.ofString "#" else Str.ofString "# " ++ Txt.rstrip x
noncomputable def stripE (x : Str) : Int := if 0 ≤ Txt.find x (Str.ofString "\n") then Txt.find x (Str.ofString "\n") else x.length
noncomputable def stripC (x : Str) : Int := if 0 ≤ find4 x (Str.ofString ":") 0 (stripE x) then find4 x (Str.ofString ":") 0 (stripE x) else stripE x
noncomputable def stripS (x : Str) : Str := Txt.slice x (some (if 0 ≤ rfind4 x (Str.ofString ".") 0 (stripC x) then rfind4 x (Str.ofString ".") 0 (stripC x) + 1 else 0)) (some (stripC x))
theorem comment_does (w : World) (mean mg mb) (x : Str) (hx : x.length ≤ 1000) (t : Tok) (news) : Does 1 8 w mean mg mb 21 [.str x t] [] news (IsS (commentS x) news) := by
  w_top off
  k_with_none
  k_with "ktr_rel" => (first | exact sub_refl _ | assumption | (refine sub_cons ?_; ktr_rel))
  unfold Does; k_fill
  intro dp un gd cn cs a ccd cl outer A₀ base h₀ L m s Q E B F X N T hk hd hu hret
  refine wpAny_call ?_
  k_dflt cell_enter
  k_steps
  · refine ret_S hret (by k_asm) (by k_asm) (by ktr_rel) ?_
    unfold commentS; rw [if_neg (by omega)]
  · refine ret_S hret (by k_asm) (by k_asm) (by ktr_rel) ?_
    unfold commentS; rw [if_pos (by omega)]
theorem stripE_t {x : Str} (h : 0 ≤ Txt.find x (Str.ofString "\n")) : Txt.find x (Str.ofString "\n") = stripE x := (if_pos h).symm
theorem stripE_f {x : Str} (h : ¬ 0 ≤ Txt.find x (Str.ofString "\n")) : (x.length : Int) = stripE x := (if_neg h).symm
theorem stripC_t {x : Str} (h : 0 ≤ find4 x (Str.ofString ":") 0 (stripE x)) : find4 x (Str.ofString ":") 0 (stripE x) = stripC x := (if_pos h).symm
theorem stripC_f {x : Str} (h : ¬ 0 ≤ find4 x (Str.ofString ":") 0 (stripE x)) : stripE x = stripC x := (if_neg h).symm
theorem strip_eq {x : Str} {r : Int} (hr : 0 ≤ Txt.find x (Str.ofString "\n") ∧ r = Txt.find x (Str.ofString "\n") ∨ ¬0 ≤ Txt.find x (Str.ofString "\n") ∧ r = ↑x.length) : r = stripE x := hr.elim (fun h => h.2.trans (stripE_t h.1)) fun h => h.2.trans (stripE_f h.1)
theorem strip_eqC {x : Str} {r : Int} (hr : 0 ≤ find4 x (Str.ofString ":") 0 (stripE x) ∧ r = find4 x (Str.ofString ":") 0 (stripE x) ∨ ¬0 ≤ find4 x (Str.ofString ":") 0 (stripE x) ∧ r = stripE x) : r = stripC x := hr.elim (fun h => h.2.trans (stripC_t h.1)) fun h => h.2.trans (stripC_f h.1)
theorem strip_t {x : Str} (h : 0 ≤ rfind4 x (Str.ofString ".") 0 (stripC x)) : Txt.slice x (some (rfind4 x (Str.ofString ".") 0 (stripC x) + 1)) (some (stripC x)) = stripS x := by unfold stripS; rw [if_pos h]
theorem strip_f {x : Str} (h : ¬ 0 ≤ rfind4 x (Str.ofString ".") 0 (stripC x)) : Txt.slice x (some 0) (some (stripC x)) = stripS x := by unfold stripS; rw [if_neg h]
theorem strip_does (w : World) (mean mg mb) (x : Str) (hx : x.length ≤ 1000) (t : Tok) (news) : Does 1 8 w mean mg mb 28 [.str x t] [] news (IsS (stripS x) news) := by
  w_top off
  k_with_none
  k_with "ktr_rel" => (first | exact sub_refl _ | assumption | (refine sub_cons ?_; ktr_rel))
  k_with "call builtin:str.find" => ((k_here; (with_reducible show wpAny _ _ (call (Value.builtin "str.find") [Value.str _ _, Value.str _ _, Value.int _ _, Value.int _ _]) _ _ _); (refine call_find4 ?_)))
  k_with "call builtin:str.rfind" => ((k_here; (with_reducible show wpAny _ _ (call (Value.builtin "str.rfind") [Value.str _ _, Value.str _ _, Value.int _ _, Value.int _ _]) _ _ _); (refine call_rfind4 ?_)))
  unfold Does; k_fill
  intro dp un gd cn cs a ccd cl outer A₀ base h₀ L m s Q E B F X N T hk hd hu hret
  refine wpAny_call ?_
  k_dflt cell_enter
  k_with "exec If Compare cons nil" => (k_here; (fail_if_success (with_reducible show wpAny _ _ _ (CutEnd _) _ _)); refine stop_in ?_)
  k_steps
  refine stop_out ?_
  (rename Fr _ _ _ _ => lF')
  (rename News _ _ _ _ => lN')
  (with_unfolding_all refine' int_cut (Str.ofString "end") (stripE x) lF' lN' ?ca1 ?cb1)
  case ca1 =>
    k_steps
    all_goals first
      | exact int_end1 (by k_asm) (by k_asm) (strip_eq (by assumption))
      | exact int_end1 (by k_asm) (by k_asm) (stripE_t (by assumption))
      | exact int_end0 (by k_asm) (by k_asm) (by with_unfolding_all rfl) (stripE_f (by assumption))
  clear lF' lN'
  intro h1 tk1 t1 hF1 hN1
  k_steps
  refine stop_out ?_
  (rename Fr _ _ _ _ => lF')
  (rename News _ _ _ _ => lN')
  (with_unfolding_all refine' int_cut (Str.ofString "end") (stripC x) lF' lN' ?ca2 ?cb2)
  case ca2 =>
    k_steps
    all_goals first
      | exact int_end1 (by k_asm) (by k_asm) (strip_eqC (by assumption))
      | exact int_end1 (by k_asm) (by k_asm) (stripC_t (by assumption))
      | exact int_end0 (by k_asm) (by k_asm) (by with_unfolding_all rfl) (stripC_f (by assumption))
  clear lF' lN'
  intro h2 tk2 t2 hF2 hN2
  k_steps
  refine stop_out ?_
  k_with "exec If Compare cons nil" => (fail)
  k_with_none
  k_steps
  all_goals refine ret_S hret (by k_asm) (by k_asm) (by first | exact sub_refl _ | (refine sub_cons ?_; exact sub_refl _)) ?_
  · exact strip_t (by assumption)
  · exact strip_f (by assumption)
end
section
/-- a fresh list of three ints on top of the ledger -/
noncomputable def IsL3 (i j k : Int) (news : List (Addr × Obj)) : Post := fun v n => ∃ (a : Addr) (t1 t2 t3 : Tok), v = .ref a ∧ n = (a, W.listOf #[.int i t1, .int j t2, .int k t3] 0) :: news ∧ ∀ p ∈ news, p.1 < a
noncomputable def IsS4 (x1 x2 x3 x4 : Str) (news : List (Addr × Obj)) : Post := fun v n => ∃ (a : Addr) (t1 t2 t3 t4 : Tok), v = .ref a ∧ n = (a, W.listOf #[.str x1 t1, .str x2 t2, .str x3 t3, .str x4 t4] 0) :: news ∧ ∀ p ∈ news, p.1 < a
theorem ofAllLt {d : Addr} : ∀ {l : List (Addr × Obj)}, AllLt d l → ∀ p ∈ l, p.1 < d
  | [], _, _, h => nomatch h
  | _ :: _, x, p, h => by
    rcases List.mem_cons.mp h with rfl | h
    · exact x.1
    · exact ofAllLt x.2 p h
theorem off_lt {l : List (Addr × Obj)} {L c : Addr} (h : ∀ p ∈ l, p.1 < L) (hc : @LE.le Nat _ L c) : ∀ p ∈ l, p.1 ≠ c := fun p hp => Nat.ne_of_lt (Nat.lt_of_lt_of_le (h p hp) hc)
theorem off_all {l : List (Addr × Obj)} {c : Addr} (h : AllLt c l) : ∀ p ∈ l, p.1 ≠ c := fun p hp => Nat.ne_of_lt (ofAllLt h p hp)
theorem does_use {D U : Nat} {w : World} {mean : ExcName → Option Value} {mg mb : Str → Option Value} {f : Addr} {vs : List Value} {kw : List (Str × Value)} {news : List (Addr × Obj)} {post : Post}
    (C : Does D U w mean mg mb f vs kw news post)
    {dp un : Nat} {gd : Option (List Code)} {cn : Str} {cs : Scope} {a : Addr} {ccd : Value} {cl : List (Str × Addr)} {outer : List Env} {A₀ : Around} {base h₀ : Heap} {L : Addr} {m : Str → Option Value} {s : Shared} {Q E : Value → Shared → Prop}
    (B : Below A₀ base outer h₀) (F : Fr h₀ L s.heap m) (X : (hd.heap_39 w.params).In h₀) (N : News h₀ L s.heap news) (T : Top hd.view_39 LS mean mg mb h₀) (hk : cs.kind = .function)
    (h1 : dp + D < recursionLimit) (h2 : un + U < cLine)
    (ret : ∀ (v : Value) (news' : List (Addr × Obj)) (h' : Heap) (tk' : Nat), Fr h₀ L h' m → News h₀ L h' news' → post v news' → Q v { s with heap := h', toks := tk' }) :
    wpAny (model Challenge.rw_pg0185_01.row.prog w) (ktrTop dp un gd cn cs L a ccd cl outer) (call (.ref f) vs kw) Q E s :=
  C _ _ _ _ _ _ _ _ _ _ _ _ _ _ _ _ _ B F X N T hk h1 h2 ret
section
variable {D U : Nat} {w : World} {mean : ExcName → Option Value} {mg mb : Str → Option Value} {f : Addr} {vs : List Value} {kw : List (Str × Value)} {news : List (Addr × Obj)} {dp un : Nat} {gd : Option (List Code)} {cn : Str} {cs : Scope} {a : Addr} {ccd : Value} {cl : List (Str × Addr)} {outer : List Env} {A₀ : Around} {base h₀ : Heap} {L : Addr} {m : Str → Option Value} {s : Shared} {Q E : Value → Shared → Prop}
theorem does_S {x : Str} (B : Below A₀ base outer h₀) (F : Fr h₀ L s.heap m) (X : (hd.heap_39 w.params).In h₀) (N : News h₀ L s.heap news) (T : Top hd.view_39 LS mean mg mb h₀) (hk : cs.kind = .function) (C : Does D U w mean mg mb f vs kw news (IsS x news))
    (h1 : dp + D < recursionLimit) (h2 : un + U < cLine)
    (ret : ∀ (t : Tok) (h' : Heap) (tk' : Nat), Fr h₀ L h' m → News h₀ L h' (news) → Q (.str x t) { s with heap := h', toks := tk' }) : wpAny (model Challenge.rw_pg0185_01.row.prog w) (ktrTop dp un gd cn cs L a ccd cl outer) (call (.ref f) vs kw) Q E s :=
  does_use C B F X N T hk h1 h2 fun v n h' tk' F' N' hp => by
    obtain ⟨⟨t, rfl⟩, rfl⟩ := hp
    exact ret t h' tk' F' N'
theorem does_I {x : Int} (B : Below A₀ base outer h₀) (F : Fr h₀ L s.heap m) (X : (hd.heap_39 w.params).In h₀) (N : News h₀ L s.heap news) (T : Top hd.view_39 LS mean mg mb h₀) (hk : cs.kind = .function) (C : Does D U w mean mg mb f vs kw news (IsI x news))
    (h1 : dp + D < recursionLimit) (h2 : un + U < cLine)
    (ret : ∀ (t : Tok) (h' : Heap) (tk' : Nat), Fr h₀ L h' m → News h₀ L h' (news) → Q (.int x t) { s with heap := h', toks := tk' }) : wpAny (model Challenge.rw_pg0185_01.row.prog w) (ktrTop dp un gd cn cs L a ccd cl outer) (call (.ref f) vs kw) Q E s :=
  does_use C B F X N T hk h1 h2 fun v n h' tk' F' N' hp => by
    obtain ⟨⟨t, rfl⟩, rfl⟩ := hp
    exact ret t h' tk' F' N'
theorem does_L3 {i j k : Int} (B : Below A₀ base outer h₀) (F : Fr h₀ L s.heap m) (X : (hd.heap_39 w.params).In h₀) (N : News h₀ L s.heap news) (T : Top hd.view_39 LS mean mg mb h₀) (hk : cs.kind = .function) (C : Does D U w mean mg mb f vs kw news (IsL3 i j k news))
    (h1 : dp + D < recursionLimit) (h2 : un + U < cLine)
    (ret : ∀ (b : Addr) (t1 t2 t3 : Tok) (h' : Heap) (tk' : Nat), Fr h₀ L h' m → News h₀ L h' ((b, W.listOf #[.int i t1, .int j t2, .int k t3] 0) :: news) → (∀ p ∈ news, p.1 < b) → Q (.ref b) { s with heap := h', toks := tk' }) : wpAny (model Challenge.rw_pg0185_01.row.prog w) (ktrTop dp un gd cn cs L a ccd cl outer) (call (.ref f) vs kw) Q E s :=
  does_use C B F X N T hk h1 h2 fun v n h' tk' F' N' hp => by
    obtain ⟨b, t1, t2, t3, rfl, rfl, l⟩ := hp
    exact ret b t1 t2 t3 h' tk' F' N' l
theorem does_S4 {x1 x2 x3 x4 : Str} (B : Below A₀ base outer h₀) (F : Fr h₀ L s.heap m) (X : (hd.heap_39 w.params).In h₀) (N : News h₀ L s.heap news) (T : Top hd.view_39 LS mean mg mb h₀) (hk : cs.kind = .function) (C : Does D U w mean mg mb f vs kw news (IsS4 x1 x2 x3 x4 news))
    (h1 : dp + D < recursionLimit) (h2 : un + U < cLine)
    (ret : ∀ (b : Addr) (t1 t2 t3 t4 : Tok) (h' : Heap) (tk' : Nat), Fr h₀ L h' m → News h₀ L h' ((b, W.listOf #[.str x1 t1, .str x2 t2, .str x3 t3, .str x4 t4] 0) :: news) → (∀ p ∈ news, p.1 < b) → Q (.ref b) { s with heap := h', toks := tk' }) : wpAny (model Challenge.rw_pg0185_01.row.prog w) (ktrTop dp un gd cn cs L a ccd cl outer) (call (.ref f) vs kw) Q E s :=
  does_use C B F X N T hk h1 h2 fun v n h' tk' F' N' hp => by
    obtain ⟨b, t1, t2, t3, t4, rfl, rfl, l⟩ := hp
    exact ret b t1 t2 t3 t4 h' tk' F' N' l
end
noncomputable def rd (x : Int) : Int := (x.fdiv 81).fmod 9
noncomputable def gn (x : Int) : Int := (x.fdiv 9).fmod 9
noncomputable def bl (x : Int) : Int := x.fmod 9
theorem rd_in (x : Int) : 0 ≤ rd x ∧ rd x ≤ 8 := by
  have a := Int.fmod_nonneg_of_pos (x.fdiv 81) (b := 9) (by omega)
  have b := Int.fmod_lt_of_pos (x.fdiv 81) (b := 9) (by omega)
  unfold rd; omega
theorem gn_in (x : Int) : 0 ≤ gn x ∧ gn x ≤ 8 := by
  have a := Int.fmod_nonneg_of_pos (x.fdiv 9) (b := 9) (by omega)
  have b := Int.fmod_lt_of_pos (x.fdiv 9) (b := 9) (by omega)
  unfold gn; omega
theorem bl_in (x : Int) : 0 ≤ bl x ∧ bl x ≤ 8 := by
  have a := Int.fmod_nonneg_of_pos x (b := 9) (by omega)
  have b := Int.fmod_lt_of_pos x (b := 9) (by omega)
  unfold bl; omega
noncomputable def hiI (x : Int) : Int := max (rd x) (max (gn x) (bl x))
noncomputable def loI (x : Int) : Int := min (rd x) (min (gn x) (bl x))
theorem hi_in (x : Int) : 0 ≤ hiI x ∧ hiI x ≤ 8 := ⟨Int.le_trans (rd_in x).1 (Int.le_max_left _ _), Int.max_le.mpr ⟨(rd_in x).2, Int.max_le.mpr ⟨(gn_in x).2, (bl_in x).2⟩⟩⟩
theorem lo_in (x : Int) : 0 ≤ loI x ∧ loI x ≤ hiI x := ⟨Int.le_min.mpr ⟨(rd_in x).1, Int.le_min.mpr ⟨(gn_in x).1, (bl_in x).1⟩⟩, Int.le_trans (Int.min_le_left _ _) (Int.le_max_left _ _)⟩
theorem max3_eq {x M : Int} (a : M = rd x ∨ M = gn x ∨ M = bl x) (b : rd x ≤ M ∧ gn x ≤ M ∧ bl x ≤ M) : M = hiI x :=
  Int.le_antisymm (a.elim (fun e => e ▸ Int.le_max_left _ _) fun a => a.elim (fun e => e ▸ Int.le_trans (Int.le_max_left _ _) (Int.le_max_right _ _)) fun e => e ▸ Int.le_trans (Int.le_max_right _ _) (Int.le_max_right _ _)) (Int.max_le.mpr ⟨b.1, Int.max_le.mpr ⟨b.2.1, b.2.2⟩⟩)
theorem min3_eq {x M : Int} (a : M = rd x ∨ M = gn x ∨ M = bl x) (b : M ≤ rd x ∧ M ≤ gn x ∧ M ≤ bl x) : M = loI x :=
  Int.le_antisymm (Int.le_min.mpr ⟨b.1, Int.le_min.mpr ⟨b.2.1, b.2.2⟩⟩) (a.elim (fun e => e ▸ Int.min_le_left _ _) fun a => a.elim (fun e => e ▸ Int.le_trans (Int.min_le_right _ _) (Int.min_le_left _ _)) fun e => e ▸ Int.le_trans (Int.min_le_right _ _) (Int.min_le_right _ _))
noncomputable def shareOf (h l : Int) : Int := (840 * (h - l)).fdiv (if h > 1 then h else 1)
noncomputable def shareI (x : Int) : Int := shareOf (hiI x) (loI x)
theorem shareOf_in : ∀ h < 9, ∀ l < 9, l ≤ h → 0 ≤ shareOf (Int.ofNat h) (Int.ofNat l) ∧ shareOf (Int.ofNat h) (Int.ofNat l) ≤ 840 := by decide +kernel
theorem share_in (x : Int) : 0 ≤ shareI x ∧ shareI x ≤ 840 := by
  have a := hi_in x; have b := lo_in x
  have := shareOf_in (hiI x).toNat (by omega) (loI x).toNat (by omega) (by omega)
  rw [show Int.ofNat (hiI x).toNat = hiI x from Int.toNat_of_nonneg a.1, show Int.ofNat (loI x).toNat = loI x from Int.toNat_of_nonneg b.1] at this
  exact this
theorem share_step {prog : Program} {w : World} {A : Around} {E : Value → Shared → Prop} {s : Shared} {x : Int} {t u : Tok} {Q : Value → Shared → Prop} (h : Q (.int (shareI x) s.toks) { s with toks := s.toks + 1 }) :
    wpAny (model prog w) A (binaryOp .FloorDiv (.int (840 * (hiI x - loI x)) t) (.int (if hiI x > 1 then hiI x else 1) u)) Q E s := by
  have a := hi_in x; have b := lo_in x
  refine floordiv_int ?_ h
  split <;> omega
theorem colour_does (w : World) (mean mg mb) (x : Int) (t : Tok) (news) : Does 1 8 w mean mg mb 85 [.int x t] [] news (IsL3 (rd x) (gn x) (bl x) news) := by
  w_top off
  k_with_none
  k_with "ktr_rel" => (first | exact sub_refl _ | assumption | (refine sub_cons ?_; ktr_rel))
  unfold Does; k_fill
  intro dp un gd cn cs a ccd cl outer A₀ base h₀ L m s Q E B F X N T hk hd hu hret
  refine wpAny_call ?_
  k_dflt cell_enter
  k_steps
  exact hret _ _ _ _ (by k_asm) (by k_asm) ⟨_, _, _, _, rfl, rfl, by assumption⟩
noncomputable def pathS (x : Int) : Str := [Str.ofString "", Str.ofString ".", Str.ofString " .", Str.ofString "p.q."].getD ((x.fdiv 729).fmod 4).toNat Str.empty
noncomputable def gapS (x : Int) : Str := Txt.mul (Str.ofString " ") (((x.fdiv 729).fdiv 4).fmod 3)
noncomputable def markS (x : Int) : Str := [Str.ofString ":", Str.ofString "\n", Str.ofString "\n:", Str.ofString ":\n"].getD (((x.fdiv 729).fdiv 12).fmod 4).toNat Str.empty
noncomputable def endS (x : Int) : Str := [Str.ofString "", Str.ofString " ", Str.ofString "\n\t ", Str.ofString " \u00a0\u001c"].getD (((x.fdiv 729).fdiv 48).fmod 4).toNat Str.empty
theorem parts_does (w : World) (mean mg mb) (x : Int) (h0 : 0 ≤ x) (h1 : x < 1000000) (t : Tok) (news) : Does 1 8 w mean mg mb 92 [.int x t] [] news (IsS4 (pathS x) (gapS x) (markS x) (endS x) news) := by
  w_top off
  k_with_none
  k_with "ktr_rel" => (first | exact sub_refl _ | assumption | (refine sub_cons ?_; ktr_rel))
  unfold Does; k_fill
  intro dp un gd cn cs a ccd cl outer A₀ base h₀ L m s Q E B F X N T hk hd hu hret
  refine wpAny_call ?_
  k_dflt cell_enter
  k_with "table" => skip
  k_steps
  (rename News h₀ L _ _ => kN)
  (rename (_ ∧ _ ∧ _ ∧ AllLt _ news) => hl)
  exact hret _ _ _ _ (by k_asm) (fun p hp => kN p (by rcases List.mem_cons.mp hp with rfl | hp; exact List.mem_cons_self; exact .tail _ (.tail _ (.tail _ (.tail _ hp))))) ⟨_, _, _, _, _, rfl, rfl, ofAllLt hl.2.2.2⟩
theorem pathS_le (x : Int) : (pathS x).length ≤ 4 := by
  unfold pathS
  generalize ((x.fdiv 729).fmod 4).toNat = k
  match k with
  | 0 | 1 | 2 | 3 => decide +kernel
  | k + 4 => show 0 ≤ 4; omega
theorem markS_le (x : Int) : (markS x).length ≤ 4 := by
  unfold markS
  generalize (((x.fdiv 729).fdiv 12).fmod 4).toNat = k
  match k with
  | 0 | 1 | 2 | 3 => decide +kernel
  | k + 4 => show 0 ≤ 4; omega
theorem endS_le (x : Int) : (endS x).length ≤ 4 := by
  unfold endS
  generalize (((x.fdiv 729).fdiv 48).fmod 4).toNat = k
  match k with
  | 0 | 1 | 2 | 3 => decide +kernel
  | k + 4 => show 0 ≤ 4; omega
theorem gapS_le (x : Int) : (gapS x).length ≤ 4 := by
  unfold gapS
  have h0 := Int.fmod_nonneg_of_pos ((x.fdiv 729).fdiv 4) (b := 3) (by omega)
  have h1 := Int.fmod_lt_of_pos ((x.fdiv 729).fdiv 4) (b := 3) (by omega)
  generalize ((x.fdiv 729).fdiv 4).fmod 3 = k at h0 h1
  have : k = 0 ∨ k = 1 ∨ k = 2 := by omega
  rcases this with rfl | rfl | rfl <;> decide +kernel
end
section
noncomputable def writeS (x : Int) (hue : Str) (share value : Int) : Str :=
  if value = 0 then (if (endS x != Str.ofString "") = true then endS x else Str.ofString ":")
  else pathS x ++ hue ++ gapS x ++ markS x ++ Str.ofString (toString share) ++ Str.ofString "." ++ Str.ofString (toString value) ++ endS x
theorem write_does (w : World) (mean mg mb) (x : Int) (h0 : 0 ≤ x) (h1 : x < 1000000) (hue : Str) (hh : hue.length ≤ 4) (share : Int) (hs0 : 0 ≤ share) (hs1 : share ≤ 840) (value : Int) (hv0 : 0 ≤ value) (hv1 : value ≤ 8) (t u v z : Tok) (news) :
    Does 2 16 w mean mg mb 99 [.int x t, .str hue u, .int share v, .int value z] [] news (IsS (writeS x hue share value) news) := by
  have hp := pathS_le x; have hg := gapS_le x; have hm := markS_le x; have he := endS_le x
  w_top off
  k_with_none
  k_with "ktr_rel" => (first | exact sub_refl _ | assumption | (refine sub_cons ?_; ktr_rel))
  k_with "k_mem" => (first | assumption | exact List.Mem.head _ | (refine List.Mem.tail _ ?_; k_mem))
  k_with "k_all" => (first | assumption | exact off_lt (by assumption) (by omega) | ((rename (_ ∧ _ ∧ AllLt _ _) => hl9); exact off_all hl9.2.2) | exact List.forall_mem_nil _ | (refine List.forall_mem_cons.mpr ⟨by first | assumption | exact Ne.symm (by assumption) | k_ne, ?_⟩; k_all))
  k_with "call ref" => ((k_here; (with_reducible show wpAny _ _ (call (Value.ref 92) [Value.int _ _] _) _ _ _); k_dflt (refine does_S4 (by k_asm) (by k_asm) (by k_asm) (by k_asm) (by k_asm) (by first | exact rfl | assumption) (parts_does _ _ _ _ _ (by assumption) (by assumption) _ _) (by ktr_room) (by ktr_units) ?_); intro a9 t1 t2 t3 t4 h9 tk9 F9 N9 l9; (try dsimp only); (try k_fold)))
  k_with "binaryOp Add str str" => ((k_here; (with_reducible show wpAny _ _ (binaryOp Operator.Add (Value.str _ _) (Value.str _ _)) _ _ _); (refine add_str (hsz := by (simp only [Str.length_append, sizeLine_eq]; omega)) ?_); intro _ _))
  unfold Does; k_fill
  intro dp un gd cn cs a ccd cl outer A₀ base h₀ L m s Q E B F X N T hk hd hu hret
  refine wpAny_call ?_
  k_dflt cell_enter
  k_steps
  all_goals refine ret_S hret (by k_asm) (by k_asm) (by ktr_rel) ?_
  · unfold writeS; rw [if_pos (by assumption), if_pos (by assumption)]
  · unfold writeS; rw [if_pos (by assumption), if_neg (by rename ((endS x != _) = false) => q; rw [q]; exact Bool.false_ne_true)]
  · unfold writeS; rw [if_neg (by assumption)]
theorem writeS_le (x : Int) (hue : Str) (hh : hue.length ≤ 4) (share : Int) (hs0 : 0 ≤ share) (hs1 : share ≤ 840) (value : Int) (hv0 : 0 ≤ value) (hv1 : value ≤ 8) : (writeS x hue share value).length ≤ 40 := by
  have hp := pathS_le x; have hg := gapS_le x; have hm := markS_le x; have he := endS_le x
  unfold writeS
  split
  · split
    · omega
    · decide +kernel
  · have a : (Str.ofString (toString share)).length ≤ 5 := by rw [PySem.ofString_length]; exact PySem.int_text_length_le10 (by omega) (by omega)
    have b : (Str.ofString (toString value)).length ≤ 5 := by rw [PySem.ofString_length]; exact PySem.int_text_length_le10 (by omega) (by omega)
    have c : (Str.ofString ".").length = 1 := by decide +kernel
    simp only [Str.length_append]
    omega
noncomputable def dueLineS (x : Int) (hue : Str) (c : Int) : Str :=
  if c = 0 then writeS x hue (shareI x) (hiI x)
  else if (writeS x hue (shareI x) (hiI x) == Str.ofString ":") = true then Txt.mul (Str.ofString "# ") c ++ Str.ofString ":"
  else if hiI x = 0 then Txt.mul (Str.ofString "# ") (c - 1) ++ Str.ofString "#"
  else Txt.mul (Str.ofString "# ") c ++ Txt.slice (writeS x hue (shareI x) (hiI x)) none (some (((writeS x hue (shareI x) (hiI x)).length : Int) - ((endS x).length : Int)))
theorem eq_ff {b : Bool} (h : b = false) : ¬ b = true := by rw [h]; exact Bool.false_ne_true
theorem dueLine_does (w : World) (mean mg mb) (x : Int) (h0 : 0 ≤ x) (h1 : x < 1000000) (hue : Str) (hh : hue.length ≤ 4) (c : Int) (hc0 : 0 ≤ c) (hc1 : c ≤ 8) (t u v : Tok) (news) : Does 3 24 w mean mg mb 121 [.int x t, .str hue u, .int c v] [] news (IsS (dueLineS x hue c) news) := by
  have hi := hi_in x; have hl := lo_in x; have hsh := share_in x; have he := endS_le x
  have hwl := writeS_le x hue hh (shareI x) hsh.1 hsh.2 (hiI x) hi.1 hi.2
  w_top off
  k_with_none
  k_with "ktr_rel" => (first | exact sub_refl _ | assumption | (refine sub_cons ?_; ktr_rel))
  k_with "k_mem" => (first | assumption | exact List.Mem.head _ | (refine List.Mem.tail _ ?_; k_mem))
  k_with "k_all" => (first | assumption | exact off_lt (by assumption) (by omega) | ((rename (_ ∧ _ ∧ AllLt _ _) => hl9); exact off_all hl9.2.2) | exact List.forall_mem_nil _ | (refine List.forall_mem_cons.mpr ⟨by first | assumption | exact Ne.symm (by assumption) | k_ne, ?_⟩; k_all))
  k_with "call ref" => ((k_here; (with_reducible show wpAny _ _ (call (Value.ref 92) [Value.int _ _] _) _ _ _); k_dflt (refine does_S4 (by k_asm) (by k_asm) (by k_asm) (by k_asm) (by k_asm) (by first | exact rfl | assumption) (parts_does _ _ _ _ _ (by assumption) (by assumption) _ _) (by ktr_room) (by ktr_units) ?_); intro a9 t1 t2 t3 t4 h9 tk9 F9 N9 l9; (try dsimp only); (try k_fold)))
  k_with "binaryOp Add str str" => ((k_here; (with_reducible show wpAny _ _ (binaryOp Operator.Add (Value.str _ _) (Value.str _ _)) _ _ _); (refine add_str (hsz := by (simp only [Str.length_append, sizeLine_eq]; omega)) ?_); intro _ _))
  k_with "call ref" => ((k_here; (with_reducible show wpAny _ _ (call (Value.ref 99) [Value.int _ _, Value.str _ _, Value.int _ _, Value.int _ _] _) _ _ _); k_dflt (refine does_S (by k_asm) (by k_asm) (by k_asm) (by k_asm) (by k_asm) (by first | exact rfl | assumption) (write_does _ _ _ _ _ (by assumption) (by assumption) _ (by assumption) _ (by first | with_reducible assumption | with_reducible exact And.left (by assumption) | with_reducible exact And.right (by assumption) | with_reducible exact Int.ofNat_lt.mp (by assumption) | omega) (by first | with_reducible assumption | with_reducible exact And.left (by assumption) | with_reducible exact And.right (by assumption) | with_reducible exact Int.ofNat_lt.mp (by assumption) | omega) _ (by first | with_reducible assumption | with_reducible exact And.left (by assumption) | with_reducible exact And.right (by assumption) | with_reducible exact Int.ofNat_lt.mp (by assumption) | omega) (by first | with_reducible assumption | with_reducible exact And.left (by assumption) | with_reducible exact And.right (by assumption) | with_reducible exact Int.ofNat_lt.mp (by assumption) | omega) _ _ _ _ _) (by ktr_room) (by ktr_units) ?_); intro t9 h9 tk9 F9 N9; (try dsimp only); (try k_fold)))
  k_with "call ref" => ((k_here; (with_reducible show wpAny _ _ (call (Value.ref 85) [Value.int _ _] _) _ _ _); k_dflt (refine does_L3 (by k_asm) (by k_asm) (by k_asm) (by k_asm) (by k_asm) (by first | exact rfl | assumption) (colour_does _ _ _ _ _ _ _) (by ktr_room) (by ktr_units) ?_); intro a9 t1 t2 t3 h9 tk9 F9 N9 l9; (try dsimp only); (try k_fold)))
  k_with "call builtin:max" => ((k_here; (with_reducible show wpAny _ _ (call (Value.builtin _) [Value.ref _]) _ _ _); (with_unfolding_all refine kso_max (by k_asm) (by k_asm) (by kso_list) (by l_ints) (by kso_len) (by with_unfolding_all rfl) ?_; k_whole); intro h' M' t' k' F' N' a' b'; (try kso_open a'); (try kso_open b'); (have e' := max3_eq a' b'); subst e'; (clear a' b'); (try k_sweep)))
  k_with "call builtin:min" => ((k_here; (with_reducible show wpAny _ _ (call (Value.builtin _) [Value.ref _]) _ _ _); (with_unfolding_all refine kso_min (by k_asm) (by k_asm) (by kso_list) (by l_ints) (by kso_len) (by with_unfolding_all rfl) ?_; k_whole); intro h' M' t' k' F' N' a' b'; (try kso_open a'); (try kso_open b'); (have e' := min3_eq a' b'); subst e'; (clear a' b'); (try k_sweep)))
  k_with "binaryOp FloorDiv int int" => ((k_here; (with_reducible refine share_step ?_)))
  unfold Does; k_fill
  intro dp un gd cn cs a ccd cl outer A₀ base h₀ L m s Q E B F X N T hk hd hu hret
  refine wpAny_call ?_
  k_dflt cell_enter
  k_steps
  all_goals refine ret_S hret (by k_asm) (by k_asm) (by ktr_rel) ?_
  all_goals unfold dueLineS
  · rw [if_pos (by assumption)]
  · rw [if_neg (by assumption), if_pos (by assumption)]
  · rw [if_neg (by assumption), if_neg (eq_ff (by assumption)), if_pos (by assumption)]
  · rw [if_neg (by assumption), if_neg (eq_ff (by assumption)), if_neg (by assumption)]
theorem mul_len0 : ∀ c < 9, (Txt.mul (Str.ofString "# ") (Int.ofNat c)).length ≤ 16 := by decide +kernel
theorem mul_len (c : Int) (h0 : 0 ≤ c) (h1 : c ≤ 8) : (Txt.mul (Str.ofString "# ") c).length ≤ 16 := by
  have e := mul_len0 c.toNat (by omega)
  rwa [show Int.ofNat c.toNat = c from Int.toNat_of_nonneg h0] at e
theorem dueLineS_le (x : Int) (hue : Str) (hh : hue.length ≤ 4) (c : Int) (hc0 : 0 ≤ c) (hc1 : c ≤ 8) : (dueLineS x hue c).length ≤ 60 := by
  have hi := hi_in x; have hsh := share_in x
  have hwl := writeS_le x hue hh (shareI x) hsh.1 hsh.2 (hiI x) hi.1 hi.2
  have hm := mul_len c hc0 hc1
  have e1 : (Str.ofString "#").length = 1 := by decide +kernel
  have e2 : (Str.ofString ":").length = 1 := by decide +kernel
  unfold dueLineS
  split
  · omega
  · have hm' := mul_len (c - 1) (by omega) (by omega)
    split
    · rw [Str.length_append]; omega
    · split
      · rw [Str.length_append]; omega
      · rw [Str.length_append]
        have := Txt.slice_le (writeS x hue (shareI x) (hiI x)) none (some (((writeS x hue (shareI x) (hiI x)).length : Int) - ((endS x).length : Int)))
        omega
end
section
noncomputable def firstS (x y : Str) : Str := (Txt.split x y).getD 0 Str.empty
noncomputable def dueNameS (x : Int) (hue : Str) (c : Int) : Str :=
  if hiI x = 0 then firstS (firstS (dueLineS x hue c) (Str.ofString "\n")) (Str.ofString ":")
  else (if (pathS x == Str.ofString "") = true then Txt.mul (Str.ofString "# ") c else Str.ofString "") ++ hue ++ gapS x
theorem first_of {x y z : Str} {l : List Str} (e : l = Txt.split x y) (h : l[Int.toNat 0]? = some z) : z = firstS x y := by
  unfold firstS
  rw [← e, List.getD_eq_getElem?_getD]
  have h' : l[0]? = some z := h
  rw [h']
  rfl
theorem dueName_does (w : World) (mean mg mb) (x : Int) (h0 : 0 ≤ x) (h1 : x < 1000000) (hue : Str) (hh : hue.length ≤ 4) (c : Int) (hc0 : 0 ≤ c) (hc1 : c ≤ 8) (t u v : Tok) (news) : Does 4 32 w mean mg mb 128 [.int x t, .str hue u, .int c v] [] news (IsS (dueNameS x hue c) news) := by
  have hi := hi_in x; have hl := lo_in x; have hsh := share_in x; have hp := pathS_le x; have hg := gapS_le x
  have hwl := dueLineS_le x hue hh c hc0 hc1
  w_top off
  k_with_none
  k_with "ktr_rel" => (first | exact sub_refl _ | assumption | (refine sub_cons ?_; ktr_rel))
  k_with "k_mem" => (first | assumption | exact List.Mem.head _ | (refine List.Mem.tail _ ?_; k_mem))
  k_with "k_all" => (first | assumption | exact off_lt (by assumption) (by omega) | ((rename (_ ∧ _ ∧ AllLt _ _) => hl9); exact off_all hl9.2.2) | exact List.forall_mem_nil _ | (refine List.forall_mem_cons.mpr ⟨by first | assumption | exact Ne.symm (by assumption) | k_ne, ?_⟩; k_all))
  k_with "call ref" => ((k_here; (with_reducible show wpAny _ _ (call (Value.ref 92) [Value.int _ _] _) _ _ _); k_dflt (refine does_S4 (by k_asm) (by k_asm) (by k_asm) (by k_asm) (by k_asm) (by first | exact rfl | assumption) (parts_does _ _ _ _ _ (by assumption) (by assumption) _ _) (by ktr_room) (by ktr_units) ?_); intro a9 t1 t2 t3 t4 h9 tk9 F9 N9 l9; (try dsimp only); (try k_fold)))
  k_with "binaryOp Add str str" => ((k_here; (with_reducible show wpAny _ _ (binaryOp Operator.Add (Value.str _ _) (Value.str _ _)) _ _ _); (refine add_str (hsz := by (simp only [Str.length_append, sizeLine_eq]; omega)) ?_); intro _ _))
  k_with "call ref" => ((k_here; (with_reducible show wpAny _ _ (call (Value.ref 99) [Value.int _ _, Value.str _ _, Value.int _ _, Value.int _ _] _) _ _ _); k_dflt (refine does_S (by k_asm) (by k_asm) (by k_asm) (by k_asm) (by k_asm) (by first | exact rfl | assumption) (write_does _ _ _ _ _ (by assumption) (by assumption) _ (by assumption) _ (by first | with_reducible assumption | with_reducible exact And.left (by assumption) | with_reducible exact And.right (by assumption) | with_reducible exact Int.ofNat_lt.mp (by assumption) | omega) (by first | with_reducible assumption | with_reducible exact And.left (by assumption) | with_reducible exact And.right (by assumption) | with_reducible exact Int.ofNat_lt.mp (by assumption) | omega) _ (by first | with_reducible assumption | with_reducible exact And.left (by assumption) | with_reducible exact And.right (by assumption) | with_reducible exact Int.ofNat_lt.mp (by assumption) | omega) (by first | with_reducible assumption | with_reducible exact And.left (by assumption) | with_reducible exact And.right (by assumption) | with_reducible exact Int.ofNat_lt.mp (by assumption) | omega) _ _ _ _ _) (by ktr_room) (by ktr_units) ?_); intro t9 h9 tk9 F9 N9; (try dsimp only); (try k_fold)))
  k_with "call ref" => ((k_here; (with_reducible show wpAny _ _ (call (Value.ref 85) [Value.int _ _] _) _ _ _); k_dflt (refine does_L3 (by k_asm) (by k_asm) (by k_asm) (by k_asm) (by k_asm) (by first | exact rfl | assumption) (colour_does _ _ _ _ _ _ _) (by ktr_room) (by ktr_units) ?_); intro a9 t1 t2 t3 h9 tk9 F9 N9 l9; (try dsimp only); (try k_fold)))
  k_with "call builtin:max" => ((k_here; (with_reducible show wpAny _ _ (call (Value.builtin _) [Value.ref _]) _ _ _); (with_unfolding_all refine kso_max (by k_asm) (by k_asm) (by kso_list) (by l_ints) (by kso_len) (by with_unfolding_all rfl) ?_; k_whole); intro h' M' t' k' F' N' a' b'; (try kso_open a'); (try kso_open b'); (have e' := max3_eq a' b'); subst e'; (clear a' b'); (try k_sweep)))
  k_with "call builtin:min" => ((k_here; (with_reducible show wpAny _ _ (call (Value.builtin _) [Value.ref _]) _ _ _); (with_unfolding_all refine kso_min (by k_asm) (by k_asm) (by kso_list) (by l_ints) (by kso_len) (by with_unfolding_all rfl) ?_; k_whole); intro h' M' t' k' F' N' a' b'; (try kso_open a'); (try kso_open b'); (have e' := min3_eq a' b'); subst e'; (clear a' b'); (try k_sweep)))
  k_with "binaryOp FloorDiv int int" => ((k_here; (with_reducible refine share_step ?_)))
  k_with "call ref" => ((k_here; (with_reducible show wpAny _ _ (call (Value.ref 121) [Value.int _ _, Value.str _ _, Value.int _ _] _) _ _ _); k_dflt (refine does_S (by k_asm) (by k_asm) (by k_asm) (by k_asm) (by k_asm) (by first | exact rfl | assumption) (dueLine_does _ _ _ _ _ (by assumption) (by assumption) _ (by assumption) _ (by first | with_reducible assumption | with_reducible exact And.left (by assumption) | with_reducible exact And.right (by assumption) | with_reducible exact Int.ofNat_lt.mp (by assumption) | omega) (by first | with_reducible assumption | with_reducible exact And.left (by assumption) | with_reducible exact And.right (by assumption) | with_reducible exact Int.ofNat_lt.mp (by assumption) | omega) _ _ _ _) (by ktr_room) (by ktr_units) ?_); intro t9 h9 tk9 F9 N9; (try dsimp only); (try k_fold)))
  unfold Does; k_fill
  intro dp un gd cn cs a ccd cl outer A₀ base h₀ L m s Q E B F X N T hk hd hu hret
  refine wpAny_call ?_
  k_dflt cell_enter
  k_steps
  · (rename (∀ a ∈ _, Str.length _ ≤ _) => hA)
    (rename (List.map _ _ = Txt.split _ _) => hS)
    (rename (List.map _ _)[_]? = some _ => hY)
    have hy := Nat.le_trans (hA _ (List.mem_of_getElem? hY)) hwl
    have e1 := first_of hS hY
    clear hA hS hY
    subst e1
    k_steps
    (rename (List.map _ _ = Txt.split _ _) => hS)
    (rename (List.map _ _)[_]? = some _ => hY)
    have e1 := first_of hS hY
    refine ret_S hret (by k_asm) (by k_asm) (by ktr_rel) ?_
    unfold dueNameS
    rw [if_pos (by assumption)]
    exact e1
  · refine ret_S hret (by k_asm) (by k_asm) (by ktr_rel) ?_
    unfold dueNameS
    rw [if_neg (by assumption), if_pos (by assumption)]
  · refine ret_S hret (by k_asm) (by k_asm) (by ktr_rel) ?_
    unfold dueNameS
    rw [if_neg (by assumption), if_neg (eq_ff (by assumption))]
end
section
theorem upTo8 {P : Int → Prop} (h : ∀ n < 9, P (Int.ofNat n)) (i : Int) (h0 : 0 ≤ i) (h1 : i ≤ 8) : P i := by
  have := h i.toNat (by omega)
  rwa [show Int.ofNat i.toNat = i from Int.toNat_of_nonneg h0] at this
/-- i / d as the model has it -/
noncomputable def fr (i d : Int) : UInt64 := Float64.ofFrac (decide (i < 0) != decide (d < 0)) i.natAbs d.natAbs
noncomputable def e8 (i : Int) : UInt64 := fr i 8
noncomputable def mx3 (i j k : Int) : Int := max i (max j k)
noncomputable def mn3 (i j k : Int) : Int := min i (min j k)
theorem mx3_if (i j k : Int) : mx3 i j k = if i < j then (if j < k then k else j) else (if i < k then k else i) := by
  unfold mx3
  by_cases h : i < j
  · rw [if_pos h]
    by_cases h2 : j < k
    · rw [if_pos h2, Int.max_eq_right (Int.le_of_lt h2), Int.max_eq_right (Int.le_of_lt (Int.lt_trans h h2))]
    · rw [if_neg h2, Int.max_eq_left (Int.not_lt.mp h2), Int.max_eq_right (Int.le_of_lt h)]
  · rw [if_neg h]
    by_cases h2 : i < k
    · rw [if_pos h2, Int.max_eq_right (Int.le_of_lt (Int.lt_of_le_of_lt (Int.not_lt.mp h) h2)), Int.max_eq_right (Int.le_of_lt h2)]
    · rw [if_neg h2]; exact Int.max_eq_left (Int.max_le.mpr ⟨Int.not_lt.mp h, Int.not_lt.mp h2⟩)
theorem mn3_if (i j k : Int) : mn3 i j k = if j < i then (if k < j then k else j) else (if k < i then k else i) := by
  unfold mn3
  by_cases h : j < i
  · rw [if_pos h]
    by_cases h2 : k < j
    · rw [if_pos h2, Int.min_eq_right (Int.le_of_lt h2), Int.min_eq_right (Int.le_of_lt (Int.lt_trans h2 h))]
    · rw [if_neg h2, Int.min_eq_left (Int.not_lt.mp h2), Int.min_eq_right (Int.le_of_lt h)]
  · rw [if_neg h]
    by_cases h2 : k < i
    · rw [if_pos h2, Int.min_eq_right (Int.le_of_lt (Int.lt_of_lt_of_le h2 (Int.not_lt.mp h))), Int.min_eq_right (Int.le_of_lt h2)]
    · rw [if_neg h2]; exact Int.min_eq_left (Int.le_min.mpr ⟨Int.not_lt.mp h, Int.not_lt.mp h2⟩)
noncomputable def dv (a b : Int) : UInt64 := Float64.div (e8 a) (e8 b)
theorem e8_cmp : ∀ a < 9, ∀ b < 9, (Float64.cmp (e8 (Int.ofNat a)) (e8 (Int.ofNat b)) == some .lt) = decide (Int.ofNat a < Int.ofNat b) ∧ (Float64.cmp (e8 (Int.ofNat a)) (e8 (Int.ofNat b)) == some .eq) = decide (Int.ofNat a = Int.ofNat b) ∧ Float64.isZero (e8 (Int.ofNat a)) = decide (Int.ofNat a = 0) := by decide +kernel
theorem e8_subs : ∀ a < 9, ∀ b < 9, Int.ofNat b ≤ Int.ofNat a → Float64.sub (e8 (Int.ofNat a)) (e8 (Int.ofNat b)) = e8 (Int.ofNat a - Int.ofNat b) := by decide +kernel
noncomputable def In8 (i : Int) : Prop := 0 ≤ i ∧ i ≤ 8
theorem in8_nat {a : Int} (h0 : 0 ≤ a) (h1 : a ≤ 8) : ∃ n, n < 9 ∧ a = Int.ofNat n := ⟨a.toNat, by omega, (Int.toNat_of_nonneg h0).symm⟩
theorem e8_lt {a b : Int} (ha : In8 a) (hb : In8 b) : (Float64.cmp (e8 a) (e8 b) == some .lt) = decide (a < b) := by
  obtain ⟨n, hn, rfl⟩ := in8_nat ha.1 ha.2
  obtain ⟨k, hk, rfl⟩ := in8_nat hb.1 hb.2
  exact (e8_cmp n hn k hk).1
theorem e8_eq {a b : Int} (ha : In8 a) (hb : In8 b) : (Float64.cmp (e8 a) (e8 b) == some .eq) = decide (a = b) := by
  obtain ⟨n, hn, rfl⟩ := in8_nat ha.1 ha.2
  obtain ⟨k, hk, rfl⟩ := in8_nat hb.1 hb.2
  exact (e8_cmp n hn k hk).2.1
theorem e8_zero {a : Int} (ha : In8 a) : Float64.isZero (e8 a) = decide (a = 0) := by
  obtain ⟨n, hn, rfl⟩ := in8_nat ha.1 ha.2
  exact (e8_cmp n hn n hn).2.2
theorem e8_sub {a b : Int} (ha : a ≤ 8) (hb : 0 ≤ b) (h : b ≤ a) : Float64.sub (e8 a) (e8 b) = e8 (a - b) := by
  obtain ⟨n, hn, rfl⟩ := in8_nat (Int.le_trans hb h) ha
  obtain ⟨k, hk, rfl⟩ := in8_nat hb (Int.le_trans h ha)
  exact e8_subs n hn k hk h
section
variable {prog : Program} {w : World} {A : Around} {E : Value → Shared → Prop} {s : Shared} {Q : Value → Shared → Prop} {h₀ : Heap} {L : Addr} {m : Str → Option Value} {news : List (Addr × Obj)}
theorem fr_finite {a b : Int} (hA : A.handled = none) (ha : a.natAbs < 1000000) (hb : 0 < b) (t u : Tok) (h : Q (.float (fr a b) s.toks) { s with toks := s.toks + 1 }) : wpAny (model prog w) A (binaryOp .Div (.int a t) (.int b u)) Q E s := by
  refine PySem.Flt.div_ii_fits hA (Nat.lt_of_lt_of_le ha (Nat.le_trans (by decide : 1000000 ≤ 2 ^ 20) (Nat.pow_le_pow_right (by decide) (by decide)))) (fun e => by omega) (fun _ _ => ?_)
  exact h
/-- the greatest of three numbers, by two looks -/
theorem ltV_e8 {i j : Int} {t u : Tok} (hi : In8 i) (hj : In8 j) : PySem.Flt.ltV (.float (e8 i) t) (.float (e8 j) u) = decide (i < j) := e8_lt hi hj
theorem max3_num {a b c : Value} (hh : A.handled = none) (ha : PySem.Flt.NumV a) (hb : PySem.Flt.NumV b) (hc : PySem.Flt.NumV c) (F : Fr h₀ L s.heap m) (N : News h₀ L s.heap news)
    (h : ∀ h' tk, Fr h₀ L h' m → News h₀ L h' news → Q (if PySem.Flt.ltV a b then (if PySem.Flt.ltV b c then c else b) else (if PySem.Flt.ltV a c then c else a)) { s with heap := h', toks := tk }) :
    wpAny (model prog w) A (call (.builtin "max") [a, b, c]) Q E s := by
  have hT : (s.heap.push { cls := .type "tuple", data := .seq #[a, b, c] }).IsTuple s.heap.objs.size #[a, b, c] := ⟨_, Heap.get?_push_size _ rfl, rfl, 0, rfl⟩
  have hsz : (s.heap.push { cls := .type "tuple", data := .seq #[a, b, c] }).objs.size = s.heap.objs.size + 1 := Heap.size_push ..
  refine call_max_three (wpAny_pyIter_tuple hT ⟨_, [_, s.heap.objs.size], [_], _, _, _, _, rfl, Walks.tuple (A := A.in1) hh _ s.heap.objs.size (by rw [hsz]; exact Nat.ne_of_lt (Nat.lt_succ_self _)) #[a, b, c],
    ⟨⟨_, Heap.get?_push_size _ rfl, rfl, rfl⟩, hT.push _⟩, fun x hx => ?_, by simp, PySem.Flt.cmpOf_gt #[a, b, c] (by simp [ha, hb, hc]), fun v h' tk hP hk => ?_⟩)
  · show x < ((s.heap.push _).push _).objs.size
    rw [Heap.size_push, hsz]
    have : x = (s.heap.push { cls := .type "tuple", data := .seq #[a, b, c] }).objs.size ∨ x = s.heap.objs.size := by simpa using hx
    rw [hsz] at this
    rcases this with e | e <;> (rw [e]; first | exact Nat.lt_succ_self _ | exact Nat.lt_succ_of_lt (Nat.lt_succ_self _))
  · have keep : ∀ y o, s.heap.get? y = some o → h'.get? y = some o := fun y o e =>
      hk y o (fun q => by have := Heap.lt_size e; rw [List.mem_singleton.mp q, hsz] at this; exact Nat.lt_irrefl _ (Nat.lt_of_succ_lt this)) (Heap.get?_push_of_some _ (Heap.get?_push_of_some _ e))
    have := h h' tk (F.grownK keep) (N.grown keep)
    have hv : v = if PySem.Flt.ltV a b then (if PySem.Flt.ltV b c then c else b) else (if PySem.Flt.ltV a c then c else a) := by
      cases h1 : PySem.Flt.ltV a b <;> cases h2 : PySem.Flt.ltV b c <;> cases h3 : PySem.Flt.ltV a c <;> simp [argBest, h1, h2, h3] at hP <;> simp [hP]
    rw [hv]; exact this
theorem min3_num {a b c : Value} (hh : A.handled = none) (ha : PySem.Flt.NumV a) (hb : PySem.Flt.NumV b) (hc : PySem.Flt.NumV c) (F : Fr h₀ L s.heap m) (N : News h₀ L s.heap news)
    (h : ∀ h' tk, Fr h₀ L h' m → News h₀ L h' news → Q (if PySem.Flt.ltV b a then (if PySem.Flt.ltV c b then c else b) else (if PySem.Flt.ltV c a then c else a)) { s with heap := h', toks := tk }) :
    wpAny (model prog w) A (call (.builtin "min") [a, b, c]) Q E s := by
  have hT : (s.heap.push { cls := .type "tuple", data := .seq #[a, b, c] }).IsTuple s.heap.objs.size #[a, b, c] := ⟨_, Heap.get?_push_size _ rfl, rfl, 0, rfl⟩
  have hsz : (s.heap.push { cls := .type "tuple", data := .seq #[a, b, c] }).objs.size = s.heap.objs.size + 1 := Heap.size_push ..
  refine call_min_three (wpAny_pyIter_tuple hT ⟨_, [_, s.heap.objs.size], [_], _, _, _, _, rfl, Walks.tuple (A := A.in1) hh _ s.heap.objs.size (by rw [hsz]; exact Nat.ne_of_lt (Nat.lt_succ_self _)) #[a, b, c],
    ⟨⟨_, Heap.get?_push_size _ rfl, rfl, rfl⟩, hT.push _⟩, fun x hx => ?_, by simp, PySem.Flt.cmpOf_lt #[a, b, c] (by simp [ha, hb, hc]), fun v h' tk hP hk => ?_⟩)
  · show x < ((s.heap.push _).push _).objs.size
    rw [Heap.size_push, hsz]
    have : x = (s.heap.push { cls := .type "tuple", data := .seq #[a, b, c] }).objs.size ∨ x = s.heap.objs.size := by simpa using hx
    rw [hsz] at this
    rcases this with e | e <;> (rw [e]; first | exact Nat.lt_succ_self _ | exact Nat.lt_succ_of_lt (Nat.lt_succ_self _))
  · have keep : ∀ y o, s.heap.get? y = some o → h'.get? y = some o := fun y o e =>
      hk y o (fun q => by have := Heap.lt_size e; rw [List.mem_singleton.mp q, hsz] at this; exact Nat.lt_irrefl _ (Nat.lt_of_succ_lt this)) (Heap.get?_push_of_some _ (Heap.get?_push_of_some _ e))
    have := h h' tk (F.grownK keep) (N.grown keep)
    have hv : v = if PySem.Flt.ltV b a then (if PySem.Flt.ltV c b then c else b) else (if PySem.Flt.ltV c a then c else a) := by
      cases h1 : PySem.Flt.ltV b a <;> cases h2 : PySem.Flt.ltV c b <;> cases h3 : PySem.Flt.ltV c a <;> simp [argBest, h1, h2, h3] at hP <;> simp [hP]
    rw [hv]; exact this
theorem max3_e8 {i j k : Int} {t u v : Tok} (hi : In8 i) (hj : In8 j) (hk : In8 k) (hh : A.handled = none) (F : Fr h₀ L s.heap m) (N : News h₀ L s.heap news)
    (h : ∀ h' tk t', Fr h₀ L h' m → News h₀ L h' news → Q (.float (e8 (mx3 i j k)) t') { s with heap := h', toks := tk }) :
    wpAny (model prog w) A (call (.builtin "max") [.float (e8 i) t, .float (e8 j) u, .float (e8 k) v]) Q E s := by
  refine max3_num hh (.float _ _) (.float _ _) (.float _ _) F N fun h' tk F' N' => ?_
  rw [ltV_e8 hi hj, ltV_e8 hj hk, ltV_e8 hi hk]
  simp only [decide_eq_true_eq]
  have e := mx3_if i j k
  rw [e] at h
  split <;> rename_i h1 <;> simp only [h1, if_true, if_false] at h <;> split <;> rename_i h2 <;> simp only [h2, if_true, if_false] at h <;> exact h _ _ _ F' N'
theorem min3_e8 {i j k : Int} {t u v : Tok} (hi : In8 i) (hj : In8 j) (hk : In8 k) (hh : A.handled = none) (F : Fr h₀ L s.heap m) (N : News h₀ L s.heap news)
    (h : ∀ h' tk t', Fr h₀ L h' m → News h₀ L h' news → Q (.float (e8 (mn3 i j k)) t') { s with heap := h', toks := tk }) :
    wpAny (model prog w) A (call (.builtin "min") [.float (e8 i) t, .float (e8 j) u, .float (e8 k) v]) Q E s := by
  refine min3_num hh (.float _ _) (.float _ _) (.float _ _) F N fun h' tk F' N' => ?_
  rw [ltV_e8 hj hi, ltV_e8 hk hj, ltV_e8 hk hi]
  simp only [decide_eq_true_eq]
  have e := mn3_if i j k
  rw [e] at h
  split <;> rename_i h1 <;> simp only [h1, if_true, if_false] at h <;> split <;> rename_i h2 <;> simp only [h2, if_true, if_false] at h <;> exact h _ _ _ F' N'
theorem sub_e8 {a b : Int} {t u : Tok} (ha : a ≤ 8) (hb : 0 ≤ b) (hab : b ≤ a) (h : Q (.float (e8 (a - b)) s.toks) { s with toks := s.toks + 1 }) : wpAny (model prog w) A (binaryOp .Sub (.float (e8 a) t) (.float (e8 b) u)) Q E s :=
  sub_float (by rw [e8_sub ha hb hab]; exact h)
theorem eq_e8 {a b : Int} {t u : Tok} (ha : In8 a) (hb : In8 b) (h : Q (.bool (decide (a = b))) s) : wpAny (model prog w) A (compareOp .Eq (.float (e8 a) t) (.float (e8 b) u)) Q E s :=
  AutoFloatOps.eq_0 (by rw [e8_eq ha hb]; exact h)
theorem div_e8 {a b : Int} {t u : Tok} (hb : In8 b) (hb0 : b ≠ 0) (hA : A.handled = none) (h : Q (.float (dv a b) s.toks) { s with toks := s.toks + 1 }) : wpAny (model prog w) A (binaryOp .Div (.float (e8 a) t) (.float (e8 b) u)) Q E s :=
  truediv_float_or hA (fun e => by rw [e8_zero hb] at e; exact absurd (of_decide_eq_true e) hb0) fun _ => h
theorem mx3_in {i j k : Int} (hi : In8 i) (hj : In8 j) (hk : In8 k) : In8 (mx3 i j k) := ⟨Int.le_trans hi.1 (Int.le_max_left _ _), Int.max_le.mpr ⟨hi.2, Int.max_le.mpr ⟨hj.2, hk.2⟩⟩⟩
theorem mn3_in {i j k : Int} (hi : In8 i) (hj : In8 j) (hk : In8 k) : In8 (mn3 i j k) ∧ mn3 i j k ≤ mx3 i j k ∧ (mn3 i j k ≤ i ∧ mn3 i j k ≤ j ∧ mn3 i j k ≤ k) ∧ i ≤ mx3 i j k ∧ j ≤ mx3 i j k ∧ k ≤ mx3 i j k :=
  have a : mn3 i j k ≤ i := Int.min_le_left _ _
  have b : mn3 i j k ≤ j := Int.le_trans (Int.min_le_right _ _) (Int.min_le_left _ _)
  have c : mn3 i j k ≤ k := Int.le_trans (Int.min_le_right _ _) (Int.min_le_right _ _)
  have d : i ≤ mx3 i j k := Int.le_max_left _ _
  have e : j ≤ mx3 i j k := Int.le_trans (Int.le_max_left _ _) (Int.le_max_right _ _)
  have f : k ≤ mx3 i j k := Int.le_trans (Int.le_max_right _ _) (Int.le_max_right _ _)
  ⟨⟨Int.le_min.mpr ⟨hi.1, Int.le_min.mpr ⟨hj.1, hk.1⟩⟩, Int.le_trans a hi.2⟩, Int.le_trans a d, ⟨a, b, c⟩, d, e, f⟩
end
end
section
noncomputable def IsF3 (x y z : UInt64) (news : List (Addr × Obj)) : Post := fun v n => ∃ (a : Addr) (t1 t2 t3 : Tok) (k : Nat), v = .ref a ∧ n = (a, { cls := .type "tuple", data := .seq #[.float x t1, .float y t2, .float z t3] k }) :: news ∧ ∀ p ∈ news, p.1 < a
section
variable {D U : Nat} {w : World} {mean : ExcName → Option Value} {mg mb : Str → Option Value} {f : Addr} {vs : List Value} {kw : List (Str × Value)} {news : List (Addr × Obj)} {dp un : Nat} {gd : Option (List Code)} {cn : Str} {cs : Scope} {a : Addr} {ccd : Value} {cl : List (Str × Addr)} {outer : List Env} {A₀ : Around} {base h₀ : Heap} {L : Addr} {m : Str → Option Value} {s : Shared} {Q E : Value → Shared → Prop}
theorem does_F3 {x y z : UInt64} (B : Below A₀ base outer h₀) (F : Fr h₀ L s.heap m) (X : (hd.heap_39 w.params).In h₀) (N : News h₀ L s.heap news) (T : Top hd.view_39 LS mean mg mb h₀) (hk : cs.kind = .function) (C : Does D U w mean mg mb f vs kw news (IsF3 x y z news))
    (h1 : dp + D < recursionLimit) (h2 : un + U < cLine)
    (ret : ∀ (b : Addr) (t1 t2 t3 : Tok) (k : Nat) (h' : Heap) (tk' : Nat), Fr h₀ L h' m → News h₀ L h' ((b, { cls := .type "tuple", data := .seq #[.float x t1, .float y t2, .float z t3] k }) :: news) → (∀ p ∈ news, p.1 < b) → Q (.ref b) { s with heap := h', toks := tk' }) : wpAny (model Challenge.rw_pg0185_01.row.prog w) (ktrTop dp un gd cn cs L a ccd cl outer) (call (.ref f) vs kw) Q E s :=
  does_use C B F X N T hk h1 h2 fun v n h' tk' F' N' hp => by
    obtain ⟨b, t1, t2, t3, k, rfl, rfl, l⟩ := hp
    exact ret b t1 t2 t3 k h' tk' F' N' l
end
theorem isF3 {x y z x' y' z' : UInt64} {news : List (Addr × Obj)} {a : Addr} {t1 t2 t3 : Tok} {k : Nat} (hx : x' = x) (hy : y' = y) (hz : z' = z) (hl : ∀ p ∈ news, p.1 < a) :
    IsF3 x y z news (.ref a) ((a, { cls := .type "tuple", data := .seq #[.float x' t1, .float y' t2, .float z' t3] k }) :: news) := by subst hx hy hz; exact ⟨a, t1, t2, t3, k, rfl, rfl, hl⟩
noncomputable def hh0 (i j k : Int) : UInt64 :=
  if i = mx3 i j k then Float64.sub (dv (mx3 i j k - k) (mx3 i j k - mn3 i j k)) (dv (mx3 i j k - j) (mx3 i j k - mn3 i j k))
  else if j = mx3 i j k then Float64.sub (Float64.add 0x4000000000000000 (dv (mx3 i j k - i) (mx3 i j k - mn3 i j k))) (dv (mx3 i j k - k) (mx3 i j k - mn3 i j k))
  else Float64.sub (Float64.add 0x4010000000000000 (dv (mx3 i j k - j) (mx3 i j k - mn3 i j k))) (dv (mx3 i j k - i) (mx3 i j k - mn3 i j k))
noncomputable def hF (i j k : Int) : UInt64 := if mn3 i j k = mx3 i j k then 0 else (Float64.divmod (Float64.div (hh0 i j k) 0x4018000000000000) 0x3ff0000000000000).2
noncomputable def sF (i j k : Int) : UInt64 := if mn3 i j k = mx3 i j k then 0 else dv (mx3 i j k - mn3 i j k) (mx3 i j k)
theorem rgb_does (w : World) (mean mg mb) (i j k : Int) (hi : In8 i) (hj : In8 j) (hk8 : In8 k) (t u v : Tok) (news) : Does 1 8 w mean mg mb 71 [.float (e8 i) t, .float (e8 j) u, .float (e8 k) v] [] news (IsF3 (hF i j k) (sF i j k) (e8 (mx3 i j k)) news) := by
  have hM := mx3_in hi hj hk8
  obtain ⟨hm, hmM, hm2, hM1, hM2, hM3⟩ := mn3_in hi hj hk8
  have hM' := hM; have hm' := hm
  unfold In8 at hM' hm'
  w_top off
  k_with_none
  k_with "ktr_rel" => (first | exact sub_refl _ | assumption | (refine sub_cons ?_; ktr_rel))
  k_with "k_mem" => (first | assumption | exact List.Mem.head _ | (refine List.Mem.tail _ ?_; k_mem))
  k_with "k_all" => (first | assumption | exact off_lt (by assumption) (by omega) | ((rename (_ ∧ _ ∧ AllLt _ _) => hl9); exact off_all hl9.2.2) | exact List.forall_mem_nil _ | (refine List.forall_mem_cons.mpr ⟨by first | assumption | exact Ne.symm (by assumption) | k_ne, ?_⟩; k_all))
  k_with "call builtin:max" => ((k_here; (with_reducible show wpAny _ _ (call (Value.builtin "max") [Value.float (e8 _) _, Value.float (e8 _) _, Value.float (e8 _) _]) _ _ _); (refine max3_e8 (by assumption) (by assumption) (by assumption) (by rfl) (by k_asm) (by k_asm) ?_); intro h' tk' t' F' N'))
  k_with "call builtin:min" => ((k_here; (with_reducible show wpAny _ _ (call (Value.builtin "min") [Value.float (e8 _) _, Value.float (e8 _) _, Value.float (e8 _) _]) _ _ _); (refine min3_e8 (by assumption) (by assumption) (by assumption) (by rfl) (by k_asm) (by k_asm) ?_); intro h' tk' t' F' N'))
  k_with "binaryOp Sub float float" => (((with_reducible show wpAny _ _ (binaryOp _ (Value.float (e8 _) _) (Value.float (e8 _) _)) _ _ _); (refine sub_e8 (by omega) (by omega) (by omega) ?_)))
  k_with "binaryOp Div float float" => (((with_reducible show wpAny _ _ (binaryOp _ (Value.float (e8 _) _) (Value.float (e8 _) _)) _ _ _); (refine div_e8 (by (unfold In8; omega)) (by first | with_reducible assumption | with_reducible exact And.left (by assumption) | with_reducible exact And.right (by assumption) | with_reducible exact Int.ofNat_lt.mp (by assumption) | omega) (by with_unfolding_all exact rfl) ?_)))
  k_with "compareOp Eq float float" => (((with_reducible show wpAny _ _ (compareOp _ (Value.float (e8 _) _) (Value.float (e8 _) _)) _ _ _); (refine eq_e8 (by assumption) (by assumption) ?_)))
  unfold Does; k_fill
  intro dp un gd cn cs a ccd cl outer A₀ base h₀ L m s Q E B F X N T hk hd hu hret
  refine wpAny_call ?_
  k_dflt cell_enter
  have hstop : True := trivial
  k_with "exec If Compare cons cons" => ((have hq9 := hstop); clear hq9; refine stop_in ?_)
  k_steps
  · refine hret _ _ _ _ (by k_asm) (by k_asm) (isF3 ?_ ?_ ?_ (by assumption))
    · unfold hF; rw [if_pos (by assumption)]
    · unfold sF; rw [if_pos (by assumption)]
    · rfl
  refine stop_out ?_
  clear hstop
  (rename Fr _ _ _ _ => lF')
  (rename News _ _ _ _ => lN')
  (with_unfolding_all refine' val_cut (Str.ofString "h") (.float (hh0 i j k)) lF' lN' ?ca1 ?cb1)
  case ca1 =>
    k_steps
    · exact val_end (by k_asm) (by k_asm) (by unfold hh0; rw [if_pos (by assumption)])
    · exact val_end (by k_asm) (by k_asm) (by unfold hh0; rw [if_neg (by assumption), if_pos (by assumption)])
    · exact val_end (by k_asm) (by k_asm) (by unfold hh0; rw [if_neg (by assumption), if_neg (by assumption)])
  clear lF' lN'
  intro h1 tk1 t1 hF1 hN1
  k_steps
  refine hret _ _ _ _ (by k_asm) (by k_asm) (isF3 ?_ ?_ ?_ (by assumption))
  · unfold hF; rw [if_neg (by assumption)]
  · unfold sF; rw [if_neg (by assumption)]
  · rfl
end
section
/-- the kernel reckons x first, then goes on -/
noncomputable def force {α : Sort _} (x : UInt64) (k : UInt64 → α) : α := Nat.rec (motive := fun _ => α) (k (UInt64.ofNat 0)) (fun m _ => k (UInt64.ofNat (m + 1))) x.toNat
theorem force_eq {α : Sort _} (x : UInt64) (k : UInt64 → α) : force x k = k x := by
  unfold force
  have h : UInt64.ofNat x.toNat = x := UInt64.ofNat_toNat
  generalize hn : x.toNat = n at h
  cases n with
  | zero => exact congrArg k h
  | succ n => exact congrArg k h
noncomputable def forceI {α : Sort _} (x : Int) (k : Int → α) : α := Int.rec (motive := fun _ => α) (fun n => Nat.rec (motive := fun _ => α) (k (Int.ofNat 0)) (fun m _ => k (Int.ofNat (m + 1))) n) (fun n => k (Int.negSucc n)) x
theorem forceI_eq {α : Sort _} (x : Int) (k : Int → α) : forceI x k = k x := by
  unfold forceI
  cases x with
  | ofNat n => cases n <;> rfl
  | negSucc n => rfl
/-- the walk along the hues -/
noncomputable def put (w : Int × Int × Int) (p : Nat) (d : Int) : Int × Int × Int := match p with | 0 => (w.1 + d, w.2) | 1 => (w.1, w.2.1 + d, w.2.2) | _ => (w.1, w.2.1, w.2.2 + d)
noncomputable def placeOf (k : Nat) : Nat := [1, 0, 2, 1, 0, 2].getD k 0
noncomputable def signOf (k : Nat) : Int := [1, -1].getD (k % 2) 0
noncomputable def turnW (spread step : Nat) (w : Int × Int × Int) : Int × Int × Int := put w (placeOf (step / spread)) (signOf (step / spread))
noncomputable def walkW (spread : Nat) : Nat → Int × Int × Int
  | 0 => ((spread : Int), 0, 0)
  | n + 1 => turnW spread n (walkW spread n)
noncomputable def seek (spread : Nat) (goal : Int × Int × Int) : Nat → Nat → Int × Int × Int → Nat
  | 0, n, _ => n
  | f + 1, n, w => if w = goal then n else seek spread goal f (n + 1) (turnW spread n w)
noncomputable def stepN (i j k : Int) : Nat := seek (mx3 i j k - mn3 i j k).toNat (i - mn3 i j k, j - mn3 i j k, k - mn3 i j k) 48 0 (((mx3 i j k - mn3 i j k).toNat : Int), 0, 0)
noncomputable def hueOf (i j k : Int) : Int := (840 * (stepN i j k : Int)).fdiv (if mx3 i j k - mn3 i j k > 1 then mx3 i j k - mn3 i j k else 1)
noncomputable def rnd (x : UInt64) (n : Int) : Int := PySem.Flt.toInt Float64.nearestOf (Float64.mul x (Float64.ofInt n))
noncomputable def fin (x : UInt64) (n : Int) : Bool := Float64.isFinite (Float64.mul x (Float64.ofInt n))
noncomputable def good (x : UInt64) (d i : Int) : Bool := force (Float64.mul x (Float64.ofInt d)) fun y => PySem.Flt.toInt Float64.nearestOf y == i && Float64.isFinite y
theorem good_eq (x : UInt64) (d i : Int) : good x d i = (rnd x d == i && fin x d) := by unfold good; rw [force_eq]; rfl
theorem good_out {x : UInt64} {d i : Int} (h : good x d i = true) : rnd x d = i ∧ fin x d = true := by rw [good_eq, Bool.and_eq_true, beq_iff_eq] at h; exact h
noncomputable def hhK (i j k : Int) (f : UInt64 → Bool) : Bool :=
  forceI (mx3 i j k) fun M => forceI (mn3 i j k) fun m =>
  if i = M then force (dv (M - k) (M - m)) fun a => force (dv (M - j) (M - m)) fun b => force (Float64.sub a b) f
  else if j = M then force (dv (M - i) (M - m)) fun a => force (Float64.add 0x4000000000000000 a) fun c => force (dv (M - k) (M - m)) fun b => force (Float64.sub c b) f
  else force (dv (M - j) (M - m)) fun a => force (Float64.add 0x4010000000000000 a) fun c => force (dv (M - i) (M - m)) fun b => force (Float64.sub c b) f
theorem hhK_eq (i j k : Int) (f : UInt64 → Bool) : hhK i j k f = f (hh0 i j k) := by
  unfold hhK hh0
  simp only [force_eq, forceI_eq]
  split
  · rfl
  · split <;> rfl
noncomputable def hK (i j k : Int) (f : UInt64 → Bool) : Bool := if mn3 i j k = mx3 i j k then f 0 else hhK i j k fun h => force (Float64.div h 0x4018000000000000) fun h => force (Float64.divmod h 0x3ff0000000000000).2 f
theorem hK_eq (i j k : Int) (f : UInt64 → Bool) : hK i j k f = f (hF i j k) := by
  unfold hK hF
  split
  · rfl
  · rw [hhK_eq, force_eq, force_eq]
noncomputable def okH (i j k : Int) : Bool := forceI (stepN i j k : Int) fun st => forceI ((840 * st).fdiv (if mx3 i j k - mn3 i j k > 1 then mx3 i j k - mn3 i j k else 1)) fun n => hK i j k (fun h => good h 5040 n) && decide (0 ≤ n) && decide (n < 5040) && decide (st < 48) && decide (st ≤ 6 * (mx3 i j k - mn3 i j k)) &&
  decide (walkW (mx3 i j k - mn3 i j k).toNat st.toNat = (i - mn3 i j k, j - mn3 i j k, k - mn3 i j k))
noncomputable def okS (M m : Int) : Bool := force (dv (M - m) M) fun s => good s 840 (shareOf M m)
noncomputable def okV (M : Int) : Bool := force (e8 M) fun v => good v 8 M
set_option profiler true
theorem okH_1 : ∀ j < 9, ∀ k < 9, okH 0 (Int.ofNat j) (Int.ofNat k) = true := by decide +kernel
theorem okH_2 : ∀ j < 9, ∀ k < 9, okH (Int.ofNat j) 0 (Int.ofNat k) = true := by decide +kernel
theorem okH_3 : ∀ j < 9, ∀ k < 9, okH (Int.ofNat j) (Int.ofNat k) 0 = true := by decide +kernel
theorem okS_1 : ∀ a < 9, ∀ b < 9, b < a → okS (Int.ofNat a) (Int.ofNat b) = true := by decide +kernel
theorem okV_1 : ∀ a < 9, okV (Int.ofNat a) = true := by decide +kernel
noncomputable def pFF (s v : UInt64) (i : Int) : Bool := force (Float64.sub 0x3ff0000000000000 s) fun a => force (Float64.mul v a) fun b => good b 8 i
noncomputable def okQ (i j k n s v : Int) : Bool := force (fr s 840) fun s => force (fr v 8) fun v => force (fr n 5040) fun a => force (Float64.add a (Float64.ofInt 1)) fun b => force (Float64.mul b 0x4018000000000000) fun h => forceI (PySem.Flt.toInt Float64.truncOf h) fun z =>
  Float64.isFinite h && decide (0 ≤ z) && decide (z < 1000) &&
  if (Float64.cmp s 0 == some .eq) = true then good v 8 i && good v 8 j && good v 8 k
  else
    force (Float64.sub h (Float64.ofInt z)) fun f => force (Float64.mul s f) fun q => force (Float64.sub 0x3ff0000000000000 f) fun f' => force (Float64.mul s f') fun t =>
    if z.fmod 6 = 0 then good v 8 i && pFF t v j && pFF s v k
    else if z.fmod 6 = 1 then pFF q v i && good v 8 j && pFF s v k
    else if z.fmod 6 = 2 then pFF s v i && good v 8 j && pFF t v k
    else if z.fmod 6 = 3 then pFF s v i && pFF q v j && good v 8 k
    else if z.fmod 6 = 4 then pFF t v i && pFF s v j && good v 8 k
    else good v 8 i && pFF s v j && pFF q v k
noncomputable def okR (i j k : Int) : Bool := forceI (hueOf i j k) fun n => forceI (shareOf (mx3 i j k) (mn3 i j k)) fun s => okQ i j k n s (mx3 i j k)
theorem okR_0 : ∀ j < 9, ∀ k < 9, okR 0 (Int.ofNat j) (Int.ofNat k) = true := by decide +kernel
theorem okR_1 : ∀ j < 9, ∀ k < 9, okR 1 (Int.ofNat j) (Int.ofNat k) = true := by decide +kernel
theorem okR_2 : ∀ j < 9, ∀ k < 9, okR 2 (Int.ofNat j) (Int.ofNat k) = true := by decide +kernel
theorem okR_3 : ∀ j < 9, ∀ k < 9, okR 3 (Int.ofNat j) (Int.ofNat k) = true := by decide +kernel
theorem okR_4 : ∀ j < 9, ∀ k < 9, okR 4 (Int.ofNat j) (Int.ofNat k) = true := by decide +kernel
theorem okR_5 : ∀ j < 9, ∀ k < 9, okR 5 (Int.ofNat j) (Int.ofNat k) = true := by decide +kernel
theorem okR_6 : ∀ j < 9, ∀ k < 9, okR 6 (Int.ofNat j) (Int.ofNat k) = true := by decide +kernel
theorem okR_7 : ∀ j < 9, ∀ k < 9, okR 7 (Int.ofNat j) (Int.ofNat k) = true := by decide +kernel
theorem okR_8 : ∀ j < 9, ∀ k < 9, okR 8 (Int.ofNat j) (Int.ofNat k) = true := by decide +kernel
set_option profiler false
structure HueOk (i j k : Int) : Prop where
  rnd : rnd (hF i j k) 5040 = hueOf i j k
  fin : fin (hF i j k) 5040 = true
  lo : 0 ≤ hueOf i j k
  hi : hueOf i j k < 5040
  steps : stepN i j k < 48
  six : (stepN i j k : Int) ≤ 6 * (mx3 i j k - mn3 i j k)
  walk : walkW (mx3 i j k - mn3 i j k).toNat (stepN i j k) = (i - mn3 i j k, j - mn3 i j k, k - mn3 i j k)
theorem okH_out {i j k : Int} (h : okH i j k = true) : HueOk i j k := by
  unfold okH at h
  rw [forceI_eq, forceI_eq, hK_eq] at h
  simp only [Bool.and_eq_true, decide_eq_true_eq] at h
  obtain ⟨⟨⟨⟨⟨a, b⟩, c⟩, d⟩, f⟩, e⟩ := h
  exact ⟨(good_out a).1, (good_out a).2, b, c, by omega, f, e⟩
theorem max_sub2 (a b m : Int) : max (a - m) (b - m) = max a b - m := by
  by_cases h : a ≤ b
  · rw [Int.max_eq_right h, Int.max_eq_right (Int.sub_le_sub_right h m)]
  · have h := Int.le_of_lt (Int.not_le.mp h)
    rw [Int.max_eq_left h, Int.max_eq_left (Int.sub_le_sub_right h m)]
theorem min_sub2 (a b m : Int) : min (a - m) (b - m) = min a b - m := by
  by_cases h : a ≤ b
  · rw [Int.min_eq_left h, Int.min_eq_left (Int.sub_le_sub_right h m)]
  · have h := Int.le_of_lt (Int.not_le.mp h)
    rw [Int.min_eq_right h, Int.min_eq_right (Int.sub_le_sub_right h m)]
theorem mx3_sub (i j k m : Int) : mx3 (i - m) (j - m) (k - m) = mx3 i j k - m := by unfold mx3; rw [max_sub2, max_sub2]
theorem mn3_sub (i j k m : Int) : mn3 (i - m) (j - m) (k - m) = mn3 i j k - m := by unfold mn3; rw [min_sub2, min_sub2]
theorem sub3 (a b m : Int) : a - m - (b - m) = a - b := by omega
theorem hh0_sub (i j k m : Int) : hh0 (i - m) (j - m) (k - m) = hh0 i j k := by
  unfold hh0
  simp only [mx3_sub, mn3_sub, sub3]
  have e1 : (i - m = mx3 i j k - m) = (i = mx3 i j k) := propext ⟨fun h => by omega, fun h => by omega⟩
  have e2 : (j - m = mx3 i j k - m) = (j = mx3 i j k) := propext ⟨fun h => by omega, fun h => by omega⟩
  simp only [e1, e2]
theorem hF_sub (i j k m : Int) : hF (i - m) (j - m) (k - m) = hF i j k := by
  unfold hF
  rw [hh0_sub]
  simp only [mx3_sub, mn3_sub]
  have e1 : (mn3 i j k - m = mx3 i j k - m) = (mn3 i j k = mx3 i j k) := propext ⟨fun h => by omega, fun h => by omega⟩
  simp only [e1]
theorem stepN_sub (i j k m : Int) : stepN (i - m) (j - m) (k - m) = stepN i j k := by
  unfold stepN
  simp only [mx3_sub, mn3_sub, sub3]
theorem hueOf_sub (i j k m : Int) : hueOf (i - m) (j - m) (k - m) = hueOf i j k := by
  unfold hueOf
  simp only [stepN_sub, mx3_sub, mn3_sub, sub3]
theorem hue_ok {i j k : Int} (hi : In8 i) (hj : In8 j) (hk : In8 k) : HueOk i j k := by
  obtain ⟨hm, hmM, hm2, hM1, hM2, hM3⟩ := mn3_in hi hj hk
  have hM := mx3_in hi hj hk
  unfold In8 at hm hM hi hj hk
  have a : In8 (i - mn3 i j k) := by unfold In8; omega
  have b : In8 (j - mn3 i j k) := by unfold In8; omega
  have c : In8 (k - mn3 i j k) := by unfold In8; omega
  have key : okH (i - mn3 i j k) (j - mn3 i j k) (k - mn3 i j k) = true := by
    have : i = mn3 i j k ∨ j = mn3 i j k ∨ k = mn3 i j k := by unfold mn3; omega
    rcases this with e | e | e
    · rw [show i - mn3 i j k = 0 by omega]
      exact upTo8 (P := fun y => okH 0 y (k - mn3 i j k) = true) (fun n hn => upTo8 (P := fun z => okH 0 (Int.ofNat n) z = true) (okH_1 n hn) _ c.1 c.2) _ b.1 b.2
    · rw [show j - mn3 i j k = 0 by omega]
      exact upTo8 (P := fun y => okH y 0 (k - mn3 i j k) = true) (fun n hn => upTo8 (P := fun z => okH (Int.ofNat n) 0 z = true) (okH_2 n hn) _ c.1 c.2) _ a.1 a.2
    · rw [show k - mn3 i j k = 0 by omega]
      exact upTo8 (P := fun y => okH y (j - mn3 i j k) 0 = true) (fun n hn => upTo8 (P := fun z => okH (Int.ofNat n) z 0 = true) (okH_3 n hn) _ b.1 b.2) _ a.1 a.2
  have r := okH_out key
  have q := r.walk
  rw [stepN_sub, mx3_sub, mn3_sub, sub3, sub3, sub3, sub3] at q
  exact ⟨by have := r.rnd; rwa [hF_sub, hueOf_sub] at this, by have := r.fin; rwa [hF_sub] at this, by have := r.lo; rwa [hueOf_sub] at this, by have := r.hi; rwa [hueOf_sub] at this, by have := r.steps; rwa [stepN_sub] at this, by have := r.six; rwa [stepN_sub, mx3_sub, mn3_sub, sub3] at this, q⟩
theorem seek_first (sp : Nat) (goal : Int × Int × Int) : ∀ (f n : Nat) (w : Int × Int × Int), w = walkW sp n → ∀ j, n ≤ j → j < seek sp goal f n w → walkW sp j ≠ goal
  | 0, n, w, _, j, h1, h2 => by simp only [seek] at h2; omega
  | f + 1, n, w, hw, j, h1, h2 => by
    simp only [seek] at h2
    split at h2
    · omega
    · rename_i hne
      rcases Nat.eq_or_lt_of_le h1 with e | e
      · rw [← e, ← hw]; exact hne
      · exact seek_first sp goal f (n + 1) (turnW sp n w) (by rw [hw]; rfl) j e h2
theorem step_first (i j k : Int) (n : Nat) (h : n < stepN i j k) : walkW (mx3 i j k - mn3 i j k).toNat n ≠ (i - mn3 i j k, j - mn3 i j k, k - mn3 i j k) :=
  seek_first _ _ 48 0 _ rfl n (Nat.zero_le _) h
theorem share_ok {i j k : Int} (hi : In8 i) (hj : In8 j) (hk : In8 k) : rnd (sF i j k) 840 = shareOf (mx3 i j k) (mn3 i j k) ∧ fin (sF i j k) 840 = true := by
  obtain ⟨hm, hmM, hm2, hM1, hM2, hM3⟩ := mn3_in hi hj hk
  have hM := mx3_in hi hj hk
  unfold In8 at hm hM
  unfold sF
  by_cases e : mn3 i j k = mx3 i j k
  · rw [if_pos e]
    have e2 : shareOf (mx3 i j k) (mn3 i j k) = 0 := by unfold shareOf; rw [e, Int.sub_self, Int.mul_zero, Int.zero_fdiv]
    rw [e2]
    exact ⟨by decide +kernel, by decide +kernel⟩
  · rw [if_neg e]
    have h : okS (mx3 i j k) (mn3 i j k) = true := by
      have := okS_1 (mx3 i j k).toNat (by omega) (mn3 i j k).toNat (by omega) (by omega)
      rwa [show Int.ofNat (mx3 i j k).toNat = mx3 i j k from Int.toNat_of_nonneg hM.1, show Int.ofNat (mn3 i j k).toNat = mn3 i j k from Int.toNat_of_nonneg hm.1] at this
    unfold okS at h
    rw [force_eq] at h
    exact good_out h
theorem value_ok {M : Int} (hM : In8 M) : rnd (e8 M) 8 = M ∧ fin (e8 M) 8 = true := by
  have h : okV M = true := upTo8 (P := fun z => okV z = true) okV_1 M hM.1 hM.2
  unfold okV at h
  rw [force_eq] at h
  exact good_out h
end
section
open PySem.NumText PySem.StrLaws
noncomputable abbrev tx (l : List Nat) : Str := ⟨l.toArray⟩
theorem tx_len (l : List Nat) : (tx l).length = l.length := by show l.toArray.size = _; rw [List.size_toArray]
theorem tx_cps (l : List Nat) : (tx l).cps.toList = l := rfl
theorem tx_app (a b : List Nat) : tx a ++ tx b = tx (a ++ b) := Str.ext' (by rw [Str.cps_append]; show a.toArray ++ b.toArray = (a ++ b).toArray; rw [List.append_toArray])
theorem ofStr_tx (s : String) : Str.ofString s = tx (s.toList.map Char.toNat) := Str.ofString_eq_toList s
theorem chars_nat {cs : List Nat} (h : AllDigits cs) : (cs.map Char.ofNat).map Char.toNat = cs := by
  rw [List.map_map]
  conv => rhs; rw [← List.map_id cs]
  refine List.map_congr_left fun c hc => ?_
  have hb := h c hc
  show (Char.ofNat c).toNat = c
  have : c < 58 := by omega
  revert this; revert c
  have : ∀ c < 58, (Char.ofNat c).toNat = c := by decide
  intro c _ _ hc; exact this c hc
theorem repr_tx {n : Nat} {cs : List Nat} (hl : cs.length = n + 1) (h : AllDigits cs) (hh : n = 0 ∨ ∃ c r, cs = c :: r ∧ 49 ≤ c) : Str.ofString (toString ((digitsVal cs : Nat) : Int)) = tx cs := by
  rw [ofStr_tx]
  have e : toString ((digitsVal cs : Nat) : Int) = Nat.repr (digitsVal cs) := rfl
  rw [e]
  have e2 : (Nat.repr (digitsVal cs)).toList = Nat.toDigits 10 (digitsVal cs) := by simp [Nat.repr]
  rw [e2, toDigits_digitsVal n cs hl h hh, chars_nat h]
noncomputable def dig4 (n : Nat) : List Nat := [48 + n / 1000 % 10, 48 + n / 100 % 10, 48 + n / 10 % 10, 48 + n % 10]
theorem dig4_all (n : Nat) : AllDigits (dig4 n) := by
  intro c hc
  simp only [dig4, List.mem_cons, List.not_mem_nil, or_false] at hc
  omega
theorem dig4_val {n : Nat} (h : n < 10000) : digitsVal (dig4 n) = n := by
  have h1 := Nat.div_add_mod n 10
  have h2 := Nat.div_add_mod (n / 10) 10
  have h3 := Nat.div_add_mod (n / 10 / 10) 10
  have h4 : n / 10 / 10 / 10 < 10 := by omega
  simp only [digitsVal, dig4, List.foldl_cons, List.foldl_nil, Nat.add_sub_cancel_left, show n / 1000 = n / 10 / 10 / 10 by rw [Nat.div_div_eq_div_mul, Nat.div_div_eq_div_mul], show n / 100 = n / 10 / 10 by rw [Nat.div_div_eq_div_mul], Nat.mod_eq_of_lt h4]
  clear h h4
  generalize n / 10 / 10 / 10 = a at *
  generalize n / 10 / 10 % 10 = b at *
  generalize n / 10 / 10 = c at *
  generalize n / 10 % 10 = d at *
  generalize n / 10 = e at *
  generalize n % 10 = f at *
  omega
theorem fig_text {n : Nat} (h : n < 10000) : Str.ofString (toString ((10000 + n : Nat) : Int)) = tx (49 :: dig4 n) := by
  have e : digitsVal (49 :: dig4 n) = 10000 + n := by
    conv => rhs; rw [← dig4_val h]
    simp only [digitsVal, dig4, List.foldl_cons, List.foldl_nil, Nat.add_sub_cancel_left]
    generalize n / 1000 % 10 = a
    generalize n / 100 % 10 = b
    generalize n / 10 % 10 = c
    generalize n % 10 = d
    omega
  rw [← e]
  exact repr_tx (n := 4) rfl (fun c hc => by rcases List.mem_cons.mp hc with rfl | hc; exact ⟨by decide, by decide⟩; exact dig4_all n c hc) (.inr ⟨_, _, rfl, Nat.le_refl _⟩)
theorem slice_from {x : Str} {k : Nat} (h : k ≤ x.length) : Txt.slice x (some (k : Int)) none = tx (x.cps.toList.drop k) := by
  have hl : x.cps.toList.length = x.length := Array.length_toList
  have e := sliceText_from (x := x) (i := (k : Int)) ⟨by omega, by omega⟩
  show sliceText x (some (k : Int)) none = _
  rw [e]
  show tx _ = tx _
  rw [Int.toNat_natCast, List.take_of_length_le]
  rw [List.length_drop]; omega
noncomputable def figS (n : Int) : Str := Txt.slice (Str.ofString (toString (10000 + n))) (some 1) none
theorem figS_tx {n : Int} (h0 : 0 ≤ n) (h1 : n < 10000) : figS n = tx (dig4 n.toNat) := by
  unfold figS
  have e : (10000 + n : Int) = ((10000 + n.toNat : Nat) : Int) := by omega
  rw [e, fig_text (by omega)]
  rw [show (1 : Int) = ((1 : Nat) : Int) from rfl, slice_from (by rw [tx_len]; simp)]
  rfl
theorem figS_le {n : Int} (h0 : 0 ≤ n) (h1 : n < 10000) : (figS n).length ≤ 4 := by rw [figS_tx h0 h1, tx_len]; exact Nat.le_refl _
end
section
section
variable {prog : Program} {w : World} {A : Around} {E : Value → Shared → Prop} {s : Shared} {Q : Value → Shared → Prop}
theorem div8_step {i : Int} {t u : Tok} (hi : In8 i) (hA : A.handled = none) (h : Q (.float (e8 i) s.toks) { s with toks := s.toks + 1 }) : wpAny (model prog w) A (binaryOp .Div (.int i t) (.int 8 u)) Q E s :=
  fr_finite hA (by unfold In8 at hi; omega) (by decide) t u h
theorem fin_nan {y : UInt64} (hf : Float64.isFinite y = true) : ¬ Float64.isNaN y = true ∧ ¬ Float64.isInf y = true := by
  unfold Float64.isFinite at hf
  unfold Float64.isNaN Float64.isInf
  cases hd : Float64.decode y <;> rw [hd] at hf <;> simp at hf ⊢
theorem round_step {x : UInt64} {n r : Int} {t : Tok} (hA : A.handled = none) (hf : fin x n = true) (hr : rnd x n = r) (h : Q (.int r s.toks) { s with toks := s.toks + 1 }) : wpAny (model prog w) A (call (.builtin "round") [.float (Float64.mul x (Float64.ofInt n)) t]) Q E s := by
  refine PySem.Flt.call_round_float hA (fun e => absurd e (fin_nan hf).1) (fun e => absurd e (fin_nan hf).2) fun _ => ?_
  rw [← hr] at h; exact h
end
theorem cmp_end {h₀ : Heap} {L I C D : Addr} {m : Str → Option Value} {s₁ : Shared} {oI oC oD : Obj} {S : List (Addr × Obj) → Prop} {rest : Value → List (Addr × Obj) → Prop} {y : Value} {h' : Heap} {tk : Nat} {news : List (Addr × Obj)}
    (F : Fr h₀ L h' m) (N : News h₀ L h' ((I, oI) :: (C, oC) :: (D, oD) :: news)) (off : LCg.Off3 I C D news) (hS : S news) (r : rest y news) :
    LCg.CompEnd h₀ L m s₁ I oI C oC D oD S rest y { s₁ with heap := h', toks := tk } := LCg.CompEnd.intro F N news (fun _ h => h) off hS r
theorem rd_8 (x : Int) : In8 (rd x) := rd_in x
theorem gn_8 (x : Int) : In8 (gn x) := gn_in x
theorem bl_8 (x : Int) : In8 (bl x) := bl_in x
theorem below3 {d a b c : Addr} {o1 o2 o3 : Obj} {l : List (Addr × Obj)} (h : a < d ∧ b < d ∧ c < d ∧ AllLt d l) : ∀ p ∈ (a, o1) :: (b, o2) :: (c, o3) :: l, p.1 < d := by
  intro p hp
  rcases List.mem_cons.mp hp with rfl | hp
  · exact h.1
  rcases List.mem_cons.mp hp with rfl | hp
  · exact h.2.1
  rcases List.mem_cons.mp hp with rfl | hp
  · exact h.2.2.1
  exact ofAllLt h.2.2.2 p hp
noncomputable def hueN (x : Int) : Int := hueOf (rd x) (gn x) (bl x)
noncomputable def hueS (x : Int) : Str := figS (hueN x)
noncomputable def IsS2 (x y : Str) (news : List (Addr × Obj)) : Post := fun v n => ∃ (a : Addr) (t1 t2 : Tok) (k : Nat) (n' : List (Addr × Obj)), v = .ref a ∧ n = (a, W.listOf #[.str x t1, .str y t2] k) :: n' ∧ (∀ p ∈ news, p ∈ n') ∧ ∀ p ∈ n', p.1 < a
theorem told_does (w : World) (mean mg mb) (x : Int) (h0 : 0 ≤ x) (h1 : x < 1000000) (t : Tok) (news) : Does 3 24 w mean mg mb 104 [.int x t] [] news (IsS2 (hueS x) (writeS x (hueS x) (shareI x) (hiI x)) news) := by
  have hr := rd_8 x; have hg := gn_8 x; have hb := bl_8 x
  have hH := hue_ok hr hg hb
  have hS := share_ok hr hg hb
  have hV := value_ok (mx3_in hr hg hb)
  obtain ⟨hf2, hs2⟩ := hS; obtain ⟨hf3, hs3⟩ := hV
  have hf1 := hH.fin; have hs1 := hH.rnd; have hlo := hH.lo; have hhi := hH.hi
  have hsh := share_in x; have hM := hi_in x
  have eM : mx3 (rd x) (gn x) (bl x) = hiI x := rfl
  have eS : shareOf (mx3 (rd x) (gn x) (bl x)) (mn3 (rd x) (gn x) (bl x)) = shareI x := rfl
  rw [eS] at hf2
  have hf3 : rnd (e8 (mx3 (rd x) (gn x) (bl x))) 8 = hiI x := hf3
  rw [show hueOf (rd x) (gn x) (bl x) = hueN x from rfl] at hs1 hlo hhi
  clear hH eM eS
  have hfig : (Txt.slice (Str.ofString (toString (10000 + hueN x))) (some 1) none).length ≤ 4 := figS_le hlo (by omega)
  w_top off
  k_with_none
  k_with "ktr_rel" => (first | exact sub_refl _ | assumption | (refine sub_cons ?_; ktr_rel))
  k_with "k_mem" => (first | assumption | exact List.Mem.head _ | (refine List.Mem.tail _ ?_; k_mem))
  k_with "k_all" => (first | assumption | exact off_lt (by assumption) (by omega) | ((rename (_ ∧ _ ∧ AllLt _ _) => hl9); exact off_all hl9.2.2) | exact List.forall_mem_nil _ | (refine List.forall_mem_cons.mpr ⟨by first | assumption | exact Ne.symm (by assumption) | k_ne, ?_⟩; k_all))
  k_with "CompEnd" => ((k_dflt (refine cmp_end (by k_asm) (by k_asm) (by with_unfolding_all assumption) (by lcg_src) ?_)))
  k_with "call ref" => ((k_here; (with_reducible show wpAny _ _ (call (Value.ref 85) [Value.int _ _] _) _ _ _); k_dflt (refine does_L3 (by k_asm) (by k_asm) (by k_asm) (by k_asm) (by k_asm) (by first | exact rfl | assumption) (colour_does _ _ _ _ _ _ _) (by ktr_room) (by ktr_units) ?_); intro a9 t1 t2 t3 h9 tk9 F9 N9 l9; (try dsimp only); (try k_fold)))
  k_with "call ref" => ((k_here; (with_reducible show wpAny _ _ (call (Value.ref 71) [Value.float (e8 _) _, Value.float (e8 _) _, Value.float (e8 _) _] _) _ _ _); k_dflt (refine does_F3 (by k_asm) (by k_asm) (by k_asm) (by k_asm) (by k_asm) (by first | exact rfl | assumption) (rgb_does _ _ _ _ _ _ _ (by assumption) (by assumption) (by assumption) _ _ _ _) (by ktr_room) (by ktr_units) ?_); intro a9 t1 t2 t3 k9 h9 tk9 F9 N9 l9; (try dsimp only); (try k_fold)))
  k_with "call ref" => ((k_here; (with_reducible show wpAny _ _ (call (Value.ref 99) [Value.int _ _, Value.str _ _, Value.int _ _, Value.int _ _] _) _ _ _); k_dflt (refine does_S (by k_asm) (by k_asm) (by k_asm) (by k_asm) (by k_asm) (by first | exact rfl | assumption) (write_does _ _ _ _ _ (by assumption) (by assumption) _ (by assumption) _ (by first | with_reducible assumption | with_reducible exact And.left (by assumption) | with_reducible exact And.right (by assumption) | with_reducible exact Int.ofNat_lt.mp (by assumption) | omega) (by first | with_reducible assumption | with_reducible exact And.left (by assumption) | with_reducible exact And.right (by assumption) | with_reducible exact Int.ofNat_lt.mp (by assumption) | omega) _ (by first | with_reducible assumption | with_reducible exact And.left (by assumption) | with_reducible exact And.right (by assumption) | with_reducible exact Int.ofNat_lt.mp (by assumption) | omega) (by first | with_reducible assumption | with_reducible exact And.left (by assumption) | with_reducible exact And.right (by assumption) | with_reducible exact Int.ofNat_lt.mp (by assumption) | omega) _ _ _ _ _) (by ktr_room) (by ktr_units) ?_); intro t9 h9 tk9 F9 N9; (try dsimp only); (try k_fold)))
  k_with "eval ListComp" => ((k_here; k_dflt (refine LCg.ListComp_U (F₀ := by k_asm) (by with_unfolding_all rfl) (by decide) (by rfl) (by decide) (by rfl) ?_)))
  k_with "binaryOp Div int int" => (((with_reducible show wpAny _ _ (binaryOp _ (Value.int _ _) (Value.int 8 _)) _ _ _); (refine div8_step (by assumption) (by with_unfolding_all exact rfl) ?_)))
  k_with "call builtin:round" => (((with_reducible show wpAny _ _ (call _ [Value.float (Float64.mul _ (Float64.ofInt _)) _]) _ _ _); (refine round_step (by with_unfolding_all exact rfl) (by assumption) (by assumption) ?_)))
  unfold Does; k_fill
  intro dp un gd cn cs a ccd cl outer A₀ base h₀ L m s Q E B F X N T hk hd hu hret
  refine wpAny_call ?_
  k_dflt cell_enter
  k_steps
  (rename (_ ∧ _ ∧ _ ∧ AllLt _ news) => hl)
  exact hret _ _ _ _ (by k_asm) (by k_asm) ⟨_, _, _, _, _, rfl, rfl, by ktr_rel, below3 hl⟩
end
section
noncomputable def ltS (a b : Str) : Bool := decide (a.cps.toList < b.cps.toList)
theorem ltS_irrefl (a : Str) : ltS a a = false := by unfold ltS; exact decide_eq_false (List.lt_irrefl _)
theorem ltS_trans {a b c : Str} (h : ltS a b = true) (k : ltS b c = true) : ltS a c = true := by
  unfold ltS at *; exact decide_eq_true (List.lt_trans (of_decide_eq_true h) (of_decide_eq_true k))
theorem ltS_asymm {a b : Str} (h : ltS a b = true) : ltS b a = false := by
  cases e : ltS b a with
  | false => rfl
  | true => have := ltS_trans h e; rw [ltS_irrefl] at this; exact absurd this Bool.false_ne_true
theorem ltS_eq {a b : Str} (h : ltS a b = false) (k : ltS b a = false) : a = b := by
  unfold ltS at *
  have h1 := of_decide_eq_false h
  have h2 := of_decide_eq_false k
  have : a.cps.toList = b.cps.toList := List.le_antisymm (List.not_lt.mp h2) (List.not_lt.mp h1)
  exact Str.ext' (Array.toList_inj.mp this)
/-- a < b ≤ c -/
theorem ltS_of_lt_le {a b c : Str} (h : ltS a b = true) (k : ltS c b = false) : ltS a c = true := by
  cases e : ltS b c with
  | true => exact ltS_trans h e
  | false => rw [← ltS_eq e k]; exact h
theorem ltS_of_le_lt {a b c : Str} (h : ltS b a = false) (k : ltS b c = true) : ltS a c = true := by
  cases e : ltS a b with
  | true => exact ltS_trans e k
  | false => rw [ltS_eq e h]; exact k
theorem leS_trans {a b c : Str} (h : ltS b a = false) (k : ltS c b = false) : ltS c a = false := by
  cases e : ltS c a with
  | false => rfl
  | true => have := ltS_of_lt_le e h; rw [k] at this; exact absurd this Bool.false_ne_true
noncomputable def SortS (ks : List Str) : Prop := ks.Pairwise fun a b => ltS b a = false
noncomputable def cntL (ks : List Str) (y : Str) : Nat := (ks.filter fun k => ltS k y).length
noncomputable def cntR (ks : List Str) (y : Str) : Nat := (ks.filter fun k => !ltS y k).length
theorem cntL_le (ks : List Str) (y : Str) : cntL ks y ≤ ks.length := List.length_filter_le _ _
theorem cntR_le (ks : List Str) (y : Str) : cntR ks y ≤ ks.length := List.length_filter_le _ _
/-- a look that holds for a head of the list alone -/
theorem head_count (p : Str → Bool) : ∀ (ks : List Str), ks.Pairwise (fun a b => p b = true → p a = true) → ∀ i (h : i < ks.length), p ks[i] = true ↔ i < (ks.filter p).length
  | [], _, i, h => by simp at h
  | k :: ks, hp, i, h => by
    obtain ⟨h1, h2⟩ := List.pairwise_cons.mp hp
    cases e : p k with
    | true =>
      rw [List.filter_cons_of_pos e, List.length_cons]
      cases i with
      | zero => simp [e]
      | succ i =>
        have := head_count p ks h2 i (by simpa using h)
        simp only [List.getElem_cons_succ]
        rw [this]; omega
    | false =>
      have none : ∀ b ∈ ks, p b = false := fun b hb => by
        cases eb : p b with
        | false => rfl
        | true => have := h1 b hb eb; rw [e] at this; exact absurd this Bool.false_ne_true
      have e0 : (k :: ks).filter p = [] := List.filter_eq_nil_iff.mpr fun b hb => by
        rcases List.mem_cons.mp hb with rfl | hb
        · rw [e]; exact Bool.false_ne_true
        · rw [none b hb]; exact Bool.false_ne_true
      rw [e0]
      cases i with
      | zero => simp [e]
      | succ i =>
        simp only [List.getElem_cons_succ, List.length_nil, Nat.not_lt_zero, iff_false]
        rw [none _ (List.getElem_mem _)]; exact Bool.false_ne_true
theorem cntL_spec {ks : List Str} (hs : SortS ks) (y : Str) {i : Nat} (h : i < ks.length) : ltS ks[i] y = true ↔ i < cntL ks y :=
  head_count (fun k => ltS k y) ks (hs.imp fun hab hb => ltS_of_le_lt hab hb) i h
theorem cntR_spec {ks : List Str} (hs : SortS ks) (y : Str) {i : Nat} (h : i < ks.length) : ltS y ks[i] = false ↔ i < cntR ks y := by
  have := head_count (fun k => !ltS y k) ks (hs.imp fun hab hb => by rw [Bool.not_eq_true'] at hb ⊢; exact leS_trans hab hb) i h
  rw [Bool.not_eq_true'] at this
  exact this
noncomputable def insAt {α : Type} (k : Nat) (x : α) (l : List α) : List α := l.take k ++ x :: l.drop k
theorem insAt_len {α : Type} (k : Nat) (x : α) (l : List α) : (insAt k x l).length = l.length + 1 := by
  unfold insAt; rw [List.length_append, List.length_cons, List.length_take, List.length_drop]; omega
theorem insAt_map {α β : Type} (f : α → β) (k : Nat) (x : α) (l : List α) : (insAt k x l).map f = insAt k (f x) (l.map f) := by
  unfold insAt; rw [List.map_append, List.map_cons, List.map_take, List.map_drop]
theorem insAt_mem {α : Type} {k : Nat} {x y : α} {l : List α} (h : y ∈ insAt k x l) : y = x ∨ y ∈ l := by
  unfold insAt at h
  rcases List.mem_append.mp h with h | h
  · exact .inr (List.mem_of_mem_take h)
  · rcases List.mem_cons.mp h with h | h
    · exact .inl h
    · exact .inr (List.mem_of_mem_drop h)
theorem sort_ins {ks : List Str} (hs : SortS ks) (y : Str) (k : Nat) (h1 : ∀ i (h : i < ks.length), i < k → ltS y ks[i] = false) (h2 : ∀ i (h : i < ks.length), k ≤ i → ltS ks[i] y = false) : SortS (insAt k y ks) := by
  unfold SortS insAt
  refine List.pairwise_append.mpr ⟨hs.sublist (List.take_sublist _ _), List.pairwise_cons.mpr ⟨fun b hb => ?_, hs.sublist (List.drop_sublist _ _)⟩, fun a ha b hb => ?_⟩
  · obtain ⟨i, hi, rfl⟩ := List.mem_iff_getElem.mp hb
    rw [List.getElem_drop]
    exact h2 _ _ (Nat.le_add_right _ _)
  · have ha2 : ltS y a = false := by
      obtain ⟨i, hi, rfl⟩ := List.mem_iff_getElem.mp ha
      rw [List.getElem_take]
      rw [List.length_take] at hi
      exact h1 _ _ (by omega)
    rcases List.mem_cons.mp hb with rfl | hb
    · exact ha2
    · obtain ⟨i, hi, rfl⟩ := List.mem_iff_getElem.mp hb
      rw [List.getElem_drop]
      exact leS_trans ha2 (h2 _ _ (Nat.le_add_right _ _))
theorem sort_insR {ks : List Str} (hs : SortS ks) (y : Str) : SortS (insAt (cntR ks y) y ks) :=
  sort_ins hs y _ (fun i h hi => (cntR_spec hs y h).mpr hi) fun i h hi => by
    cases e : ltS ks[i] y with
    | false => rfl
    | true =>
      have := (cntR_spec hs y h).mp (ltS_asymm e)
      omega
theorem sort_insL {ks : List Str} (hs : SortS ks) (y : Str) : SortS (insAt (cntL ks y) y ks) :=
  sort_ins hs y _ (fun i h hi => ltS_asymm ((cntL_spec hs y h).mpr hi)) fun i h hi => by
    cases e : ltS ks[i] y with
    | false => rfl
    | true =>
      have := (cntL_spec hs y h).mp e
      omega
theorem sort_drop {ks : List Str} (hs : SortS ks) (k : Nat) : SortS (ks.eraseIdx k) := hs.sublist (List.eraseIdx_sublist _ _)
/-- the half's turn -/
theorem halfR {ks : List Str} (hs : SortS ks) {y : Str} {mid : Nat} (h : mid < ks.length) : (ltS y ks[mid] = true → cntR ks y ≤ mid) ∧ (ltS y ks[mid] = false → mid < cntR ks y) :=
  ⟨fun e => by
    rcases Nat.lt_or_ge mid (cntR ks y) with c | c
    · rw [(cntR_spec hs y h).mpr c] at e; exact absurd e Bool.false_ne_true
    · exact c, fun e => (cntR_spec hs y h).mp e⟩
theorem halfL {ks : List Str} (hs : SortS ks) {y : Str} {mid : Nat} (h : mid < ks.length) : (ltS ks[mid] y = true → mid < cntL ks y) ∧ (ltS ks[mid] y = false → cntL ks y ≤ mid) :=
  ⟨fun e => (cntL_spec hs y h).mp e, fun e => by
    rcases Nat.lt_or_ge mid (cntL ks y) with c | c
    · rw [(cntL_spec hs y h).mpr c] at e; exact absurd e.symm Bool.false_ne_true
    · exact c⟩
end
section
theorem strs_len : ∀ {vs : List Value} {xs : List Str}, StrsAre vs xs → vs.length = xs.length
  | _, _, .nil => rfl
  | _, _, .cons _ _ r => by rw [List.length_cons, List.length_cons, strs_len r]
theorem strs_get : ∀ {vs : List Value} {xs : List Str}, StrsAre vs xs → ∀ {i : Nat} (h : i < xs.length), ∃ t, vs[i]? = some (.str xs[i] t)
  | _, _, .nil, i, h => absurd h (Nat.not_lt_zero _)
  | _, _, .cons y t r, 0, _ => ⟨t, rfl⟩
  | _, _, .cons y t r, i + 1, h => by
    obtain ⟨t', e⟩ := strs_get r (i := i) (by simpa using h)
    exact ⟨t', by simpa using e⟩
theorem strs_app : ∀ {vs : List Value} {xs : List Str} {us : List Value} {ys : List Str}, StrsAre vs xs → StrsAre us ys → StrsAre (vs ++ us) (xs ++ ys)
  | _, _, _, _, .nil, k => k
  | _, _, _, _, .cons y t r, k => .cons y t (strs_app r k)
theorem strs_take : ∀ {vs : List Value} {xs : List Str}, StrsAre vs xs → ∀ k, StrsAre (vs.take k) (xs.take k)
  | _, _, .nil, k => by simp only [List.take_nil]; exact .nil
  | _, _, .cons y t r, 0 => .nil
  | _, _, .cons y t r, k + 1 => .cons y t (strs_take r k)
theorem strs_drop : ∀ {vs : List Value} {xs : List Str}, StrsAre vs xs → ∀ k, StrsAre (vs.drop k) (xs.drop k)
  | _, _, .nil, k => by simp only [List.drop_nil]; exact .nil
  | _, _, .cons y t r, 0 => .cons y t r
  | _, _, .cons y t r, k + 1 => strs_drop r k
section
variable {prog : Program} {w : World} {A : Around} {E : Value → Shared → Prop} {s : Shared} {Q : Value → Shared → Prop} {h₀ : Heap} {L l : Addr} {m : Str → Option Value} {news : List (Addr × Obj)} {vs : List Value} {n : Nat} {xs : List Str}
theorem mem_list (N : News h₀ L s.heap news) (hm : (l, W.listOf vs.toArray n) ∈ news) : s.heap.IsList l vs.toArray := ⟨_, (N _ hm).1, rfl, n, rfl⟩
theorem half_step {a : Int} {t u : Tok} (h : ∀ t', Q (.int (a / 2) t') { s with toks := s.toks + 1 }) : wpAny (model prog w) A (binaryOp .FloorDiv (.int a t) (.int 2 u)) Q E s := by
  refine floordiv_int (by decide) ?_
  rw [show a.fdiv 2 = a / 2 from Int.fdiv_eq_ediv_of_nonneg _ (by decide)]
  exact h _
theorem lt_S {x y : Str} {t u : Tok} (h : Q (.bool (ltS x y)) s) : wpAny (model prog w) A (compareOp .Lt (.str x t) (.str y u)) Q E s :=
  compareOp_gives (op := .Lt) (typeIs_str s x t) (typeIs_str s y u) F.slot_str_lt F.entry_str_lt (F.args_str_lt_2 _ _) (gives_str_lt x y t u) (fun e => nomatch e) h
theorem len_S (N : News h₀ L s.heap news) (hm : (l, W.listOf vs.toArray n) ∈ news) (hs : StrsAre vs xs) (hb : xs.length ≤ 1000)
    (h : ∀ t tk, Q (.int (xs.length : Int) t) { s with toks := tk }) : wpAny (model prog w) A (call (.builtin "len") [.ref l]) Q E s := by
  have e : vs.toArray.size = xs.length := by rw [List.size_toArray, strs_len hs]
  exact len_list (mem_list N hm) (by rw [e]; omega) (e ▸ h _ _)
theorem item_S {value slice : PySem.Expr} {k : Int} {u : Tok} (N : News h₀ L s.heap news) (hm : (l, W.listOf vs.toArray n) ∈ news) (hs : StrsAre vs xs) (hb : xs.length ≤ 1000) (h0 : 0 ≤ k) (h1 : k < (xs.length : Int)) (hx : ∀ x ∈ xs, x.length ≤ 100)
    (h : ∀ x t, xs[k.toNat]? = some x → x.length ≤ 1000 → Q (.str x t) s) (he : subscripted slice false (.ref l) (.int k u) = operate [.ref l, .int k u] (getItem (.ref l) (.int k u)) := by with_unfolding_all rfl) :
    wpAny (model prog w) A (subscriptTail value slice (.ref l) (.int k u)) Q E s := by
  obtain ⟨t, e⟩ := strs_get hs (i := k.toNat) (by omega)
  exact tail_any (mem_list N hm).typeIs slot_list_getitem.lookup (wpAny_getItem_list (mem_list N hm) h0 (by omega) (by simpa using e) (h _ t (List.getElem?_eq_getElem _) (Nat.le_trans (hx _ (List.getElem_mem _)) (by decide)))) he
end
theorem at_map {xs : List Str} {k : Nat} {x : Str} (hx : xs[k]? = some x) : ∃ h : k < (xs.map stripS).length, (xs.map stripS)[k] = stripS x := by
  obtain ⟨h, e⟩ := List.getElem?_eq_some_iff.mp hx
  exact ⟨by rw [List.length_map]; exact h, by rw [List.getElem_map, e]⟩
theorem halfR_le {xs : List Str} {y x : Str} {k : Int} (so : SortS (xs.map stripS)) (h0 : 0 ≤ k) (hx : xs[k.toNat]? = some x) (e : ltS y (stripS x) = true) : (cntR (xs.map stripS) y : Int) ≤ k := by
  obtain ⟨h, e1⟩ := at_map hx
  have := (halfR so (y := y) h).1 (by rw [e1]; exact e)
  omega
theorem halfR_gt {xs : List Str} {y x : Str} {k : Int} (so : SortS (xs.map stripS)) (h0 : 0 ≤ k) (hx : xs[k.toNat]? = some x) (e : ltS y (stripS x) = false) : k + 1 ≤ (cntR (xs.map stripS) y : Int) := by
  obtain ⟨h, e1⟩ := at_map hx
  have := (halfR so (y := y) h).2 (by rw [e1]; exact e)
  omega
theorem halfL_gt {xs : List Str} {y x : Str} {k : Int} (so : SortS (xs.map stripS)) (h0 : 0 ≤ k) (hx : xs[k.toNat]? = some x) (e : ltS (stripS x) y = true) : k + 1 ≤ (cntL (xs.map stripS) y : Int) := by
  obtain ⟨h, e1⟩ := at_map hx
  have := (halfL so (y := y) h).1 (by rw [e1]; exact e)
  omega
theorem halfL_le {xs : List Str} {y x : Str} {k : Int} (so : SortS (xs.map stripS)) (h0 : 0 ≤ k) (hx : xs[k.toNat]? = some x) (e : ltS (stripS x) y = false) : (cntL (xs.map stripS) y : Int) ≤ k := by
  obtain ⟨h, e1⟩ := at_map hx
  have := (halfL so (y := y) h).2 (by rw [e1]; exact e)
  omega
end
section
noncomputable def peekAt (K : Frag) (S : Setting) (a : Addr) (args : Args) : Option (List (Str × Value)) := match K.lookup a with
  | some ⟨_, _, .func fd, _⟩ => peek K S (bindArgs fd args)
  | _ => none
theorem bisectR_any (w : World) (mean mg mb) (r : Addr) (vs : List Value) (xs : List Str) (n : Nat) (y : Str) (t : Tok) (news) (hm : (r, W.listOf vs.toArray n) ∈ news) (hs : StrsAre vs xs) (hl : xs.length ≤ 8) (hx : ∀ x ∈ xs, x.length ≤ 100) (hy : y.length ≤ 100) (so : SortS (xs.map stripS)) (vs₀ : List Value) (tz : Tok) (hb : ∀ S, peekAt (hd.heap_39 w.params) S 46 ⟨vs₀, [(Str.ofString "key", .ref 28)]⟩ = some [(Str.ofString "a", .ref r), (Str.ofString "x", .str y t), (Str.ofString "lo", .int 0 tz), (Str.ofString "hi", .none), (Str.ofString "key", .ref 28)]) :
    Does 2 16 w mean mg mb 46 vs₀ [(Str.ofString "key", .ref 28)] news (IsI (cntR (xs.map stripS) y) news) := by
  w_top off
  k_with_none
  k_with "ktr_rel" => (first | exact sub_refl _ | assumption | (refine sub_cons ?_; ktr_rel))
  k_with "k_mem" => (first | assumption | exact List.Mem.head _ | (refine List.Mem.tail _ ?_; k_mem))
  k_with "k_all" => (first | assumption | exact off_lt (by assumption) (by omega) | ((rename (_ ∧ _ ∧ AllLt _ _) => hl9); exact off_all hl9.2.2) | exact List.forall_mem_nil _ | (refine List.forall_mem_cons.mpr ⟨by first | assumption | exact Ne.symm (by assumption) | k_ne, ?_⟩; k_all))
  k_with "call builtin:len" => ((k_here; (with_reducible show wpAny _ _ (call (Value.builtin "len") [Value.ref _]) _ _ _); k_dflt (refine len_S (by k_asm) (by k_mem) (by assumption) (by first | with_reducible assumption | with_reducible exact And.left (by assumption) | with_reducible exact And.right (by assumption) | with_reducible exact Int.ofNat_lt.mp (by assumption) | omega) ?_); intro t' tk'))
  k_with "subscriptTail Name Name ref int" => ((k_here; (with_reducible show wpAny _ _ (subscriptTail _ _ (Value.ref _) (Value.int _ _)) _ _ _); k_dflt (refine item_S (by k_asm) (by k_mem) (by assumption) (by first | with_reducible assumption | with_reducible exact And.left (by assumption) | with_reducible exact And.right (by assumption) | with_reducible exact Int.ofNat_lt.mp (by assumption) | omega) (by first | with_reducible assumption | with_reducible exact And.left (by assumption) | with_reducible exact And.right (by assumption) | with_reducible exact Int.ofNat_lt.mp (by assumption) | omega) (by first | with_reducible assumption | with_reducible exact And.left (by assumption) | with_reducible exact And.right (by assumption) | with_reducible exact Int.ofNat_lt.mp (by assumption) | omega) (by assumption) ?_); intro x' t' hx' hl'))
  k_with "call ref" => ((k_here; (with_reducible show wpAny _ _ (call (Value.ref 28) [Value.str _ _] _) _ _ _); k_dflt (refine does_S (by k_asm) (by k_asm) (by k_asm) (by k_asm) (by k_asm) (by first | exact rfl | assumption) (strip_does _ _ _ _ _ (by assumption) _ _) (by ktr_room) (by ktr_units) ?_); intro t9 h9 tk9 F9 N9; (try dsimp only); (try k_fold)))
  k_with "binaryOp FloorDiv int int" => ((k_here; (with_reducible show wpAny _ _ (binaryOp _ (Value.int _ _) (Value.int 2 _)) _ _ _); (refine half_step ?_); intro t'))
  k_with "compareOp Lt str str" => ((k_here; (with_reducible show wpAny _ _ (compareOp _ (Value.str _ _) (Value.str _ _)) _ _ _); (refine lt_S ?_)))
  k_with "KswEnd" => ((refine ksw_end (_, _, _, _) (by assumption) (by assumption) (fun _ h => h) True.intro (by kst_all) (by ksw_same) ?_ ?_))
  unfold Does; k_fill
  intro dp un gd cn cs a ccd cl outer A₀ base h₀ L m s Q E B F X N T hk hd hu hret
  refine wpAny_call ?_
  k_dflt (refine' code_def ?k1 ?k2 ?k3 ?k4 ?k5 ?kA ?kF ?kK ?k6 ?k7 ?k8 ?k9 ?kB ?_ ?c2 ?c3 ?c4 ?c5; (case kA => exact rfl); (case kF => exact rfl); (case kK => assumption); (case k1 => k_asm); (case k2 => k_asm); (case k3 => k_asm); (case k4 => k_asm); (case k5 => k_asm); (case k6 => k_is); (case k7 => k_is); (case k8 => ktr_room); (case k9 => exact kp_binds (by k_in) hb); (case c5 => decide); (case kB => exact locs rfl); (case c2 => exact rfl); (case c3 => exact rfl); (case c4 => exact rfl); k_whole; intro g' L' h' FG' F' N' B' X' T'; (try dsimp only); (try k_lift B'); (try k_fold))
  have c0 : cntR (xs.map stripS) y ≤ xs.length := by have := cntR_le (xs.map stripS) y; rwa [List.length_map] at this
  k_with "exec While Compare cons nil" => ((rename Fr _ _ _ _ => lF'); (rename News _ _ _ _ => lN'); (with_unfolding_all refine' ksw_while (σ := Int × Tok × Int × Tok) (fun _ => news) (fun c => [(Str.ofString "lo", Value.int c.1 c.2.1), (Str.ofString "hi", Value.int c.2.2.1 c.2.2.2)]) (fun _ => True) [Str.ofString "mid"] (fun c => 0 ≤ c.1 ∧ c.1 ≤ (cntR (xs.map stripS) y : Int) ∧ (cntR (xs.map stripS) y : Int) ≤ c.2.2.1 ∧ c.2.2.1 ≤ (xs.length : Int)) (fun c => (c.2.2.1 - c.1).toNat) (_, _, _, _) lF' lN' True.intro ?kk ?kp ?_); (case kk => kst_all); (case kp => dsimp only; omega); (clear lF' lN'); intro c u h tk _ hP hF hN; obtain ⟨lo, tl, hi, th⟩ := c; dsimp only [kstB] at hF; dsimp only at hP hN; obtain ⟨p0, p1, p2, p3⟩ := hP; (try k_fold))
  k_steps
  · dsimp only
    exact halfR_le so (by omega) (by assumption) (by assumption)
  · dsimp only
    exact halfR_gt so (by omega) (by assumption) (by assumption)
  · refine ret_I hret (by k_asm) (by k_asm) (sub_refl _) ?_
    omega
theorem bisectR2_does (w : World) (mean mg mb) (r : Addr) (vs : List Value) (xs : List Str) (n : Nat) (y : Str) (t : Tok) (news) (hm : (r, W.listOf vs.toArray n) ∈ news) (hs : StrsAre vs xs) (hl : xs.length ≤ 8) (hx : ∀ x ∈ xs, x.length ≤ 100) (hy : y.length ≤ 100) (so : SortS (xs.map stripS)) :
    Does 2 16 w mean mg mb 46 [.ref r, .str y t] [(Str.ofString "key", .ref 28)] news (IsI (cntR (xs.map stripS) y) news) :=
  bisectR_any w mean mg mb r vs xs n y t news hm hs hl hx hy so _ _ fun _ => rfl
theorem bisectR4_does (w : World) (mean mg mb) (r : Addr) (vs : List Value) (xs : List Str) (n : Nat) (y : Str) (t t0 : Tok) (news) (hm : (r, W.listOf vs.toArray n) ∈ news) (hs : StrsAre vs xs) (hl : xs.length ≤ 8) (hx : ∀ x ∈ xs, x.length ≤ 100) (hy : y.length ≤ 100) (so : SortS (xs.map stripS)) :
    Does 2 16 w mean mg mb 46 [.ref r, .str y t, .int 0 t0, .none] [(Str.ofString "key", .ref 28)] news (IsI (cntR (xs.map stripS) y) news) :=
  bisectR_any w mean mg mb r vs xs n y t news hm hs hl hx hy so _ _ fun _ => rfl
theorem bisectL_any (w : World) (mean mg mb) (r : Addr) (vs : List Value) (xs : List Str) (n : Nat) (y : Str) (t : Tok) (news) (hm : (r, W.listOf vs.toArray n) ∈ news) (hs : StrsAre vs xs) (hl : xs.length ≤ 8) (hx : ∀ x ∈ xs, x.length ≤ 100) (hy : y.length ≤ 100) (so : SortS (xs.map stripS)) (vs₀ : List Value) (tz : Tok) (hb : ∀ S, peekAt (hd.heap_39 w.params) S 64 ⟨vs₀, [(Str.ofString "key", .ref 28)]⟩ = some [(Str.ofString "a", .ref r), (Str.ofString "x", .str y t), (Str.ofString "lo", .int 0 tz), (Str.ofString "hi", .none), (Str.ofString "key", .ref 28)]) :
    Does 2 16 w mean mg mb 64 vs₀ [(Str.ofString "key", .ref 28)] news (IsI (cntL (xs.map stripS) y) news) := by
  w_top off
  k_with_none
  k_with "ktr_rel" => (first | exact sub_refl _ | assumption | (refine sub_cons ?_; ktr_rel))
  k_with "k_mem" => (first | assumption | exact List.Mem.head _ | (refine List.Mem.tail _ ?_; k_mem))
  k_with "k_all" => (first | assumption | exact off_lt (by assumption) (by omega) | ((rename (_ ∧ _ ∧ AllLt _ _) => hl9); exact off_all hl9.2.2) | exact List.forall_mem_nil _ | (refine List.forall_mem_cons.mpr ⟨by first | assumption | exact Ne.symm (by assumption) | k_ne, ?_⟩; k_all))
  k_with "call builtin:len" => ((k_here; (with_reducible show wpAny _ _ (call (Value.builtin "len") [Value.ref _]) _ _ _); k_dflt (refine len_S (by k_asm) (by k_mem) (by assumption) (by first | with_reducible assumption | with_reducible exact And.left (by assumption) | with_reducible exact And.right (by assumption) | with_reducible exact Int.ofNat_lt.mp (by assumption) | omega) ?_); intro t' tk'))
  k_with "subscriptTail Name Name ref int" => ((k_here; (with_reducible show wpAny _ _ (subscriptTail _ _ (Value.ref _) (Value.int _ _)) _ _ _); k_dflt (refine item_S (by k_asm) (by k_mem) (by assumption) (by first | with_reducible assumption | with_reducible exact And.left (by assumption) | with_reducible exact And.right (by assumption) | with_reducible exact Int.ofNat_lt.mp (by assumption) | omega) (by first | with_reducible assumption | with_reducible exact And.left (by assumption) | with_reducible exact And.right (by assumption) | with_reducible exact Int.ofNat_lt.mp (by assumption) | omega) (by first | with_reducible assumption | with_reducible exact And.left (by assumption) | with_reducible exact And.right (by assumption) | with_reducible exact Int.ofNat_lt.mp (by assumption) | omega) (by assumption) ?_); intro x' t' hx' hl'))
  k_with "call ref" => ((k_here; (with_reducible show wpAny _ _ (call (Value.ref 28) [Value.str _ _] _) _ _ _); k_dflt (refine does_S (by k_asm) (by k_asm) (by k_asm) (by k_asm) (by k_asm) (by first | exact rfl | assumption) (strip_does _ _ _ _ _ (by assumption) _ _) (by ktr_room) (by ktr_units) ?_); intro t9 h9 tk9 F9 N9; (try dsimp only); (try k_fold)))
  k_with "binaryOp FloorDiv int int" => ((k_here; (with_reducible show wpAny _ _ (binaryOp _ (Value.int _ _) (Value.int 2 _)) _ _ _); (refine half_step ?_); intro t'))
  k_with "compareOp Lt str str" => ((k_here; (with_reducible show wpAny _ _ (compareOp _ (Value.str _ _) (Value.str _ _)) _ _ _); (refine lt_S ?_)))
  k_with "KswEnd" => ((refine ksw_end (_, _, _, _) (by assumption) (by assumption) (fun _ h => h) True.intro (by kst_all) (by ksw_same) ?_ ?_))
  unfold Does; k_fill
  intro dp un gd cn cs a ccd cl outer A₀ base h₀ L m s Q E B F X N T hk hd hu hret
  refine wpAny_call ?_
  k_dflt (refine' code_def ?k1 ?k2 ?k3 ?k4 ?k5 ?kA ?kF ?kK ?k6 ?k7 ?k8 ?k9 ?kB ?_ ?c2 ?c3 ?c4 ?c5; (case kA => exact rfl); (case kF => exact rfl); (case kK => assumption); (case k1 => k_asm); (case k2 => k_asm); (case k3 => k_asm); (case k4 => k_asm); (case k5 => k_asm); (case k6 => k_is); (case k7 => k_is); (case k8 => ktr_room); (case k9 => exact kp_binds (by k_in) hb); (case c5 => decide); (case kB => exact locs rfl); (case c2 => exact rfl); (case c3 => exact rfl); (case c4 => exact rfl); k_whole; intro g' L' h' FG' F' N' B' X' T'; (try dsimp only); (try k_lift B'); (try k_fold))
  have c0 : cntL (xs.map stripS) y ≤ xs.length := by have := cntL_le (xs.map stripS) y; rwa [List.length_map] at this
  k_with "exec While Compare cons nil" => ((rename Fr _ _ _ _ => lF'); (rename News _ _ _ _ => lN'); (with_unfolding_all refine' ksw_while (σ := Int × Tok × Int × Tok) (fun _ => news) (fun c => [(Str.ofString "lo", Value.int c.1 c.2.1), (Str.ofString "hi", Value.int c.2.2.1 c.2.2.2)]) (fun _ => True) [Str.ofString "mid"] (fun c => 0 ≤ c.1 ∧ c.1 ≤ (cntL (xs.map stripS) y : Int) ∧ (cntL (xs.map stripS) y : Int) ≤ c.2.2.1 ∧ c.2.2.1 ≤ (xs.length : Int)) (fun c => (c.2.2.1 - c.1).toNat) (_, _, _, _) lF' lN' True.intro ?kk ?kp ?_); (case kk => kst_all); (case kp => dsimp only; omega); (clear lF' lN'); intro c u h tk _ hP hF hN; obtain ⟨lo, tl, hi, th⟩ := c; dsimp only [kstB] at hF; dsimp only at hP hN; obtain ⟨p0, p1, p2, p3⟩ := hP; (try k_fold))
  k_steps
  · dsimp only
    exact halfL_gt so (by omega) (by assumption) (by assumption)
  · dsimp only
    exact halfL_le so (by omega) (by assumption) (by assumption)
  · refine ret_I hret (by k_asm) (by k_asm) (sub_refl _) ?_
    omega
theorem bisectL2_does (w : World) (mean mg mb) (r : Addr) (vs : List Value) (xs : List Str) (n : Nat) (y : Str) (t : Tok) (news) (hm : (r, W.listOf vs.toArray n) ∈ news) (hs : StrsAre vs xs) (hl : xs.length ≤ 8) (hx : ∀ x ∈ xs, x.length ≤ 100) (hy : y.length ≤ 100) (so : SortS (xs.map stripS)) :
    Does 2 16 w mean mg mb 64 [.ref r, .str y t] [(Str.ofString "key", .ref 28)] news (IsI (cntL (xs.map stripS) y) news) :=
  bisectL_any w mean mg mb r vs xs n y t news hm hs hl hx hy so _ _ fun _ => rfl
theorem bisectL4_does (w : World) (mean mg mb) (r : Addr) (vs : List Value) (xs : List Str) (n : Nat) (y : Str) (t t0 : Tok) (news) (hm : (r, W.listOf vs.toArray n) ∈ news) (hs : StrsAre vs xs) (hl : xs.length ≤ 8) (hx : ∀ x ∈ xs, x.length ≤ 100) (hy : y.length ≤ 100) (so : SortS (xs.map stripS)) :
    Does 2 16 w mean mg mb 64 [.ref r, .str y t, .int 0 t0, .none] [(Str.ofString "key", .ref 28)] news (IsI (cntL (xs.map stripS) y) news) :=
  bisectL_any w mean mg mb r vs xs n y t news hm hs hl hx hy so _ _ fun _ => rfl
end
section
theorem strs_ins {vs : List Value} {xs : List Str} (h : StrsAre vs xs) (k : Nat) (y : Str) (t : Tok) : StrsAre (insAt k (.str y t) vs) (insAt k y xs) :=
  strs_app (strs_take h k) (.cons y t (strs_drop h k))
theorem kl_ins_at (vs : List Value) {k : Nat} (hk : k ≤ vs.length) (y : Value) : kl_ins vs.toArray.toList (k : Int) y = insAt k y vs := by
  unfold kl_ins insAt
  have e : (if (k : Int) < 0 then ((k : Int) + (vs.toArray.toList.length : Int)).toNat else min (k : Int).toNat vs.toArray.toList.length) = k := by
    rw [if_neg (by omega)]
    show min (k : Int).toNat vs.length = k
    omega
  rw [e]
section
variable {prog : Program} {w : World} {A : Around} {E : Value → Shared → Prop} {s : Shared} {Q : Value → Shared → Prop} {h₀ : Heap} {L D : Addr} {m : Str → Option Value} {rest : List (Addr × Obj)} {vs : List Value} {n : Nat}
theorem insert_S {k : Nat} {u : Tok} {y : Value} (F : Fr h₀ L s.heap m) (N : News h₀ L s.heap ((D, W.listOf vs.toArray n) :: rest)) (hr : ∀ p ∈ rest, p.1 ≠ D) (hv : vs.length ≤ 1000) (hk : k ≤ vs.length)
    (h : ∀ h', Fr h₀ L h' m → News h₀ L h' ((D, W.listOf (insAt k y vs).toArray (n + 1)) :: rest) → Q .none { s with heap := h' }) :
    wpAny (model prog w) A (call (.builtin "list.insert") [.ref D, .int (k : Int) u, y]) Q E s :=
  kl_insert F N (by simp only [Builtin.List.listFitsIndex, Bool.and_eq_true, decide_eq_true_eq]; omega) (kl_ins_at vs hk y) (Upd.head hr) (by show vs.length ≤ sizeLine; rw [sizeLine_eq]; omega) h
end
end
section
noncomputable def IsIns (r : Addr) (xs : List Str) (rest : List (Addr × Obj)) : Post := fun v n => ∃ (vs : List Value) (k : Nat), v = .none ∧ n = (r, W.listOf vs.toArray k) :: rest ∧ StrsAre vs xs
section
variable {D U : Nat} {w : World} {mean : ExcName → Option Value} {mg mb : Str → Option Value} {f : Addr} {vs : List Value} {kw : List (Str × Value)} {news : List (Addr × Obj)} {dp un : Nat} {gd : Option (List Code)} {cn : Str} {cs : Scope} {a : Addr} {ccd : Value} {cl : List (Str × Addr)} {outer : List Env} {A₀ : Around} {base h₀ : Heap} {L : Addr} {m : Str → Option Value} {s : Shared} {Q E : Value → Shared → Prop}
theorem does_Ins {r : Addr} {xs : List Str} {rest : List (Addr × Obj)} (B : Below A₀ base outer h₀) (F : Fr h₀ L s.heap m) (X : (hd.heap_39 w.params).In h₀) (N : News h₀ L s.heap news) (T : Top hd.view_39 LS mean mg mb h₀) (hk : cs.kind = .function) (C : Does D U w mean mg mb f vs kw news (IsIns r xs rest))
    (h1 : dp + D < recursionLimit) (h2 : un + U < cLine)
    (ret : ∀ (us : List Value) (k : Nat) (h' : Heap) (tk' : Nat), Fr h₀ L h' m → News h₀ L h' ((r, W.listOf us.toArray k) :: rest) → StrsAre us xs → Q (.none) { s with heap := h', toks := tk' }) : wpAny (model Challenge.rw_pg0185_01.row.prog w) (ktrTop dp un gd cn cs L a ccd cl outer) (call (.ref f) vs kw) Q E s :=
  does_use C B F X N T hk h1 h2 fun v n h' tk' F' N' hp => by
    obtain ⟨us, k, rfl, rfl, hs⟩ := hp
    exact ret us k h' tk' F' N' hs
end
theorem stripS_le (x : Str) : (stripS x).length ≤ x.length := Txt.slice_le _ _ _
theorem insortR_does (w : World) (mean mg mb) (r : Addr) (vs : List Value) (xs : List Str) (n : Nat) (y : Str) (t : Tok) (rest : List (Addr × Obj)) (hr : ∀ p ∈ rest, p.1 ≠ r) (hs : StrsAre vs xs) (hl : xs.length ≤ 8) (hx : ∀ x ∈ xs, x.length ≤ 100) (hy : y.length ≤ 100) (so : SortS (xs.map stripS)) :
    Does 3 24 w mean mg mb 37 [.ref r, .str y t] [(Str.ofString "key", .ref 28)] ((r, W.listOf vs.toArray n) :: rest) (IsIns r (insAt (cntR (xs.map stripS) (stripS y)) y xs) rest) := by
  have hvl := strs_len hs
  have hc := cntR_le (xs.map stripS) (stripS y)
  rw [List.length_map] at hc
  have hy2 : (stripS y).length ≤ 100 := Nat.le_trans (stripS_le y) hy
  w_top off
  k_with_none
  k_with "ktr_rel" => (first | exact sub_refl _ | assumption | (refine sub_cons ?_; ktr_rel))
  k_with "k_mem" => (first | assumption | exact List.Mem.head _ | (refine List.Mem.tail _ ?_; k_mem))
  k_with "k_all" => (first | assumption | exact off_lt (by assumption) (by omega) | ((rename (_ ∧ _ ∧ AllLt _ _) => hl9); exact off_all hl9.2.2) | exact List.forall_mem_nil _ | (refine List.forall_mem_cons.mpr ⟨by first | assumption | exact Ne.symm (by assumption) | k_ne, ?_⟩; k_all))
  k_with "call ref" => ((k_here; (with_reducible show wpAny _ _ (call (Value.ref 28) [Value.str _ _] _) _ _ _); k_dflt (refine does_S (by k_asm) (by k_asm) (by k_asm) (by k_asm) (by k_asm) (by first | exact rfl | assumption) (strip_does _ _ _ _ _ (by first | with_reducible assumption | with_reducible exact And.left (by assumption) | with_reducible exact And.right (by assumption) | with_reducible exact Int.ofNat_lt.mp (by assumption) | omega) _ _) (by ktr_room) (by ktr_units) ?_); intro t9 h9 tk9 F9 N9; (try dsimp only); (try k_fold)))
  k_with "call ref" => ((k_here; (with_reducible show wpAny _ _ (call (Value.ref 46) [Value.ref _, Value.str _ _, Value.int _ _, Value.none] _) _ _ _); k_dflt (refine does_I (by k_asm) (by k_asm) (by k_asm) (by k_asm) (by k_asm) (by first | exact rfl | assumption) (bisectR4_does _ _ _ _ _ _ _ _ _ _ _ _ (by k_mem) (by assumption) (by assumption) (by assumption) (by assumption) (by assumption)) (by ktr_room) (by ktr_units) ?_); intro t9 h9 tk9 F9 N9; (try dsimp only); (try k_fold)))
  k_with "call ref" => ((k_here; (with_reducible show wpAny _ _ (call (Value.ref 64) [Value.ref _, Value.str _ _, Value.int _ _, Value.none] _) _ _ _); k_dflt (refine does_I (by k_asm) (by k_asm) (by k_asm) (by k_asm) (by k_asm) (by first | exact rfl | assumption) (bisectL4_does _ _ _ _ _ _ _ _ _ _ _ _ (by k_mem) (by assumption) (by assumption) (by assumption) (by assumption) (by assumption)) (by ktr_room) (by ktr_units) ?_); intro t9 h9 tk9 F9 N9; (try dsimp only); (try k_fold)))
  k_with "call builtin:list.insert" => ((k_here; (with_reducible show wpAny _ _ (call (Value.builtin _) [Value.ref _, Value.int _ _, _]) _ _ _); k_dflt (refine insert_S (by k_asm) (by k_asm) (by assumption) (by first | with_reducible assumption | with_reducible exact And.left (by assumption) | with_reducible exact And.right (by assumption) | with_reducible exact Int.ofNat_lt.mp (by assumption) | omega) (by first | with_reducible assumption | with_reducible exact And.left (by assumption) | with_reducible exact And.right (by assumption) | with_reducible exact Int.ofNat_lt.mp (by assumption) | omega) ?_); intro h' F' N'))
  unfold Does; k_fill
  intro dp un gd cn cs a ccd cl outer A₀ base h₀ L m s Q E B F X N T hk hd hu hret
  refine wpAny_call ?_
  k_dflt (refine' code_def ?k1 ?k2 ?k3 ?k4 ?k5 ?kA ?kF ?kK ?k6 ?k7 ?k8 ?k9 ?kB ?_ ?c2 ?c3 ?c4 ?c5; (case kA => exact rfl); (case kF => exact rfl); (case kK => assumption); (case k1 => k_asm); (case k2 => k_asm); (case k3 => k_asm); (case k4 => k_asm); (case k5 => k_asm); (case k6 => k_is); (case k7 => k_is); (case k8 => ktr_room); (case k9 => (refine' kp_binds ?kx ?ke; (case kx => k_in); (case ke => exact fun _ => rfl))); (case c5 => decide); (case kB => exact locs rfl); (case c2 => exact rfl); (case c3 => exact rfl); (case c4 => exact rfl); k_whole; intro g' L' h' FG' F' N' B' X' T'; (try dsimp only); (try k_lift B'); (try k_fold))
  k_steps
  exact hret _ _ _ _ (by k_asm) (by k_asm) ⟨_, _, rfl, rfl, strs_ins hs _ _ _⟩
theorem insortL_does (w : World) (mean mg mb) (r : Addr) (vs : List Value) (xs : List Str) (n : Nat) (y : Str) (t : Tok) (rest : List (Addr × Obj)) (hr : ∀ p ∈ rest, p.1 ≠ r) (hs : StrsAre vs xs) (hl : xs.length ≤ 8) (hx : ∀ x ∈ xs, x.length ≤ 100) (hy : y.length ≤ 100) (so : SortS (xs.map stripS)) :
    Does 3 24 w mean mg mb 55 [.ref r, .str y t] [(Str.ofString "key", .ref 28)] ((r, W.listOf vs.toArray n) :: rest) (IsIns r (insAt (cntL (xs.map stripS) (stripS y)) y xs) rest) := by
  have hvl := strs_len hs
  have hc := cntL_le (xs.map stripS) (stripS y)
  rw [List.length_map] at hc
  have hy2 : (stripS y).length ≤ 100 := Nat.le_trans (stripS_le y) hy
  w_top off
  k_with_none
  k_with "ktr_rel" => (first | exact sub_refl _ | assumption | (refine sub_cons ?_; ktr_rel))
  k_with "k_mem" => (first | assumption | exact List.Mem.head _ | (refine List.Mem.tail _ ?_; k_mem))
  k_with "k_all" => (first | assumption | exact off_lt (by assumption) (by omega) | ((rename (_ ∧ _ ∧ AllLt _ _) => hl9); exact off_all hl9.2.2) | exact List.forall_mem_nil _ | (refine List.forall_mem_cons.mpr ⟨by first | assumption | exact Ne.symm (by assumption) | k_ne, ?_⟩; k_all))
  k_with "call ref" => ((k_here; (with_reducible show wpAny _ _ (call (Value.ref 28) [Value.str _ _] _) _ _ _); k_dflt (refine does_S (by k_asm) (by k_asm) (by k_asm) (by k_asm) (by k_asm) (by first | exact rfl | assumption) (strip_does _ _ _ _ _ (by first | with_reducible assumption | with_reducible exact And.left (by assumption) | with_reducible exact And.right (by assumption) | with_reducible exact Int.ofNat_lt.mp (by assumption) | omega) _ _) (by ktr_room) (by ktr_units) ?_); intro t9 h9 tk9 F9 N9; (try dsimp only); (try k_fold)))
  k_with "call ref" => ((k_here; (with_reducible show wpAny _ _ (call (Value.ref 46) [Value.ref _, Value.str _ _, Value.int _ _, Value.none] _) _ _ _); k_dflt (refine does_I (by k_asm) (by k_asm) (by k_asm) (by k_asm) (by k_asm) (by first | exact rfl | assumption) (bisectR4_does _ _ _ _ _ _ _ _ _ _ _ _ (by k_mem) (by assumption) (by assumption) (by assumption) (by assumption) (by assumption)) (by ktr_room) (by ktr_units) ?_); intro t9 h9 tk9 F9 N9; (try dsimp only); (try k_fold)))
  k_with "call ref" => ((k_here; (with_reducible show wpAny _ _ (call (Value.ref 64) [Value.ref _, Value.str _ _, Value.int _ _, Value.none] _) _ _ _); k_dflt (refine does_I (by k_asm) (by k_asm) (by k_asm) (by k_asm) (by k_asm) (by first | exact rfl | assumption) (bisectL4_does _ _ _ _ _ _ _ _ _ _ _ _ (by k_mem) (by assumption) (by assumption) (by assumption) (by assumption) (by assumption)) (by ktr_room) (by ktr_units) ?_); intro t9 h9 tk9 F9 N9; (try dsimp only); (try k_fold)))
  k_with "call builtin:list.insert" => ((k_here; (with_reducible show wpAny _ _ (call (Value.builtin _) [Value.ref _, Value.int _ _, _]) _ _ _); k_dflt (refine insert_S (by k_asm) (by k_asm) (by assumption) (by first | with_reducible assumption | with_reducible exact And.left (by assumption) | with_reducible exact And.right (by assumption) | with_reducible exact Int.ofNat_lt.mp (by assumption) | omega) (by first | with_reducible assumption | with_reducible exact And.left (by assumption) | with_reducible exact And.right (by assumption) | with_reducible exact Int.ofNat_lt.mp (by assumption) | omega) ?_); intro h' F' N'))
  unfold Does; k_fill
  intro dp un gd cn cs a ccd cl outer A₀ base h₀ L m s Q E B F X N T hk hd hu hret
  refine wpAny_call ?_
  k_dflt (refine' code_def ?k1 ?k2 ?k3 ?k4 ?k5 ?kA ?kF ?kK ?k6 ?k7 ?k8 ?k9 ?kB ?_ ?c2 ?c3 ?c4 ?c5; (case kA => exact rfl); (case kF => exact rfl); (case kK => assumption); (case k1 => k_asm); (case k2 => k_asm); (case k3 => k_asm); (case k4 => k_asm); (case k5 => k_asm); (case k6 => k_is); (case k7 => k_is); (case k8 => ktr_room); (case k9 => (refine' kp_binds ?kx ?ke; (case kx => k_in); (case ke => exact fun _ => rfl))); (case c5 => decide); (case kB => exact locs rfl); (case c2 => exact rfl); (case c3 => exact rfl); (case c4 => exact rfl); k_whole; intro g' L' h' FG' F' N' B' X' T'; (try dsimp only); (try k_lift B'); (try k_fold))
  k_steps
  exact hret _ _ _ _ (by k_asm) (by k_asm) ⟨_, _, rfl, rfl, strs_ins hs _ _ _⟩
end
section
noncomputable def hx6 (h : UInt64) : UInt64 := Float64.mul h 0x4018000000000000
noncomputable def zOf (h : UInt64) : Int := PySem.Flt.toInt Float64.truncOf (hx6 h)
noncomputable def fOf (h : UInt64) : UInt64 := Float64.sub (hx6 h) (Float64.ofInt (zOf h))
noncomputable def pF (s v : UInt64) : UInt64 := Float64.mul v (Float64.sub 0x3ff0000000000000 s)
noncomputable def qF (h s v : UInt64) : UInt64 := pF (Float64.mul s (fOf h)) v
noncomputable def tF (h s v : UInt64) : UInt64 := pF (Float64.mul s (Float64.sub 0x3ff0000000000000 (fOf h))) v
noncomputable def rgbG (h s v : UInt64) : UInt64 × UInt64 × UInt64 :=
  if (Float64.cmp s 0 == some .eq) = true then (v, v, v)
  else if (zOf h).fmod 6 = 0 then (v, tF h s v, pF s v)
  else if (zOf h).fmod 6 = 1 then (qF h s v, v, pF s v)
  else if (zOf h).fmod 6 = 2 then (pF s v, v, tF h s v)
  else if (zOf h).fmod 6 = 3 then (pF s v, qF h s v, v)
  else if (zOf h).fmod 6 = 4 then (tF h s v, pF s v, v)
  else (v, pF s v, qF h s v)
section
variable {prog : Program} {w : World} {A : Around} {E : Value → Shared → Prop} {s : Shared} {Q : Value → Shared → Prop}
theorem int_step {h : UInt64} {t : Tok} (hA : A.handled = none) (hf : Float64.isFinite (hx6 h) = true) (q : Q (.int (zOf h) s.toks) { s with toks := s.toks + 1 }) : wpAny (model prog w) A (call (.type "int") [.float (Float64.mul h 0x4018000000000000) t]) Q E s :=
  PySem.Flt.call_int_float3 hA (fun e => absurd e (fin_nan hf).1) (fun e => absurd e (fin_nan hf).2) fun _ => q
theorem sub_step {h : UInt64} {t u : Tok} (h0 : 0 ≤ zOf h) (h1 : zOf h < 1000) (q : Q (.float (fOf h) s.toks) { s with toks := s.toks + 1 }) : wpAny (model prog w) A (binaryOp .Sub (.float (Float64.mul h 0x4018000000000000) t) (.int (zOf h) u)) Q E s :=
  sub_fi_fits (Nat.lt_of_lt_of_le (by omega : (zOf h).natAbs < 2 ^ 20) (Nat.pow_le_pow_right (by decide) (by decide))) q
end
theorem hsv_does (w : World) (mean mg mb) (x y z : UInt64) (hf : Float64.isFinite (hx6 x) = true) (z0 : 0 ≤ zOf x) (z1 : zOf x < 1000) (t u v : Tok) (news) : Does 1 8 w mean mg mb 78 [.float x t, .float y u, .float z v] [] news (IsF3 (rgbG x y z).1 (rgbG x y z).2.1 (rgbG x y z).2.2 news) := by
  have m0 := Int.fmod_nonneg_of_pos (zOf x) (b := 6) (by omega)
  have m1 := Int.fmod_lt_of_pos (zOf x) (b := 6) (by omega)
  w_top off
  k_with_none
  k_with "ktr_rel" => (first | exact sub_refl _ | assumption | (refine sub_cons ?_; ktr_rel))
  k_with "k_mem" => (first | assumption | exact List.Mem.head _ | (refine List.Mem.tail _ ?_; k_mem))
  k_with "k_all" => (first | assumption | exact off_lt (by assumption) (by omega) | ((rename (_ ∧ _ ∧ AllLt _ _) => hl9); exact off_all hl9.2.2) | exact List.forall_mem_nil _ | (refine List.forall_mem_cons.mpr ⟨by first | assumption | exact Ne.symm (by assumption) | k_ne, ?_⟩; k_all))
  k_with "call type:int" => (((with_reducible show wpAny _ _ (call _ [Value.float (Float64.mul _ _) _]) _ _ _); (refine int_step (by with_unfolding_all exact rfl) (by assumption) ?_)))
  k_with "binaryOp Sub float int" => (((with_reducible show wpAny _ _ (binaryOp _ (Value.float (Float64.mul _ _) _) (Value.int (zOf _) _)) _ _ _); (refine sub_step (by assumption) (by assumption) ?_)))
  unfold Does; k_fill
  intro dp un gd cn cs a ccd cl outer A₀ base h₀ L m s Q E B F X N T hk hd hu hret
  refine wpAny_call ?_
  k_dflt cell_enter
  k_steps
  all_goals first | (exfalso; omega) | refine hret _ _ _ _ (by k_asm) (by k_asm) (isF3 ?_ ?_ ?_ (by assumption))
  iterate 3 (focus (unfold rgbG; rw [if_pos (by assumption)]; try rfl))
  iterate 3 (focus (unfold rgbG; rw [if_neg (eq_ff (by assumption)), if_pos (by assumption)]; try rfl))
  iterate 3 (focus (unfold rgbG; rw [if_neg (eq_ff (by assumption)), if_neg (by assumption), if_pos (by assumption)]; try rfl))
  iterate 3 (focus (unfold rgbG; rw [if_neg (eq_ff (by assumption)), if_neg (by assumption), if_neg (by assumption), if_pos (by assumption)]; try rfl))
  iterate 3 (focus (unfold rgbG; rw [if_neg (eq_ff (by assumption)), if_neg (by assumption), if_neg (by assumption), if_neg (by assumption), if_pos (by assumption)]; try rfl))
  iterate 3 (focus (unfold rgbG; rw [if_neg (eq_ff (by assumption)), if_neg (by assumption), if_neg (by assumption), if_neg (by assumption), if_neg (by assumption), if_pos (by assumption)]; try rfl))
  iterate 3 (focus (unfold rgbG; rw [if_neg (eq_ff (by assumption)), if_neg (by assumption), if_neg (by assumption), if_neg (by assumption), if_neg (by assumption), if_neg (by assumption)]; try rfl))
end
section
theorem runs_toks {M : Model} {Γ : Ctx} {p : Pos} {t : Sem PySem.Fin} {fs : List Frame} {s s' : Shared} {e : End} (h : Runs M Γ p t fs s e s') : s.toks ≤ s'.toks := by
  induction h with
  | done | raise | yield => exact Nat.le_refl _
  | again _ _ ih => exact ih
  | load _ _ ih => exact ih
  | update _ _ ih => exact ih
  | choose _ _ ih => exact ih
  | genState _ _ ih => exact ih
  | fresh _ ih => exact Nat.le_trans (Nat.le_succ _) ih
  | call _ _ ih1 ih2 => exact Nat.le_trans ih1 ih2
  | resumeFresh _ _ _ _ ih1 ih2 => exact Nat.le_trans ih1 ih2
  | resumeSuspended _ _ _ _ ih1 ih2 => exact Nat.le_trans ih1 ih2
  | resumeJustStarted _ _ _ ih => exact ih
  | resumeThrowFresh _ _ ih => exact ih
  | resumeRunning _ _ ih => exact ih
  | resumeFinished _ _ ih => exact ih
  | segRet _ _ ih1 ih2 => exact Nat.le_trans ih1 ih2
  | segGen _ _ ih1 ih2 => exact Nat.le_trans ih1 ih2
  | segSuspOut _ _ ih => exact ih
  | segSuspGen _ _ _ _ ih1 ih2 => exact Nat.le_trans ih1 ih2
  | _ => rename_i ih; exact ih
theorem wakes_toks {M : Model} {Γ : Ctx} {p : Pos} {g : Nat} {r : Resume} {s s' : Shared} {res : GenResult} (h : Wakes M Γ p g r s res s') : s.toks ≤ s'.toks := by
  unfold Wakes at h
  split at h
  · exact h.elim
  · split at h
    · obtain ⟨e₁, s₁, h1, _, _, rfl⟩ := h; have q := runs_toks h1; exact q
    · rw [h.2]; exact Nat.le_refl _
    · rw [h.2]; exact Nat.le_refl _
  · obtain ⟨e₁, s₁, h1, _, _, rfl⟩ := h; have q := runs_toks h1; exact q
  · rw [h.2]; exact Nat.le_refl _
  · rw [h.2]; exact Nat.le_refl _
theorem wp_toks {α : Type} {M : Model} {Γ : Ctx} (n : Nat) (t : Sem α) {Q : α → Pos → Shared → Prop} {E : Value → Pos → Shared → Prop} : ∀ (p : Pos) (s : Shared), n ≤ s.toks →
    Sem.wp M Γ t (fun a p' s' => n ≤ s'.toks → Q a p' s') E p s → Sem.wp M Γ t Q E p s := by
  induction t with
  | pure a => intro p s hn h; exact h hn
  | raise e => intro p s hn h; exact h
  | unsupported | finish | register | yield | fork | await => intro p s hn h; exact h.elim
  | load a part k ih => intro p s hn h; obtain ⟨o, ho, h⟩ := h; exact ⟨o, ho, ih o p s hn h⟩
  | update a part f k ih => intro p s hn h; exact ⟨h.1, ih () p _ hn h.2⟩
  | choose src m k ih => intro p s hn h; exact ⟨h.1, ih _ p _ hn h.2⟩
  | genState g k ih => intro p s hn h; obtain ⟨st, hs, h⟩ := h; exact ⟨st, hs, ih _ p s hn h⟩
  | call c hd g l k ih => intro p s hn h; obtain ⟨r, s', hr, h⟩ := h; exact ⟨r, s', hr, ih r p s' (Nat.le_trans hn (runs_toks hr)) h⟩
  | resume g r l k ih => intro p s hn h; obtain ⟨res, s', hr, h⟩ := h; exact ⟨res, s', hr, ih res p s' (Nat.le_trans hn (wakes_toks hr)) h⟩
  | fresh k ih => intro p s hn h; exact ih _ p _ (Nat.le_trans hn (Nat.le_succ _)) h
  | «at» p' k ih => intro p s hn h; exact ih () p' s hn h
  | rule _ k ih => intro p s hn h; exact ih () p s hn h
  | point _ k ih => intro p s hn h; exact ih () p s hn h
  | loadIfAlive a k ih => intro p s hn h; exact ih _ p s hn h
  | alloc o k ih => intro p s hn h; exact ih _ p _ hn h
  | ask k ih => intro p s hn h; exact ih _ p s hn h
  | os q l k ih => intro p s hn h; exact ih _ p _ hn h
  | handled own k ih => intro p s hn h; exact ih _ p s hn h
  | newGen c k ih => intro p s hn h; exact ih _ p _ hn h
  | stack k ih => intro p s hn h; exact ih _ p s hn h
  | thread k ih => intro p s hn h; exact ih _ p s hn h
theorem toks_keep {α : Type} {M : Model} {A : Around} {t : Sem α} {Q : α → Shared → Prop} {E : Value → Shared → Prop} {s : Shared} {n : Nat} (hn : n ≤ s.toks) (h : wpAny M A t (fun a s' => n ≤ s'.toks → Q a s') E s) : wpAny M A t Q E s :=
  fun Γ p hΓ => wp_toks n t p s hn (h Γ p hΓ)
end
section
open PySem.Spec PySem.Calls
section
variable {prog : Program} {w : World} {A : Around} {E : Value → Shared → Prop} {s : Shared} {h₀ : Heap} {L : Addr} {m : Str → Option Value} {env : Env}
/-- the source of a comprehension is a tuple of the ledger -/
noncomputable def SrcTup (prog : Program) (w : World) (A : Around) (h₀ : Heap) (L : Addr) (m : Str → Option Value) (env : Env) (elt : Expr) (x : Str) (scope : Scope) (cl : List (Str × Addr)) (Fin : Shared → List Value → List (Addr × Obj) → Prop) (xv : Value) (s₁ : Shared) : Prop :=
  ∃ ax its nt news, xv = .ref ax ∧ A.handled = none ∧ Fr h₀ L s₁.heap m ∧ News h₀ L s₁.heap news ∧ (ax, ({ cls := .type "tuple", data := .seq its nt } : Obj)) ∈ news ∧ its.size ≤ sizeLine ∧
    ∀ g, LCg.CompRest prog w A h₀ L m env elt x scope cl { s₁ with heap := g } (fun nw => (ax, ({ cls := .type "tuple", data := .seq its nt } : Obj)) ∈ nw) (fun i v => its[i]? = some v) (Fin { s₁ with heap := g }) its.size 0 [] news
theorem ListComp_Tup {elt iter : Expr} {x : Str} {px : Pos} {scope : Scope} {cl : List (Str × Addr)} {pos : Pos} {Q : Value → Shared → Prop} (F₀ : Fr h₀ L s.heap m)
    (hclos : closureFor scope env = pure cl) (hcell : ∀ y ∈ scope.names, y.2 ≠ .cell) (hkind : scope.kind = .function)
    (hnames : ∀ y ∈ scope.names, y.2 = .local → scope.names.lookup y.1 = some .local) (hx : scope.names.lookup x = some .local)
    (h : wpAny (model prog w) A (eval iter env) (SrcTup prog w A h₀ L m env elt x scope cl (fun s₂ => LCg.FinE h₀ L m s₂ Q)) E s)
    (hs : ∀ x, foldedSetIterable iter env x = pure x := by intro _; rfl) :
    wpAny (model prog w) A (eval (.ListComp elt [⟨.Name x px, iter, [], 0⟩] scope pos) env) Q E s := by
  rw [eval_ListComp]
  refine wpAny_comprehension_free (use := none) rfl hs hclos hkind hnames (wpAny_mono h (fun xv s₁ h₁ => ?_) fun _ _ e => e)
  obtain ⟨ax, its, nt, news, rfl, hh, F, N, S, hsz, R⟩ := h₁
  have hl : s₁.heap.IsTuple ax its := ⟨_, (N _ S).1, rfl, nt, rfl⟩
  have hlt : ax < s₁.heap.objs.size := Heap.lt_size (N _ S).1
  refine wpAny_pyIter_tuple hl ?_
  have up : ∀ b o, s₁.heap.get? b = some o → (s₁.heap.push { cls := .type "tuple_iterator", data := .fields #[.ref ax, .int 0 0] }).get? b = some o := fun b o e => Heap.get?_push_of_some _ e
  refine LCg.block_U (Walks.tuple hh s₁.heap.objs.size ax (Nat.ne_of_lt hlt) its) hsz (fun i h st => by obtain ⟨o, e, _⟩ := st.1; exact ⟨o, e⟩)
    (fun i h h' o nw st e e' k N' S' => ⟨by obtain ⟨o', q, r⟩ := st.1; rw [e] at q; cases q; exact ⟨o, e', r⟩, ⟨_, (N' _ S').1, rfl, nt, rfl⟩⟩) hcell hkind hx ⟨⟨_, Heap.get?_push_size _ rfl, rfl, rfl⟩, hl.push _⟩ (fun b hb => ?_)
    (F.keeps up) (N.grown up) (Nat.ne_of_lt F.ns.lt) (next_is_new F) (fun p hp => Nat.ne_of_lt (Heap.lt_size (N p hp).1)) S (R _) ?_
  · show b < (s₁.heap.push _).objs.size
    rw [Heap.size_push]
    rcases List.mem_cons.mp hb with rfl | hb
    · exact Nat.lt_succ_self _
    · rw [List.mem_singleton.mp hb]; exact Nat.lt_succ_of_lt hlt
  · intro D C h tk m' ys news' F' N' o1 hn hC₀ hD₀ hCL hDL hCD offC fin
    refine ⟨m', hn, fun h'' hs'' => fin D h'' tk (F'.change hs'' hCL hC₀) (fun p hp => ⟨hs''.extBut _ _ ?_ (N' p hp).1, (N' p hp).2⟩) o1⟩
    rcases List.mem_cons.mp hp with rfl | hp
    · exact Ne.symm hCD
    · exact offC p hp
theorem srcTup {elt : Expr} {x : Str} {scope : Scope} {cl : List (Str × Addr)} {Fin : Shared → List Value → List (Addr × Obj) → Prop} {ax : Addr} {its : Array Value} {k : Nat} {news : List (Addr × Obj)} {s₁ : Shared}
    (hh : A.handled = none) (F : Fr h₀ L s₁.heap m) (N : News h₀ L s₁.heap news) (hm : (ax, ({ cls := .type "tuple", data := .seq its k } : Obj)) ∈ news) (hsz : its.size ≤ sizeLine)
    (h : ∀ g, LCg.CompRest prog w A h₀ L m env elt x scope cl { s₁ with heap := g } (fun nw => (ax, ({ cls := .type "tuple", data := .seq its k } : Obj)) ∈ nw) (fun i v => its[i]? = some v) (Fin { s₁ with heap := g }) its.size 0 [] news) :
    SrcTup prog w A h₀ L m env elt x scope cl Fin (.ref ax) s₁ := ⟨ax, its, k, news, rfl, hh, F, N, hm, hsz, h⟩
end
end
section
noncomputable def nameR (x : Str) : Str := Txt.strip (Txt.replace (stripS x) (Str.ofString "#") (Str.ofString " "))
noncomputable def restR (x : Str) : Str := Txt.slice x (some (Txt.find x (nameR x) + (nameR x).length)) none
noncomputable def blankR (x : Str) : Str := Txt.replace (restR x) (Str.ofString ":") (Str.ofString " ")
theorem does_toks {D U : Nat} {w : World} {mean : ExcName → Option Value} {mg mb : Str → Option Value} {f : Addr} {vs : List Value} {kw : List (Str × Value)} {news : List (Addr × Obj)} {post : Post}
    (C : Does D U w mean mg mb f vs kw news post)
    {dp un : Nat} {gd : Option (List Code)} {cn : Str} {cs : Scope} {a : Addr} {ccd : Value} {cl : List (Str × Addr)} {outer : List Env} {A₀ : Around} {base h₀ : Heap} {L : Addr} {m : Str → Option Value} {s : Shared} {Q E : Value → Shared → Prop}
    (B : Below A₀ base outer h₀) (F : Fr h₀ L s.heap m) (X : (hd.heap_39 w.params).In h₀) (N : News h₀ L s.heap news) (T : Top hd.view_39 LS mean mg mb h₀) (hk : cs.kind = .function)
    (h1 : dp + D < recursionLimit) (h2 : un + U < cLine) (ht : 1 ≤ s.toks)
    (ret : ∀ (v : Value) (news' : List (Addr × Obj)) (h' : Heap) (tk' : Nat), Fr h₀ L h' m → News h₀ L h' news' → post v news' → 1 ≤ tk' → Q v { s with heap := h', toks := tk' }) :
    wpAny (model Challenge.rw_pg0185_01.row.prog w) (ktrTop dp un gd cn cs L a ccd cl outer) (call (.ref f) vs kw) Q E s :=
  toks_keep ht (does_use C B F X N T hk h1 h2 fun v n h tk F N p => ret v n h tk F N p)
section
variable {D U : Nat} {w : World} {mean : ExcName → Option Value} {mg mb : Str → Option Value} {f : Addr} {vs : List Value} {kw : List (Str × Value)} {news : List (Addr × Obj)} {dp un : Nat} {gd : Option (List Code)} {cn : Str} {cs : Scope} {a : Addr} {ccd : Value} {cl : List (Str × Addr)} {outer : List Env} {A₀ : Around} {base h₀ : Heap} {L : Addr} {m : Str → Option Value} {s : Shared} {Q E : Value → Shared → Prop}
theorem does_ST {x : Str} (B : Below A₀ base outer h₀) (F : Fr h₀ L s.heap m) (X : (hd.heap_39 w.params).In h₀) (N : News h₀ L s.heap news) (T : Top hd.view_39 LS mean mg mb h₀) (hk : cs.kind = .function) (C : Does D U w mean mg mb f vs kw news (IsS x news))
    (h1 : dp + D < recursionLimit) (h2 : un + U < cLine) (ht : 1 ≤ s.toks)
    (ret : ∀ (t : Tok) (h' : Heap) (tk' : Nat), Fr h₀ L h' m → News h₀ L h' (news) → 1 ≤ tk' → Q (.str x t) { s with heap := h', toks := tk' }) : wpAny (model Challenge.rw_pg0185_01.row.prog w) (ktrTop dp un gd cn cs L a ccd cl outer) (call (.ref f) vs kw) Q E s :=
  does_toks C B F X N T hk h1 h2 ht fun v n h' tk' F' N' hp kt => by
    obtain ⟨⟨t, rfl⟩, rfl⟩ := hp
    exact ret t h' tk' F' N' kt
end
section
variable {prog : Program} {w : World} {A : Around} {E : Value → Shared → Prop} {s : Shared} {Q : Value → Shared → Prop} {h₀ : Heap} {L : Addr} {m : Str → Option Value} {news : List (Addr × Obj)} {x y : Str} {t u : Tok}
theorem replace_S {z : Str} (hu : 1 ≤ u) (hyz : (y == z) = false) (hx : x.length ≤ 1000) (hz : z.length ≤ 14)
    (hq : ∀ t' k, Q (.str (Txt.replace x y z) t') { s with toks := k }) : wpAny (model prog w) A (call (.builtin "str.replace") [.str x t, .str y u, .str z (u + 1)]) Q E s :=
  SC.replaceW (Nat.ne_of_gt hu) (Nat.succ_ne_zero _) (Nat.ne_of_lt (Nat.lt_succ_self _)) hyz (Nat.le_trans hx (by decide)) hz hq
theorem slice_T {value slice : PySem.Expr} {i : Int} {ui : Tok} (F : Fr h₀ L s.heap m) (N : News h₀ L s.heap news) (hx : x.length ≤ 1000) (ht : 1 ≤ s.toks)
    (h : ∀ h' t' k, Fr h₀ L h' m → News h₀ L h' news → 1 ≤ k → Q (.str (Txt.slice x (some i) none) t') { s with heap := h', toks := k })
    (hs : subscripted slice false (.str x t) (.ref s.heap.objs.size) = operate [.ref s.heap.objs.size, .str x t] (getItem (.str x t) (.ref s.heap.objs.size)) := by with_unfolding_all rfl)
    (hg : ∀ r, letTemporaryGo value (.str x t) r = pure () := by intro _; with_unfolding_all rfl) :
    wpAny (model prog w) A (subscriptTail value slice (.str x t) (.ref s.heap.objs.size)) Q E { s with heap := s.heap.push { cls := .type "slice", data := .fields #[.int i ui, .none, .none] } } :=
  toks_keep (s := { s with heap := s.heap.push { cls := .type "slice", data := .fields #[.int i ui, .none, .none] } }) ht (slice_strN_sn F N (fun h' t' k F' N' => h h' t' k F' N') hs hg (by rw [sizeLine_eq]; omega))
theorem index_S (hA : A.handled = none) (hf : 0 ≤ Txt.find x y) (h : Q (.int (Txt.find x y) s.toks) { s with toks := s.toks + 1 }) : wpAny (model prog w) A (call (.builtin "str.index") [.str x t, .str y u]) Q E s :=
  index_or hA (fun e => by omega) fun _ _ => h
theorem words_S {b : Str} (F : Fr h₀ L s.heap m) (N : News h₀ L s.heap news) (hl : x.length ≤ 1000) (hw : Txt.words x = [b])
    (h : ∀ h' k t1, Fr h₀ L h' m → News h₀ L h' ((s.heap.objs.size, W.listOf #[.str b t1] 0) :: news) → Q (.ref s.heap.objs.size) { s with heap := h', toks := k }) : wpAny (model prog w) A (call (.builtin "str.split") [.str x t]) Q E s :=
  splitN0 F N (fun l h' k e F' N' => by
    rw [hw] at e
    match l, e with
    | [(c, t1)], e =>
      have ec : c = b := List.cons.inj e |>.1
      subst ec
      exact h h' k t1 F' N') (by rw [sizeLine_eq]; omega)
theorem split_S {b c : Str} (F : Fr h₀ L s.heap m) (N : News h₀ L s.heap news) (hl : x.length ≤ 1000) (hy : (y.length == 0) = false) (hw : Txt.split x y = [b, c])
    (h : ∀ h' k t1 t2, Fr h₀ L h' m → News h₀ L h' ((s.heap.objs.size, W.listOf #[.str b t1, .str c t2] 0) :: news) → Q (.ref s.heap.objs.size) { s with heap := h', toks := k }) : wpAny (model prog w) A (call (.builtin "str.split") [.str x t, .str y u]) Q E s :=
  splitN1 F N hy (fun l h' k e F' N' => by
    rw [hw] at e
    match l, e with
    | [(b', t1), (c', t2)], e =>
      have eb : b' = b := List.cons.inj e |>.1
      have ec : c' = c := List.cons.inj (List.cons.inj e).2 |>.1
      subst eb ec
      exact h h' k t1 t2 F' N') (by rw [sizeLine_eq]; omega)
end
noncomputable def IsL3g (i j k : Int) (news : List (Addr × Obj)) : Post := fun v n => ∃ (a : Addr) (t1 t2 t3 : Tok) (c : Nat) (n' : List (Addr × Obj)), v = .ref a ∧ n = (a, W.listOf #[.int i t1, .int j t2, .int k t3] c) :: n' ∧ (∀ p ∈ news, p ∈ n') ∧ ∀ p ∈ n', p.1 ≠ a
theorem off1_all {d : Addr} : ∀ {l : List (Addr × Obj)}, LCg.Off1 d l → ∀ p ∈ l, p.1 ≠ d
  | [], _, _, h => nomatch h
  | _ :: _, x, p, h => by
    rcases List.mem_cons.mp h with rfl | h
    · exact x.1
    · exact off1_all x.2 p h
theorem offs3 {d a b c : Addr} {o1 o2 o3 : Obj} {l : List (Addr × Obj)} (h : a ≠ d ∧ b ≠ d ∧ c ≠ d ∧ LCg.Off1 d l) : ∀ p ∈ (a, o1) :: (b, o2) :: (c, o3) :: l, p.1 ≠ d := by
  intro p hp
  rcases List.mem_cons.mp hp with rfl | hp
  · exact h.1
  rcases List.mem_cons.mp hp with rfl | hp
  · exact h.2.1
  rcases List.mem_cons.mp hp with rfl | hp
  · exact h.2.2.1
  exact off1_all h.2.2.2 p hp
noncomputable def hR (n : Int) : UInt64 := Float64.add (fr n 5040) (Float64.ofInt 1)
theorem readB_does (w : World) (mean mg mb) (x b c d : Str) (N0 S0 V0 i j k : Int) (hx : x.length ≤ 100) (h1 : (Txt.replace (stripS x) (Str.ofString "#") (Str.ofString " ")).length ≤ 100) (h2 : (nameR x).length ≤ 100) (h3 : (restR x).length ≤ 100) (h4 : (blankR x).length ≤ 1000)
    (hf : 0 ≤ Txt.find x (nameR x)) (hne : (nameR x == Str.ofString "") = false) (hw : Txt.words (blankR x) = [b]) (hb : b.length ≤ 1000) (hsp : Txt.split b (Str.ofString ".") = [c, d]) (hc : c.length ≤ 100) (hd' : d.length ≤ 100)
    (iN : PySem.intText? (nameR x) = some N0) (iS : PySem.intText? c = some S0) (iV : PySem.intText? d = some V0) (n0 : 0 ≤ N0) (n1 : N0 < 5040) (s0 : 0 ≤ S0) (s1 : S0 ≤ 840) (v0 : 0 ≤ V0) (v1 : V0 ≤ 8)
    (f1 : Float64.isFinite (hx6 (hR N0)) = true) (f2 : 0 ≤ zOf (hR N0)) (f3 : zOf (hR N0) < 1000) (r1 : rnd (rgbG (hR N0) (fr S0 840) (fr V0 8)).1 8 = i) (r2 : fin (rgbG (hR N0) (fr S0 840) (fr V0 8)).1 8 = true)
    (r3 : rnd (rgbG (hR N0) (fr S0 840) (fr V0 8)).2.1 8 = j) (r4 : fin (rgbG (hR N0) (fr S0 840) (fr V0 8)).2.1 8 = true) (r5 : rnd (rgbG (hR N0) (fr S0 840) (fr V0 8)).2.2 8 = k) (r6 : fin (rgbG (hR N0) (fr S0 840) (fr V0 8)).2.2 8 = true)
    (t : Tok) (news) : Does 3 24 w mean mg mb 109 [.str x t] [] news (IsL3g i j k news) := by
  w_top off
  k_with_none
  k_with "ktr_rel" => (first | exact sub_refl _ | assumption | (refine sub_cons ?_; ktr_rel))
  k_with "k_mem" => (first | assumption | exact List.Mem.head _ | (refine List.Mem.tail _ ?_; k_mem))
  k_with "k_all" => (first | assumption | exact off_lt (by assumption) (by omega) | ((rename (_ ∧ _ ∧ AllLt _ _) => hl9); exact off_all hl9.2.2) | exact List.forall_mem_nil _ | (refine List.forall_mem_cons.mpr ⟨by first | assumption | exact Ne.symm (by assumption) | k_ne, ?_⟩; k_all))
  k_with "call ref" => ((k_here; (with_reducible show wpAny _ _ (call (Value.ref 28) [Value.str _ _] _) _ _ _); k_dflt (refine does_ST (by k_asm) (by k_asm) (by k_asm) (by k_asm) (by k_asm) (by first | exact rfl | assumption) (strip_does _ _ _ _ _ (by first | with_reducible assumption | with_reducible exact And.left (by assumption) | with_reducible exact And.right (by assumption) | with_reducible exact Int.ofNat_lt.mp (by assumption) | omega) _ _) (by ktr_room) (by ktr_units) (by first | exact Nat.le_add_left 1 _ | assumption) ?_); intro t9 h9 tk9 F9 N9 ht9; (try dsimp only); (try k_fold)))
  k_with "call builtin:str.replace" => ((k_here; (with_reducible show wpAny _ _ (call (Value.builtin "str.replace") [Value.str _ _, Value.str _ _, Value.str _ _]) _ _ _); k_dflt (refine replace_S (by assumption) (by decide +kernel) (by first | with_reducible assumption | with_reducible exact And.left (by assumption) | with_reducible exact And.right (by assumption) | with_reducible exact Int.ofNat_lt.mp (by assumption) | omega) (by decide +kernel) ?_); intro t' k'))
  k_with "call builtin:str.index" => ((k_here; k_dflt (refine index_S (by with_unfolding_all exact rfl) (by assumption) ?_)))
  k_with "call builtin:str.split" => ((k_here; (with_reducible show wpAny _ _ (call (Value.builtin "str.split") [Value.str _ _]) _ _ _); k_dflt (refine words_S (by k_asm) (by k_asm) (by assumption) (by assumption) ?_); intro h' k' t' F' N'))
  k_with "call builtin:str.split" => ((k_here; (with_reducible show wpAny _ _ (call (Value.builtin "str.split") [Value.str _ _, Value.str _ _]) _ _ _); k_dflt (refine split_S (by k_asm) (by k_asm) (by assumption) (by decide +kernel) (by assumption) ?_); intro h' k' t' t'' F' N'))
  k_with "subscriptTail Name Slice str ref" => ((k_here; (with_reducible show wpAny _ _ (subscriptTail _ (Expr.Slice _ _ _ _) (Value.str _ _) (Value.ref _)) _ _ _); (with_reducible rename Fr _ _ _ _ => F'); (with_reducible rename News _ _ _ _ => N'); k_dflt (refine slice_T (s := ⟨_, _, _, _, _⟩) F' N' (by first | with_reducible assumption | with_reducible exact And.left (by assumption) | with_reducible exact And.right (by assumption) | with_reducible exact Int.ofNat_lt.mp (by assumption) | omega) (by exact Nat.le_add_left 1 _) ?_); intro h' t' k' F' N' hk'))
  k_with "CompEnd" => ((k_dflt (refine cmp_end (by k_asm) (by k_asm) (by with_unfolding_all assumption) (by first | lcg_src | (show _ ∈ _; k_mem)) ?_)))
  k_with "eval ListComp" => ((k_here; k_dflt (refine ListComp_Tup (F₀ := by k_asm) (by with_unfolding_all rfl) (by decide) (by rfl) (by decide) (by rfl) ?_)))
  k_with "SrcTup" => ((k_here; k_dflt (refine srcTup (by with_unfolding_all exact rfl) (by k_asm) (by k_asm) (by k_mem) (by exact Nat.le_of_ble_eq_true rfl) ?_); intro g'; lcg_lit))
  k_with "binaryOp Div int int" => (((with_reducible show wpAny _ _ (binaryOp _ (Value.int _ _) (Value.int _ _)) _ _ _); (refine fr_finite (by with_unfolding_all exact rfl) (by first | with_reducible assumption | with_reducible exact And.left (by assumption) | with_reducible exact And.right (by assumption) | with_reducible exact Int.ofNat_lt.mp (by assumption) | omega) (by decide) _ _ ?_)))
  k_with "call builtin:round" => (((with_reducible show wpAny _ _ (call _ [Value.float (Float64.mul _ (Float64.ofInt _)) _]) _ _ _); (refine round_step (by with_unfolding_all exact rfl) (by assumption) (by assumption) ?_)))
  k_with "call type:int" => (((with_reducible show wpAny _ _ (call _ [Value.str _ _]) _ _ _); k_dflt (refine PySem.W.KIN.call_text (by assumption) (by first | with_reducible assumption | with_reducible exact And.left (by assumption) | with_reducible exact And.right (by assumption) | with_reducible exact Int.ofNat_lt.mp (by assumption) | omega) ?_)))
  k_with "call ref" => ((k_here; (with_reducible show wpAny _ _ (call (Value.ref 78) [Value.float _ _, Value.float _ _, Value.float _ _] _) _ _ _); k_dflt (refine does_F3 (by k_asm) (by k_asm) (by k_asm) (by k_asm) (by k_asm) (by first | exact rfl | assumption) (hsv_does _ _ _ _ _ _ _ (by assumption) (by assumption) (by assumption) _ _ _ _) (by ktr_room) (by ktr_units) ?_); intro a9 t1 t2 t3 k9 h9 tk9 F9 N9 l9; (try dsimp only); (try k_fold)))
  unfold Does; k_fill
  intro dp un gd cn cs a ccd cl outer A₀ base h₀ L m s Q E B F X N T hk hd hu hret
  have hs1 := stripS_le x
  unfold blankR restR nameR at *
  unfold hR at *
  refine wpAny_call ?_
  k_dflt cell_enter
  (have hT1 : 1 ≤ s.toks + 1 := Nat.le_add_left 1 _)
  k_steps
  (rename (_ ∧ _ ∧ _ ∧ LCg.Off1 _ news) => hl)
  exact hret _ _ _ _ (by k_asm) (by k_asm) ⟨_, _, _, _, _, _, rfl, rfl, by ktr_rel, offs3 hl⟩
theorem readA_does (w : World) (mean mg mb) (x : Str) (hx : x.length ≤ 100) (h1 : (Txt.replace (stripS x) (Str.ofString "#") (Str.ofString " ")).length ≤ 100) (hne : (nameR x == Str.ofString "") = true)
    (t : Tok) (news) : Does 3 24 w mean mg mb 109 [.str x t] [] news (IsL3g 0 0 0 news) := by
  w_top off
  k_with_none
  k_with "ktr_rel" => (first | exact sub_refl _ | assumption | (refine sub_cons ?_; ktr_rel))
  k_with "k_mem" => (first | assumption | exact List.Mem.head _ | (refine List.Mem.tail _ ?_; k_mem))
  k_with "k_all" => (first | assumption | exact off_lt (by assumption) (by omega) | ((rename (_ ∧ _ ∧ AllLt _ _) => hl9); exact off_all hl9.2.2) | exact List.forall_mem_nil _ | (refine List.forall_mem_cons.mpr ⟨by first | assumption | exact Ne.symm (by assumption) | k_ne, ?_⟩; k_all))
  k_with "call ref" => ((k_here; (with_reducible show wpAny _ _ (call (Value.ref 28) [Value.str _ _] _) _ _ _); k_dflt (refine does_ST (by k_asm) (by k_asm) (by k_asm) (by k_asm) (by k_asm) (by first | exact rfl | assumption) (strip_does _ _ _ _ _ (by first | with_reducible assumption | with_reducible exact And.left (by assumption) | with_reducible exact And.right (by assumption) | with_reducible exact Int.ofNat_lt.mp (by assumption) | omega) _ _) (by ktr_room) (by ktr_units) (by first | exact Nat.le_add_left 1 _ | assumption) ?_); intro t9 h9 tk9 F9 N9 ht9; (try dsimp only); (try k_fold)))
  k_with "call builtin:str.replace" => ((k_here; (with_reducible show wpAny _ _ (call (Value.builtin "str.replace") [Value.str _ _, Value.str _ _, Value.str _ _]) _ _ _); k_dflt (refine replace_S (by assumption) (by decide +kernel) (by first | with_reducible assumption | with_reducible exact And.left (by assumption) | with_reducible exact And.right (by assumption) | with_reducible exact Int.ofNat_lt.mp (by assumption) | omega) (by decide +kernel) ?_); intro t' k'))
  k_with "call builtin:str.index" => ((k_here; k_dflt (refine index_S (by with_unfolding_all exact rfl) (by assumption) ?_)))
  k_with "call builtin:str.split" => ((k_here; (with_reducible show wpAny _ _ (call (Value.builtin "str.split") [Value.str _ _]) _ _ _); k_dflt (refine words_S (by k_asm) (by k_asm) (by assumption) (by assumption) ?_); intro h' k' t' F' N'))
  k_with "call builtin:str.split" => ((k_here; (with_reducible show wpAny _ _ (call (Value.builtin "str.split") [Value.str _ _, Value.str _ _]) _ _ _); k_dflt (refine split_S (by k_asm) (by k_asm) (by assumption) (by decide +kernel) (by assumption) ?_); intro h' k' t' t'' F' N'))
  k_with "subscriptTail Name Slice str ref" => ((k_here; (with_reducible show wpAny _ _ (subscriptTail _ (Expr.Slice _ _ _ _) (Value.str _ _) (Value.ref _)) _ _ _); (with_reducible rename Fr _ _ _ _ => F'); (with_reducible rename News _ _ _ _ => N'); k_dflt (refine slice_T (s := ⟨_, _, _, _, _⟩) F' N' (by first | with_reducible assumption | with_reducible exact And.left (by assumption) | with_reducible exact And.right (by assumption) | with_reducible exact Int.ofNat_lt.mp (by assumption) | omega) (by exact Nat.le_add_left 1 _) ?_); intro h' t' k' F' N' hk'))
  k_with "CompEnd" => ((k_dflt (refine cmp_end (by k_asm) (by k_asm) (by with_unfolding_all assumption) (by first | lcg_src | (show _ ∈ _; k_mem)) ?_)))
  k_with "eval ListComp" => ((k_here; k_dflt (refine ListComp_Tup (F₀ := by k_asm) (by with_unfolding_all rfl) (by decide) (by rfl) (by decide) (by rfl) ?_)))
  k_with "SrcTup" => ((k_here; k_dflt (refine srcTup (by with_unfolding_all exact rfl) (by k_asm) (by k_asm) (by k_mem) (by exact Nat.le_of_ble_eq_true rfl) ?_); intro g'; lcg_lit))
  k_with "binaryOp Div int int" => (((with_reducible show wpAny _ _ (binaryOp _ (Value.int _ _) (Value.int _ _)) _ _ _); (refine fr_finite (by with_unfolding_all exact rfl) (by first | with_reducible assumption | with_reducible exact And.left (by assumption) | with_reducible exact And.right (by assumption) | with_reducible exact Int.ofNat_lt.mp (by assumption) | omega) (by decide) _ _ ?_)))
  k_with "call builtin:round" => (((with_reducible show wpAny _ _ (call _ [Value.float (Float64.mul _ (Float64.ofInt _)) _]) _ _ _); (refine round_step (by with_unfolding_all exact rfl) (by assumption) (by assumption) ?_)))
  k_with "call type:int" => (((with_reducible show wpAny _ _ (call _ [Value.str _ _]) _ _ _); k_dflt (refine PySem.W.KIN.call_text (by assumption) (by first | with_reducible assumption | with_reducible exact And.left (by assumption) | with_reducible exact And.right (by assumption) | with_reducible exact Int.ofNat_lt.mp (by assumption) | omega) ?_)))
  k_with "call ref" => ((k_here; (with_reducible show wpAny _ _ (call (Value.ref 78) [Value.float _ _, Value.float _ _, Value.float _ _] _) _ _ _); k_dflt (refine does_F3 (by k_asm) (by k_asm) (by k_asm) (by k_asm) (by k_asm) (by first | exact rfl | assumption) (hsv_does _ _ _ _ _ _ _ (by assumption) (by assumption) (by assumption) _ _ _ _) (by ktr_room) (by ktr_units) ?_); intro a9 t1 t2 t3 k9 h9 tk9 F9 N9 l9; (try dsimp only); (try k_fold)))
  unfold Does; k_fill
  intro dp un gd cn cs a ccd cl outer A₀ base h₀ L m s Q E B F X N T hk hd hu hret
  have hs1 := stripS_le x
  unfold nameR at *
  refine wpAny_call ?_
  k_dflt cell_enter
  (have hT1 : 1 ≤ s.toks + 1 := Nat.le_add_left 1 _)
  k_steps
  exact hret _ _ _ _ (by k_asm) (by k_asm) ⟨_, _, _, _, _, _, rfl, rfl, sub_refl _, fun p hp => Nat.ne_of_lt ((by assumption : ∀ p ∈ news, p.1 < _) p hp)⟩
end
section
open PySem.Spec PySem.Calls PyProof.V
section
variable {prog : Program} {w : World} {A : Around} {E : Value → Shared → Prop} {Q : Flow → Shared → Prop} {s : Shared} {env : Env} {h₀ : Heap} {L : Addr}
noncomputable abbrev HueLed (W9 : Addr) (rest : List (Addr × Obj)) (U : Nat → Int × Int × Int) (n : Nat) (ta tb tc : Tok) (k : Nat) : List (Addr × Obj) := (W9, W.listOf #[.int (U n).1 ta, .int (U n).2.1 tb, .int (U n).2.2 tc] k) :: rest
noncomputable abbrev HueFr (m₀ u : Str → Option Value) (n : Nat) (ts : Tok) : Str → Option Value := fun z => if z = Str.ofString "step" then some (.int (n : Int) ts) else if [Str.ofString "sixth", Str.ofString "place"].contains z then u z else m₀ z
/-- the end of a turn of the walk along the hues -/
noncomputable def HueEnd (h₀ : Heap) (L : Addr) (s : Shared) (W9 : Addr) (rest : List (Addr × Obj)) (m₀ : Str → Option Value) (U : Nat → Int × Int × Int) (n : Nat) (s₂ : Shared) : Prop :=
  ∃ ta tb tc k ts u h' tk news', s₂ = { s with heap := h', toks := tk } ∧ Fr h₀ L h' (HueFr m₀ u n ts) ∧ News h₀ L h' news' ∧ ∀ p ∈ HueLed W9 rest U n ta tb tc k, p ∈ news'
theorem hue_while {test : Expr} {body : List Stmt} {pos : Pos} {m₀ : Str → Option Value} (U : Nat → Int × Int × Int) (T : Nat) (goal : Int × Int × Int) (W9 : Addr) (rest : List (Addr × Obj)) {z : Int} {ta tb tc ts : Tok}
    (F : Fr h₀ L s.heap m₀) (N : News h₀ L s.heap ((W9, W.listOf #[.int z ta, .int 0 tb, .int 0 tc] 0) :: rest)) (hz : U 0 = (z, 0, 0)) (hstep : m₀ (Str.ofString "step") = some (.int 0 ts)) (hT : U T = goal) (hF : ∀ j, j < T → U j ≠ goal)
    (tst : ∀ (n : Nat) ta tb tc k ts u h tk, n ≤ T → Fr h₀ L h (HueFr m₀ u n ts) → News h₀ L h (HueLed W9 rest U n ta tb tc k) →
      wpAny (model prog w) A (isTrue test env (eval test env)) (fun b s₂ => ∃ h' tk', s₂ = { s with heap := h', toks := tk' } ∧ Fr h₀ L h' (HueFr m₀ u n ts) ∧ News h₀ L h' (HueLed W9 rest U n ta tb tc k) ∧ (b = true ↔ U n ≠ goal)) E { s with heap := h, toks := tk })
    (bod : ∀ (n : Nat) ta tb tc k ts u h tk, n < T → Fr h₀ L h (HueFr m₀ u n ts) → News h₀ L h (HueLed W9 rest U n ta tb tc k) →
      wpAny (model prog w) A (execs body env) (fun f s₂ => f = .next ∧ HueEnd h₀ L s W9 rest m₀ U (n + 1) s₂) E { s with heap := h, toks := tk })
    (done : ∀ ta tb tc k ts u h tk, Fr h₀ L h (HueFr m₀ u T ts) → News h₀ L h (HueLed W9 rest U T ta tb tc k) → Q .next { s with heap := h, toks := tk })
    (hE : PassesOwn (model prog w) A env E := by passes_own) :
    wpAny (model prog w) A (exec (.While test body [] pos) env) Q E s := by
  have F₀ : Fr h₀ L s.heap (HueFr m₀ m₀ 0 ts) := by
    have e : HueFr m₀ m₀ 0 ts = m₀ := by
      funext y
      show (if y = Str.ofString "step" then _ else _) = _
      split
      · rename_i e; rw [e]; exact hstep.symm
      · split <;> rfl
    rw [e]; exact F
  refine While_inv2 (fun k m nx => ∃ (n : Nat) (ta tb tc : Tok) (kk : Nat) (ts : Tok) (u : Str → Option Value), nx = HueLed W9 rest U n ta tb tc kk ∧ k = T - n ∧ n ≤ T ∧ m = HueFr m₀ u n ts) F₀ (news := HueLed W9 rest U 0 ta tb tc 0) (by show News h₀ L s.heap ((W9, W.listOf #[.int (U 0).1 ta, .int (U 0).2.1 tb, .int (U 0).2.2 tc] 0) :: rest); rw [hz]; exact N) ⟨0, ta, tb, tc, 0, ts, m₀, rfl, rfl, Nat.zero_le _, rfl⟩ ?_ hE
  rintro k m₁ nx h tk F₁ N₁ ⟨n, ta, tb, tc, kk, ts, u, rfl, rfl, hn, rfl⟩
  refine wpAny_mono (tst n ta tb tc kk ts u h tk hn F₁ N₁) (fun b s₂ p => ?_) fun _ _ x => x
  obtain ⟨h', tk', rfl, F', N', hb⟩ := p
  cases b with
  | false =>
    have e : n = T := by
      rcases Nat.eq_or_lt_of_le hn with e | e
      · exact e
      · exact absurd (hb.mpr (hF n e)) Bool.false_ne_true
    subst e
    simpa using done ta tb tc kk ts u h' tk' F' N'
  | true =>
    have hne : n < T := by
      rcases Nat.eq_or_lt_of_le hn with e | e
      · subst e; exact absurd hT (hb.mp rfl)
      · exact e
    simp only [if_true]
    refine wpAny_mono (bod n ta tb tc kk ts u h' tk' hne F' N') (fun f s₃ q => ?_) fun _ _ x => x
    obtain ⟨rfl, ta', tb', tc', k', ts', u', h'', tk'', news', rfl, F'', N'', hs⟩ := q
    exact ⟨h'', tk'', _, HueLed W9 rest U (n + 1) ta' tb' tc' k', T - (n + 1), rfl, F'', fun p hp => N'' p (hs p hp), by omega, n + 1, ta', tb', tc', k', ts', u', rfl, rfl, by omega, rfl⟩
end
section
variable {prog : Program} {w : World} {A : Around} {E : Value → Shared → Prop} {s : Shared} {Q : Value → Shared → Prop} {h₀ : Heap} {L a b : Addr} {news : List (Addr × Obj)} {vs us : List Value} {ns ms : List Int} {k k' : Nat}
theorem ne_ints2 (N : News h₀ L s.heap news) (ma : (a, W.listOf vs.toArray k) ∈ news) (mb : (b, W.listOf us.toArray k') ∈ news) (hi : IntsAre vs ns) (hi' : IntsAre us ms) (hu : A.units + 64 < cLine)
    (h : Q (.bool (!decide (ns = ms))) s) : wpAny (model prog w) A (compareOp .NotEq (.ref a) (.ref b)) Q E s :=
  ne_intsK (mem_list N ma) hi (mem_list N mb) hi' hu h
theorem three_ne {U : Int × Int × Int} {x y z : Int} : (!decide ([U.1, U.2.1, U.2.2] = [x, y, z])) = true ↔ U ≠ (x, y, z) := by
  obtain ⟨p, q, r⟩ := U
  rw [Bool.not_eq_true', decide_eq_false_iff_not]
  simp only [List.cons.injEq, and_true, ne_eq, Prod.mk.injEq]
theorem div_step {z a : Int} {t u : Tok} (hz : 0 ≤ z ∧ z ≤ 8) (ha : 0 ≤ a ∧ a < 1000000) (h : Q (.int (a.fdiv (if z > 1 then z else 1)) s.toks) { s with toks := s.toks + 1 }) :
    wpAny (model prog w) A (binaryOp .FloorDiv (.int a t) (.int (if z > 1 then z else 1) u)) Q E s := by
  refine floordiv_int ?_ h
  split <;> omega
end
section
variable {prog : Program} {w : World} {A : Around} {E : Value → Shared → Prop} {s : Shared} {Q : Value → Shared → Prop}
theorem sixth_step {n : Nat} {z : Int} {t u : Tok} (hz : z ≤ 8) (h48 : n < 48) (hn : (n : Int) < 6 * z) (h : ∀ k : Nat, k = 0 ∨ k = 1 ∨ k = 2 ∨ k = 3 ∨ k = 4 ∨ k = 5 → n / z.toNat = k → Q (.int (k : Int) s.toks) { s with toks := s.toks + 1 }) :
    wpAny (model prog w) A (binaryOp .FloorDiv (.int (n : Int) t) (.int z u)) Q E s := by
  have hz0 : 0 < z := by omega
  refine floordiv_int (by omega) ?_
  have hk : n / z.toNat < 6 := (Nat.div_lt_iff_lt_mul (by omega)).mpr (by omega)
  have e : (n : Int).fdiv z = ((n / z.toNat : Nat) : Int) := by
    rw [Int.fdiv_eq_ediv_of_nonneg _ (by omega), Int.natCast_ediv, Int.toNat_of_nonneg (by omega)]
  rw [e]
  generalize hq : n / z.toNat = q at hk
  exact h q (by omega) hq
end
theorem place_in (k : Nat) : 0 ≤ ([1, 0, 2, 1, 0, 2] : List Int).getD k 0 ∧ ([1, 0, 2, 1, 0, 2] : List Int).getD k 0 < 3 := by
  match k with
  | 0 | 1 | 2 | 3 | 4 | 5 => decide
  | k + 6 => exact ⟨Int.le_refl _, (by decide : (0 : Int) < 3)⟩
theorem turn_set (w : Int × Int × Int) (ta tb tc u : Tok) {k : Nat} (hk : k = 0 ∨ k = 1 ∨ k = 2 ∨ k = 3 ∨ k = 4 ∨ k = 5) :
    ∃ ta' tb' tc', [Value.int w.1 ta, .int w.2.1 tb, .int w.2.2 tc].set (([1, 0, 2, 1, 0, 2] : List Int).getD (k : Int).toNat 0).toNat (.int ([w.1, w.2.1, w.2.2].getD (([1, 0, 2, 1, 0, 2] : List Int).getD (k : Int).toNat 0).toNat 0 + ([1, -1] : List Int).getD ((k : Int).fmod 2).toNat 0) u)
      = [.int (put w (placeOf k) (signOf k)).1 ta', .int (put w (placeOf k) (signOf k)).2.1 tb', .int (put w (placeOf k) (signOf k)).2.2 tc'] := by
  rcases hk with rfl | rfl | rfl | rfl | rfl | rfl <;> exact ⟨_, _, _, rfl⟩
theorem hueFr_of {m₀ m' : Str → Option Value} {n : Nat} {ts : Tok} (h1 : m' (Str.ofString "step") = some (.int (n : Int) ts)) (h2 : ∀ y, y ≠ Str.ofString "step" → [Str.ofString "sixth", Str.ofString "place"].contains y = false → m' y = m₀ y) : m' = HueFr m₀ m' n ts := by
  funext y
  show _ = if y = Str.ofString "step" then _ else _
  split
  · rename_i e; rw [e]; exact h1
  · rename_i e
    split
    · rfl
    · rename_i c; exact h2 y e (Bool.not_eq_true _ ▸ c)
theorem hueFr_off {m₀ u : Str → Option Value} {n : Nat} {ts : Tok} {y : Str} (h1 : y ≠ Str.ofString "step") (h2 : [Str.ofString "sixth", Str.ofString "place"].contains y = false) : HueFr m₀ u n ts y = m₀ y := by
  show (if y = Str.ofString "step" then _ else if [Str.ofString "sixth", Str.ofString "place"].contains y = true then _ else _) = _
  rw [if_neg h1, h2]; rfl
theorem ne_both {y a b : Str} (h : [a, b].contains y = false) : y ≠ a ∧ y ≠ b := by
  simp only [List.contains_cons, List.contains_nil, Bool.or_false, Bool.or_eq_false_iff, beq_eq_false_iff_ne] at h
  exact h
theorem hue_end {h₀ : Heap} {L W9 : Addr} {s : Shared} {rest news' : List (Addr × Obj)} {m₀ m' : Str → Option Value} {U : Nat → Int × Int × Int} {n k kk sp : Nat} {ta tb tc u ts : Tok} {h' : Heap} {tk : Nat}
    (F : Fr h₀ L h' m') (N : News h₀ L h' news') (hU : ∀ n, U (n + 1) = turnW sp n (U n)) (he : n / sp = k) (hk : k = 0 ∨ k = 1 ∨ k = 2 ∨ k = 3 ∨ k = 4 ∨ k = 5)
    (hm : (W9, W.listOf ([Value.int (U n).1 ta, .int (U n).2.1 tb, .int (U n).2.2 tc].set (([1, 0, 2, 1, 0, 2] : List Int).getD (k : Int).toNat 0).toNat (.int ([(U n).1, (U n).2.1, (U n).2.2].getD (([1, 0, 2, 1, 0, 2] : List Int).getD (k : Int).toNat 0).toNat 0 + ([1, -1] : List Int).getD ((k : Int).fmod 2).toNat 0) u)).toArray kk) ∈ news')
    (hr : ∀ p ∈ rest, p ∈ news') (h1 : m' (Str.ofString "step") = some (.int ((n : Int) + 1) ts)) (h2 : ∀ y, y ≠ Str.ofString "step" → [Str.ofString "sixth", Str.ofString "place"].contains y = false → m' y = m₀ y) :
    HueEnd h₀ L s W9 rest m₀ U (n + 1) { s with heap := h', toks := tk } := by
  obtain ⟨ta', tb', tc', e⟩ := turn_set (U n) ta tb tc u hk
  rw [e] at hm
  have e2 : U (n + 1) = put (U n) (placeOf k) (signOf k) := by rw [hU]; unfold turnW; rw [he]
  rw [← e2] at hm
  have e3 : m' = HueFr m₀ m' (n + 1) ts := hueFr_of h1 h2
  rw [e3] at F
  exact ⟨ta', tb', tc', kk, ts, m', h', tk, news', rfl, F, N, fun p hp => by
    rcases List.mem_cons.mp hp with rfl | hp
    · exact hm
    · exact hr p hp⟩
end
section
theorem hue_does (w : World) (mean mg mb) (x : Int) (t : Tok) (news) : Does 3 200 w mean mg mb 114 [.int x t] [] news (IsS (hueS x) news) := by
  have hi := hi_in x; have hl := lo_in x
  have hr := rd_in x; have hg := gn_in x; have hb := bl_in x
  have hH := hue_ok (rd_8 x) (gn_8 x) (bl_8 x)
  obtain ⟨U, T, hz, hU, hT, hF1, h48, h6, hst⟩ : ∃ (U : Nat → Int × Int × Int) (T : Nat), U 0 = (hiI x - loI x, 0, 0) ∧ (∀ n, U (n + 1) = turnW (hiI x - loI x).toNat n (U n)) ∧ U T = (rd x - loI x, gn x - loI x, bl x - loI x) ∧ (∀ j, j < T → U j ≠ (rd x - loI x, gn x - loI x, bl x - loI x)) ∧ T < 48 ∧ (T : Int) ≤ 6 * (hiI x - loI x) ∧ T = stepN (rd x) (gn x) (bl x) := by
    refine ⟨walkW (hiI x - loI x).toNat, stepN (rd x) (gn x) (bl x), ?_, fun n => rfl, hH.walk, fun j hj => step_first (rd x) (gn x) (bl x) j hj, hH.steps, hH.six, rfl⟩
    show (((hiI x - loI x).toNat : Int), (0 : Int), (0 : Int)) = _
    rw [Int.toNat_of_nonneg (by omega)]
  have hN : hueN x = (840 * (T : Int)).fdiv (if hiI x - loI x > 1 then hiI x - loI x else 1) := by rw [hst]; rfl
  have hlo : 0 ≤ (840 * (T : Int)).fdiv (if hiI x - loI x > 1 then hiI x - loI x else 1) := by rw [← hN]; exact hH.lo
  have hhi : (840 * (T : Int)).fdiv (if hiI x - loI x > 1 then hiI x - loI x else 1) < 5040 := by rw [← hN]; exact hH.hi
  clear hH hst
  w_top off
  k_with_none
  k_with "ktr_rel" => (first | exact sub_refl _ | assumption | (refine sub_cons ?_; ktr_rel))
  k_with "k_mem" => (first | assumption | exact List.Mem.head _ | (refine List.Mem.tail _ ?_; k_mem))
  k_with "k_all" => (first | assumption | exact off_lt (by assumption) (by omega) | ((rename (_ ∧ _ ∧ AllLt _ _) => hl9); exact off_all hl9.2.2) | exact List.forall_mem_nil _ | (refine List.forall_mem_cons.mpr ⟨by first | assumption | exact Ne.symm (by assumption) | k_ne, ?_⟩; k_all))
  k_with "compareOp NotEq ref ref" => ((k_here; k_dflt (refine ne_ints2 (by k_asm) (by k_mem) (by k_mem) (by l_ints) (by l_ints) (by ktr_units) ?_)))
  k_with "binaryOp FloorDiv int int" => ((k_here; (with_reducible show wpAny _ _ (binaryOp _ (Value.int (Nat.cast _) _) (Value.int (hiI _ - loI _) _)) _ _ _); (refine sixth_step (by first | with_reducible assumption | with_reducible exact And.left (by assumption) | with_reducible exact And.right (by assumption) | with_reducible exact Int.ofNat_lt.mp (by assumption) | omega) (by first | with_reducible assumption | with_reducible exact And.left (by assumption) | with_reducible exact And.right (by assumption) | with_reducible exact Int.ofNat_lt.mp (by assumption) | omega) (by first | with_reducible assumption | with_reducible exact And.left (by assumption) | with_reducible exact And.right (by assumption) | with_reducible exact Int.ofNat_lt.mp (by assumption) | omega) ?_); intro k' hk' he'))
  k_with "subscriptTail Name Name ref int" => ((k_here; (with_reducible show wpAny _ _ (subscriptTail _ _ (Value.ref _) (Value.int (List.getD _ _ _) _)) _ _ _); k_dflt (refine ksa_sub (by k_asm) (by k_mem) (by l_ints) (by exact (place_in _).1) (by exact (place_in _).2) (by exact Int.lt_trans (place_in _).2 (by decide)) ?_); intro t'))
  k_with "setItem ref int int" => ((k_here; (with_reducible show wpAny _ _ (setItem (Value.ref _) (Value.int (List.getD _ _ _) _) (Value.int _ _)) _ _ _); k_dflt (refine ksa_set (by k_asm) (by k_asm) (by k_upd) (by l_ints) (by exact (place_in _).1) (by exact (place_in _).2) (by exact Int.lt_trans (place_in _).2 (by decide)) ?_); intro h' F' N' _ _ _))
  k_with "HueEnd" => (k_dflt (refine hue_end (by k_asm) (by k_asm) (by assumption) (by assumption) (by assumption) (by k_mem) (by (first | ktr_rel | kcj_all)) (by with_unfolding_all rfl) (by (intro y h1 h2; (obtain ⟨c1, c2⟩ := ne_both h2); (show (if y = Str.ofString "step" then _ else if y = Str.ofString "place" then _ else if y = Str.ofString "sixth" then _ else _) = _); rw [if_neg h1, if_neg c2, if_neg c1]; exact hueFr_off h1 h2))))
  k_with "binaryOp FloorDiv int int" => ((k_here; (with_reducible show wpAny _ _ (binaryOp _ (Value.int _ _) (Value.int (ite _ _ _) _)) _ _ _); (refine div_step (by first | with_reducible assumption | with_reducible exact And.left (by assumption) | with_reducible exact And.right (by assumption) | with_reducible exact Int.ofNat_lt.mp (by assumption) | omega) (by first | with_reducible assumption | with_reducible exact And.left (by assumption) | with_reducible exact And.right (by assumption) | with_reducible exact Int.ofNat_lt.mp (by assumption) | omega) ?_)))
  k_with "CompSrc" => ((k_here; k_dflt (refine LCg.CompSrc.ledger (by rfl) (by k_asm) (by k_asm) (by k_mem) (by exact Nat.le_of_ble_eq_true rfl) ?_); intro g'; lcg_lit))
  k_with "CompEnd" => ((k_dflt (refine cmp_end (by k_asm) (by k_asm) (by with_unfolding_all assumption) (by first | lcg_src | (show _ ∈ _; k_mem)) ?_)))
  k_with "eval ListComp" => ((k_here; k_dflt (refine LCg.ListComp_U (F₀ := by k_asm) (by with_unfolding_all rfl) (by decide) (by rfl) (by decide) (by rfl) ?_)))
  k_with "call builtin:max" => ((k_here; (with_reducible show wpAny _ _ (call (Value.builtin _) [Value.ref _]) _ _ _); (with_unfolding_all refine kso_max (by k_asm) (by k_asm) (by kso_list) (by l_ints) (by kso_len) (by with_unfolding_all rfl) ?_; k_whole); intro h' M' t' k' F' N' a' b'; (try kso_open a'); (try kso_open b'); (have e' := max3_eq a' b'); subst e'; (clear a' b'); (try k_sweep)))
  k_with "call builtin:min" => ((k_here; (with_reducible show wpAny _ _ (call (Value.builtin _) [Value.ref _]) _ _ _); (with_unfolding_all refine kso_min (by k_asm) (by k_asm) (by kso_list) (by l_ints) (by kso_len) (by with_unfolding_all rfl) ?_; k_whole); intro h' M' t' k' F' N' a' b'; (try kso_open a'); (try kso_open b'); (have e' := min3_eq a' b'); subst e'; (clear a' b'); (try k_sweep)))
  k_with "call ref" => ((k_here; (with_reducible show wpAny _ _ (call (Value.ref 85) [Value.int _ _] _) _ _ _); k_dflt (refine does_L3 (by k_asm) (by k_asm) (by k_asm) (by k_asm) (by k_asm) (by first | exact rfl | assumption) (colour_does _ _ _ _ _ _ _) (by ktr_room) (by ktr_units) ?_); intro a9 t1 t2 t3 h9 tk9 F9 N9 l9; (try k_lt l9); (try dsimp only); (try k_fold)))
  unfold Does; k_fill
  intro dp un gd cn cs a ccd cl outer A₀ base h₀ L m s Q E B F X N TT hk hd hu hret
  refine wpAny_call ?_
  k_dflt (refine' code_defC ?k1 ?k2 ?k3 ?k4 ?k5 ?kA ?kF ?kK ?k6 ?k7 ?k8 ?k9 ?kB ?kD ?_ ?c2 ?c3 ?c4; (case kA => exact rfl); (case kF => exact rfl); (case kK => assumption); (case k1 => k_asm); (case k2 => k_asm); (case k3 => k_asm); (case k4 => k_asm); (case k5 => k_asm); (case k6 => k_is); (case k7 => k_is); (case k8 => ktr_room); (case k9 => exact BindsTo.of_eq rfl); (case kB => exact rfl); (case kD => decide +kernel); (case c2 => exact rfl); (case c3 => exact rfl); (case c4 => exact rfl); k_whole; intro g' L' h' tk' cells' FG' F' N' Y' B' X' T' l1; (try k_lt l1); k_cells Y'; (try simp only [List.cons_append, List.nil_append] at N'); (try dsimp only); (try k_lift B'); (try k_fold))
  k_with "exec While Compare cons nil" => ((rename Fr _ _ _ _ => lF'); (rename News _ _ _ _ => lN'); (with_unfolding_all refine' hue_while U T (rd x - loI x, gn x - loI x, bl x - loI x) _ _ lF' lN' hz ?k1 hT hF1 ?_ ?_ ?_); (case k1 => with_unfolding_all rfl); (all_goals clear lF' lN'); (all_goals (try k_fold)))
  k_steps
  · k_asm
  · exact fun p hp => (by k_asm : News _ _ _ (_ :: _)) p (List.Mem.tail _ hp)
  · exact three_ne
  all_goals refine ret_S hret (by k_asm) (by k_asm) ?_ ?_
  · exact fun p hp => List.Mem.tail _ (List.Mem.tail _ (List.Mem.tail _ hp))
  · unfold hueS; rw [hN]; rfl
end
section
open PySem.Spec PySem.Calls LCg LCp
section
variable {prog : Program} {w : World} {A : Around} {E : Value → Shared → Prop} {s : Shared} {h₀ : Heap} {L : Addr} {m : Str → Option Value} {env : Env}
noncomputable abbrev tup3 (v₁ v₂ v₃ : Value) (nt : Nat) : Obj := { cls := .type "tuple", data := .seq #[v₁, v₂, v₃] nt }
/-- what is left of a comprehension whose items are tuples of three -/
noncomputable def Rest3 (prog : Program) (w : World) (A : Around) (h₀ : Heap) (L : Addr) (m : Str → Option Value) (env : Env) (elt : Expr) (x y z : Str) (scope : Scope) (cl : List (Str × Addr)) (s : Shared) (S : List (Addr × Obj) → Prop) (its : Array Value)
    (Fin : List Value → List (Addr × Obj) → Prop) : Nat → Nat → List Value → List (Addr × Obj) → Prop
  | 0, _, ys, news => Fin ys news
  | k + 1, i, ys, news => ∃ (t : Addr) (v₁ v₂ v₃ : Value) (nt : Nat), its[i]? = some (.ref t) ∧ (t, tup3 v₁ v₂ v₃ nt) ∈ news ∧
      ∀ I oI C oC D m₂ h tk (E' : Value → Shared → Prop), NsObj oC m₂ → m₂ x = some v₁ → m₂ y = some v₂ → m₂ z = some v₃ → Fr h₀ L h m → News h₀ L h ((I, oI) :: (C, oC) :: (D, lst ys) :: news) → Off3 I C D news → ((@Ne Nat I C) ∧ (@Ne Nat I D) ∧ (@Ne Nat C D)) →
      wpAny (model prog w) A (eval elt (compEnvC scope cl C env)) (CompEnd h₀ L m { s with heap := h, toks := tk } I oI C oC D (lst ys) S (fun r news' => Rest3 prog w A h₀ L m env elt x y z scope cl s S its Fin k (i + 1) (ys ++ [r]) news')) E' { s with heap := h, toks := tk }
theorem cmpEnd_elim {h₀ : Heap} {L : Addr} {m : Str → Option Value} {s₁ : Shared} {I : Addr} {oI : Obj} {C : Addr} {oC : Obj} {D : Addr} {oD : Obj} {S : List (Addr × Obj) → Prop} {rest : Value → List (Addr × Obj) → Prop} {y : Value} {s₂ : Shared} {P : Prop} (h : CompEnd h₀ L m s₁ I oI C oC D oD S rest y s₂)
    (k : ∀ h' tk news', Fr h₀ L h' m → News h₀ L h' ((I, oI) :: (C, oC) :: (D, oD) :: news') → Off3 I C D news' → S news' → rest y news' → s₂ = { s₁ with heap := h', toks := tk } → P) : P := by
  obtain ⟨h', tk, news', e, a, b, c, d, f⟩ := h
  exact k h' tk news' a b c d f e
theorem cmpEnd_mono {h₀ : Heap} {L : Addr} {m : Str → Option Value} {s₁ : Shared} {I : Addr} {oI : Obj} {C : Addr} {oC : Obj} {D : Addr} {oD : Obj} {S : List (Addr × Obj) → Prop} {rest rest' : Value → List (Addr × Obj) → Prop} {y : Value} {s₂ : Shared} (h : CompEnd h₀ L m s₁ I oI C oC D oD S rest y s₂)
    (k : ∀ news', rest y news' → S news' → rest' y news') : CompEnd h₀ L m s₁ I oI C oC D oD S rest' y s₂ := by
  obtain ⟨h', tk, news', e, a, b, c, d, f⟩ := h
  exact ⟨h', tk, news', e, a, b, c, d, k news' f d⟩
theorem rest3_elim {elt : Expr} {x y z : Str} {scope : Scope} {cl : List (Str × Addr)} {S : List (Addr × Obj) → Prop} {its : Array Value} {Fin : List Value → List (Addr × Obj) → Prop} {j i : Nat} {ys : List Value} {news : List (Addr × Obj)} {P : Prop} (h : Rest3 prog w A h₀ L m env elt x y z scope cl s S its Fin (j + 1) i ys news)
    (k : ∀ (t : Addr) (v₁ v₂ v₃ : Value) (nt : Nat), its[i]? = some (.ref t) → (t, tup3 v₁ v₂ v₃ nt) ∈ news →
      (∀ I oI C oC D m₂ h tk (E' : Value → Shared → Prop), NsObj oC m₂ → m₂ x = some v₁ → m₂ y = some v₂ → m₂ z = some v₃ → Fr h₀ L h m → News h₀ L h ((I, oI) :: (C, oC) :: (D, lst ys) :: news) → Off3 I C D news → ((@Ne Nat I C) ∧ (@Ne Nat I D) ∧ (@Ne Nat C D)) →
        wpAny (model prog w) A (eval elt (compEnvC scope cl C env)) (CompEnd h₀ L m { s with heap := h, toks := tk } I oI C oC D (lst ys) S (fun r news' => Rest3 prog w A h₀ L m env elt x y z scope cl s S its Fin j (i + 1) (ys ++ [r]) news')) E' { s with heap := h, toks := tk }) → P) : P := by
  obtain ⟨t, v₁, v₂, v₃, nt, a, b, c⟩ := h
  exact k t v₁ v₂ v₃ nt a b c
noncomputable def BlkJ (h₀ : Heap) (L : Addr) (m : Str → Option Value) (s₂ : Shared) (its : Array Value) (I ax C D : Addr) (S : List (Addr × Obj) → Prop) (R : Nat → Nat → List Value → List (Addr × Obj) → Prop) (k : Nat) (s' : Shared) : Prop :=
  ∃ h' tk i ys m' news', s' = { s₂ with heap := h', toks := tk } ∧ i ≤ its.size ∧ k = its.size + 1 - i ∧ ys.length = i ∧ (h'.IsListIter I ax i ∧ h'.IsList ax its) ∧ Fr h₀ L h' m ∧ h'.Ns C m' ∧ News h₀ L h' ((D, lst ys) :: news') ∧ Off3 I C D news' ∧ S news' ∧ R (its.size - i) i ys news'
theorem BlkJ.elim {s₂ : Shared} {its : Array Value} {I ax C D : Addr} {S : List (Addr × Obj) → Prop} {R : Nat → Nat → List Value → List (Addr × Obj) → Prop} {k : Nat} {s' : Shared} {P : Prop} (h : BlkJ h₀ L m s₂ its I ax C D S R k s')
    (q : ∀ h' tk i ys m' news', i ≤ its.size → ys.length = i → (h'.IsListIter I ax i ∧ h'.IsList ax its) → Fr h₀ L h' m → h'.Ns C m' → News h₀ L h' ((D, lst ys) :: news') → Off3 I C D news' → S news' → R (its.size - i) i ys news' → s' = { s₂ with heap := h', toks := tk } → k = its.size + 1 - i → P) : P := by
  obtain ⟨h', tk, i, ys, m', news', e1, hi, e2, a, b, c, d, e, f, g, r⟩ := h
  exact q h' tk i ys m' news' hi a b c d e f g r e1 e2
theorem block3 {elt iter : Expr} {x y z : Str} {px py pz tp : Pos} {tk} {scope : Scope} {cl : List (Str × Addr)} {pos : Pos} {s₂ : Shared} {I ax : Addr} {its : Array Value} {S : List (Addr × Obj) → Prop} {news : List (Addr × Obj)}
    {Fin : List Value → List (Addr × Obj) → Prop} {RR : Value → Addr → Result → Shared → Prop} (hh : A.handled = none) (hsz : its.size ≤ sizeLine) (hS0 : ∀ h' nw, (∀ b o, h₀.get? b = some o → h'.get? b = some o) → News h₀ L h' nw → S nw → h'.IsList ax its)
    (hcell : ∀ q ∈ scope.names, q.2 ≠ .cell) (hkind : scope.kind = .function) (hx : scope.names.lookup x = some .local) (hy : scope.names.lookup y = some .local) (hz : scope.names.lookup z = some .local) (hxy : x ≠ y) (hxz : x ≠ z) (hyz : y ≠ z)
    (hst : s₂.heap.IsListIter I ax 0 ∧ s₂.heap.IsList ax its) (hne : ax ≠ I) (hI : I < s₂.heap.objs.size)
    (F : Fr h₀ L s₂.heap m) (N : News h₀ L s₂.heap news) (hIL : L ≠ I) (hI₀ : h₀.get? I = none) (off : ∀ p ∈ news, p.1 ≠ I) (hS : S news)
    (R : Rest3 prog w A h₀ L m env elt x y z scope cl s₂ S its Fin its.size 0 [] news)
    (hRR : ∀ D C h tk m' ys news', Fr h₀ L h m → News h₀ L h ((D, lst ys) :: news') → Off1 D news' → h.Ns C m' → h₀.get? C = none → h₀.get? D = none → C ≠ L → D ≠ L → C ≠ D → (∀ p ∈ news', p.1 ≠ C) → Fin ys news' → RR (.ref D) C (.ok .next) { s₂ with heap := h, toks := tk }) :
    wpAny (model prog w) A (newList []) (fun acc s₃ => wpAny (model prog w) A (newFunctionEnv scope env.globals cl [] env.qual none .none (some env)) (fun cenv s₄ =>
      codeAny (model prog w) A (.compStart (.ListComp elt [⟨.Tuple [.Name x px, .Name y py, .Name z pz] tk tp, iter, [], 0⟩] scope pos) 0 (.ref I) acc { cenv with scope := relabel scope env }) (RR acc cenv.locals) s₄) E s₃) E s₂ := by
  have W := Walks.list (prog := prog) (w := w) hh I ax hne its
  have hax : ax < s₂.heap.objs.size := by obtain ⟨_, e, _⟩ := hst.2; exact Heap.lt_size e
  have hfp : ∀ b ∈ [I, ax], b < s₂.heap.objs.size := fun b hb => by
    rcases List.mem_cons.mp hb with rfl | hb
    · exact hI
    · rw [List.mem_singleton.mp hb]; exact hax
  refine wpAny_newObj_type (wpAny_newFunctionEnv hcell (by intro q hq; simp at hq) (fun h₁ hns₁ hsb₁ => ?_) hkind)
  dsimp only at hns₁ hsb₁ ⊢
  generalize hH2 : s₂.heap.push { cls := .type "list", dict := none, data := .seq ([] : List Value).toArray } = H2 at hns₁ hsb₁ ⊢
  have hC : H2.objs.size = s₂.heap.objs.size + 1 := by rw [← hH2, Heap.size_push]
  have hDC : s₂.heap.objs.size ≠ H2.objs.size := by rw [hC]; exact Nat.ne_of_lt (Nat.lt_succ_self _)
  have below : ∀ b, b < s₂.heap.objs.size → b ≠ H2.objs.size ∧ b ≠ s₂.heap.objs.size := fun b hb => ⟨by rw [hC]; exact Nat.ne_of_lt (Nat.lt_succ_of_lt hb), Nat.ne_of_lt hb⟩
  have hDf : s₂.heap.objs.size ∉ [I, ax] := fun hm => Nat.lt_irrefl _ (hfp _ hm)
  have hCf : H2.objs.size ∉ [I, ax] := fun hm => by have := hfp _ hm; rw [hC] at this; exact Nat.lt_irrefl _ (Nat.lt_of_succ_lt this)
  have old : ∀ b o, s₂.heap.get? b = some o → h₁.get? b = some o := fun b o e => hsb₁.extBut b o (below b (Heap.lt_size e)).1 (Heap.get?_push_of_some _ (hH2 ▸ Heap.get?_push_of_some _ e))
  have hacc : h₁.get? s₂.heap.objs.size = some (lst []) := hsb₁.extBut _ _ hDC (Heap.get?_push_of_some _ (hH2 ▸ Heap.get?_push_size _ rfl))
  have hst₁ : h₁.IsListIter I ax 0 ∧ h₁.IsList ax its := W.frame _ _ _ hst fun b _ o e => old b o e
  have fresh₀ : ∀ a, s₂.heap.objs.size ≤ a → h₀.get? a = none := fun a ha => by
    cases e : h₀.get? a with
    | none => rfl
    | some o' => exact absurd (Heap.lt_size (F.keep a o' e)) (Nat.not_lt.mpr ha)
  have hD₀ : h₀.get? s₂.heap.objs.size = none := fresh₀ _ (Nat.le_refl _)
  have hC₀ : h₀.get? H2.objs.size = none := fresh₀ _ (by rw [hC]; exact Nat.le_succ _)
  have hDL : s₂.heap.objs.size ≠ L := Ne.symm (below L F.ns.lt).2
  have hCL : H2.objs.size ≠ L := Ne.symm (below L F.ns.lt).1
  have hCI : I ≠ H2.objs.size := (below I hI).1
  have hDI : I ≠ s₂.heap.objs.size := (below I hI).2
  have off₀ : Off3 I H2.objs.size s₂.heap.objs.size news := Off3.of fun p hp => ⟨off p hp, below _ (Heap.lt_size (N p hp).1)⟩
  have loop : ∀ s₃ : Shared, s₃ = { s₂ with heap := h₁, toks := s₂.toks + ([] : List (Str × Value)).length } →
      codeAny (model prog w) A (.compLoop (.ListComp elt [⟨.Tuple [.Name x px, .Name y py, .Name z pz] tk tp, iter, [], 0⟩] scope pos) 0 (.ref I) (.ref s₂.heap.objs.size) (compEnvC scope cl H2.objs.size env))
        (RR (.ref s₂.heap.objs.size) H2.objs.size) s₃ := by
    rintro s₃ rfl
    refine codeAny_compLoop_pair
      (BlkJ h₀ L m s₂ its I ax H2.objs.size s₂.heap.objs.size S (fun j i ys news' => Rest3 prog w A h₀ L m env elt x y z scope cl s₂ S its Fin j i ys news')) ?_ (its.size + 1)
      ⟨h₁, _, 0, [], _, news, rfl, Nat.zero_le _, rfl, rfl, hst₁, F.keeps old, hns₁, fun p hp => ?_, off₀, hS, R⟩
    · refine fun k s' hJ => BlkJ.elim hJ fun h' tk i ys m' news' hi hyl hst' F' hn' N' off' hS' R' e1 e2 => ?_
      clear hJ
      subst e1 e2
      have off3 := off'.mem
      by_cases hlt : i < its.size
      · have hj : its.size - i = (its.size - i - 1) + 1 := by omega
        generalize its.size - i - 1 = j at hj
        rw [hj] at R'
        refine W.item i _ _ _ hlt hst' fun v h₂ tk₂ hPv hst₂ hk₂ => ?_
        refine rest3_elim R' fun t v₁ v₂ v₃ nt hit hmt R'' => ?_
        have hPv' : its[i]? = some v := hPv
        rw [hit] at hPv'
        cases hPv'
        have N₂ : News h₀ L h₂ ((s₂.heap.objs.size, lst ys) :: news') := news_but N' hk₂ fun p hp => by
          rcases List.mem_cons.mp hp with rfl | hp
          · exact Ne.symm hDI
          · exact (off3 p hp).1
        have ht : IsTup h₂ t #[v₁, v₂, v₃] := ⟨_, (N₂ _ (List.mem_cons_of_mem _ hmt)).1, rfl, nt, rfl⟩
        refine wpAny_letOwnedTupleGo_listiter hst₂.1 ?_
        refine assign_Tuple_tuple hh ht rfl rfl fun h₅ he => ?_
        have he' : ∀ b o, h₂.get? b = some o → h₅.get? b = some o := fun b o e => he b o (Nat.ne_of_lt (Heap.lt_size e)) e
        refine assignInOrder_cons (wpAny_assign_Name (wpAny_storeName_local (lookup_relabel_local hx) ((hn'.at' fun o e => hk₂ _ o (by simpa using Ne.symm hCI) e).at' fun o e => he' _ o e) (fun h₆ hn₆ hs₆ => ?_) (by simp [compEnvC, relabel, hkind])))
        refine assignInOrder_cons (wpAny_assign_Name (wpAny_storeName_local (lookup_relabel_local hy) hn₆ (fun h₇ hn₇ hs₇ => ?_) (by simp [compEnvC, relabel, hkind])))
        refine assignInOrder_cons (wpAny_assign_Name (wpAny_storeName_local (lookup_relabel_local hz) hn₇ (fun h₃ hn₃ hs₃ => ?_) (by simp [compEnvC, relabel, hkind])))
        refine assignInOrder_nil ?_
        have old3 : ∀ b o, b ≠ H2.objs.size → h₂.get? b = some o → h₃.get? b = some o := fun b o hb e => hs₃.extBut b o hb (hs₇.extBut b o hb (hs₆.extBut b o hb (he' b o e)))
        have hst₃ : h₃.IsListIter I ax (i + 1) ∧ h₃.IsList ax its := W.frame _ _ _ hst₂ fun b hb o e => old3 b o (fun q => hCf (by rw [← q]; exact hb)) e
        obtain ⟨oI, heI, _⟩ := id hst₃.1
        obtain ⟨oC, heC, hoC⟩ := ns_obj hn₃
        have F₃ : Fr h₀ L h₃ m := ((((fr_but F' hk₂ hIL hI₀).keeps he').change hs₆ hCL hC₀).change hs₇ hCL hC₀).change hs₃ hCL hC₀
        have N₃ : News h₀ L h₃ ((I, oI) :: (H2.objs.size, oC) :: (s₂.heap.objs.size, lst ys) :: news') := fun p hp => by
          rcases List.mem_cons.mp hp with rfl | hp
          · exact ⟨heI, Ne.symm hIL, hI₀⟩
          · rcases List.mem_cons.mp hp with rfl | hp
            · exact ⟨heC, hCL, hC₀⟩
            · refine ⟨old3 _ _ ?_ (N₂ p hp).1, (N₂ p hp).2⟩
              rcases List.mem_cons.mp hp with rfl | hp
              · exact hDC
              · exact (off3 p hp).2.1
        refine wpAny_mono (R'' I oI H2.objs.size oC s₂.heap.objs.size _ h₃ _ _ hoC (by simp [hxy, hxz]) (by simp [hyz]) (by simp) F₃ N₃ off' ⟨hCI, hDI, Ne.symm hDC⟩) (fun r s₄ q₄ => ?_) fun _ _ e => e
        refine cmpEnd_elim q₄ fun h₄ tk₄ news₄ F₄ N₄ off₄ hS₄ R₄ e₄ => ?_
        clear q₄
        subst e₄
        have zI := (N₄ (I, oI) List.mem_cons_self).1
        have zC := (N₄ (H2.objs.size, oC) (List.mem_cons_of_mem _ List.mem_cons_self)).1
        have zD := (N₄ (s₂.heap.objs.size, lst ys) (List.mem_cons_of_mem _ (List.mem_cons_of_mem _ List.mem_cons_self))).1
        have N₄' : News h₀ L h₄ news₄ := fun p hp => N₄ p (List.mem_cons_of_mem _ (List.mem_cons_of_mem _ (List.mem_cons_of_mem _ hp)))
        have hst₄ : h₄.IsListIter I ax (i + 1) ∧ h₄.IsList ax its := ⟨by obtain ⟨o', q, r⟩ := hst₃.1; rw [heI] at q; cases q; exact ⟨oI, zI, r⟩, hS0 _ _ F₄.keep N₄' hS₄⟩
        refine append_at (hsz := by show ys.toArray.size ≤ sizeLine; rw [List.size_toArray, hyl]; exact Nat.le_trans hi hsz) zD fun h₅ hs₅ hD₅ => ?_
        have off4 := off₄.mem
        refine ⟨its.size + 1 - (i + 1), by omega, h₅, tk₄, i + 1, ys ++ [r], _, news₄, rfl, hlt, rfl, by rw [List.length_append, List.length_singleton, hyl], W.frame _ _ _ hst₄ fun b hb o e => hs₅.extBut b o (fun q => hDf (q ▸ hb)) e, F₄.change hs₅ hDL hD₀,
          (hoC.ns zC).sameBut hs₅ (Ne.symm hDC), fun p hp => ?_, off₄, hS₄, ?_⟩
        · rcases List.mem_cons.mp hp with rfl | hp
          · exact ⟨hD₅.trans (congrArg some (lst_snoc ys r)), hDL, hD₀⟩
          · exact ⟨hs₅.extBut _ _ (off4 p hp).2.2 (N₄' p hp).1, (N₄' p hp).2⟩
        · rw [show its.size - (i + 1) = j by omega]
          exact R₄
      · obtain rfl : i = its.size := Nat.le_antisymm hi (Nat.not_lt.mp hlt)
        rw [Nat.sub_self] at R'
        refine W.done _ _ _ hst' fun h₂ tk₂ hk₂ => ?_
        exact hRR _ _ h₂ tk₂ _ ys news' (fr_but F' hk₂ hIL hI₀) (news_but N' hk₂ fun p hp => by
          rcases List.mem_cons.mp hp with rfl | hp
          · exact Ne.symm hDI
          · exact (off3 p hp).1) off'.one (hn'.at' fun o e => hk₂ _ o (by simpa using Ne.symm hCI) e) hC₀ hD₀ hCL hDL (Ne.symm hDC) (fun p hp => (off3 p hp).2.1) R'
    · rcases List.mem_cons.mp hp with rfl | hp
      · exact ⟨hacc, hDL, hD₀⟩
      · exact ⟨old _ _ (N p hp).1, (N p hp).2⟩
  exact codeAny_compStart_list (loop _ rfl) (W.self 0 _ _ _ hst₁ (loop _ rfl))
/-- the source: a list of the ledger that holds tuples of three -/
noncomputable def Src3 (prog : Program) (w : World) (A : Around) (h₀ : Heap) (L : Addr) (m : Str → Option Value) (env : Env) (elt : Expr) (x y z : Str) (scope : Scope) (cl : List (Str × Addr)) (Fin : Shared → List Value → List (Addr × Obj) → Prop) (xv : Value) (s₁ : Shared) : Prop :=
  ∃ ax vs n news, xv = .ref ax ∧ A.handled = none ∧ Fr h₀ L s₁.heap m ∧ News h₀ L s₁.heap news ∧ (ax, W.listOf (List.toArray vs) n) ∈ news ∧ vs.length ≤ sizeLine ∧
    ∀ g, Rest3 prog w A h₀ L m env elt x y z scope cl { s₁ with heap := g } (fun nw => (ax, W.listOf vs.toArray n) ∈ nw) vs.toArray (Fin { s₁ with heap := g }) vs.toArray.size 0 [] news
theorem ListComp3 {elt iter : Expr} {x y z : Str} {px py pz tp : Pos} {tk} {scope : Scope} {cl : List (Str × Addr)} {pos : Pos} {Q : Value → Shared → Prop} (F₀ : Fr h₀ L s.heap m)
    (hclos : closureFor scope env = pure cl) (hcell : ∀ q ∈ scope.names, q.2 ≠ .cell) (hkind : scope.kind = .function)
    (hnames : ∀ q ∈ scope.names, q.2 = .local → scope.names.lookup q.1 = some .local) (hx : scope.names.lookup x = some .local) (hy : scope.names.lookup y = some .local) (hz : scope.names.lookup z = some .local) (hxy : x ≠ y) (hxz : x ≠ z) (hyz : y ≠ z)
    (h : wpAny (model prog w) A (eval iter env) (Src3 prog w A h₀ L m env elt x y z scope cl (fun s₂ => FinE h₀ L m s₂ Q)) E s)
    (hs : ∀ x, foldedSetIterable iter env x = pure x := by intro _; rfl) :
    wpAny (model prog w) A (eval (.ListComp elt [⟨.Tuple [.Name x px, .Name y py, .Name z pz] tk tp, iter, [], 0⟩] scope pos) env) Q E s := by
  rw [eval_ListComp]
  refine wpAny_comprehension_free (use := none) rfl hs hclos hkind hnames (wpAny_mono h (fun xv s₁ h₁ => ?_) fun _ _ e => e)
  obtain ⟨ax, vs, n, news, rfl, hh, F, N, S, hsz, R⟩ := h₁
  have hl : s₁.heap.IsList ax vs.toArray := mem_list N S
  have hlt : ax < s₁.heap.objs.size := Heap.lt_size (N _ S).1
  refine wpAny_pyIter_list hl ?_
  have up : ∀ b o, s₁.heap.get? b = some o → (s₁.heap.push { cls := .type "list_iterator", data := .fields #[.ref ax, .int 0 0] }).get? b = some o := fun b o e => Heap.get?_push_of_some _ e
  refine block3 hh (by rw [List.size_toArray]; exact hsz) (fun h' nw _ N' S' => ⟨_, (N' _ S').1, rfl, n, rfl⟩) hcell hkind hx hy hz hxy hxz hyz ⟨⟨_, Heap.get?_push_size _ rfl, rfl, rfl⟩, hl.push _⟩ (Nat.ne_of_lt hlt) (by rw [Heap.size_push]; exact Nat.lt_succ_self _)
    (F.keeps up) (N.grown up) (Nat.ne_of_lt F.ns.lt) (next_is_new F) (fun p hp => Nat.ne_of_lt (Heap.lt_size (N p hp).1)) S (R _) ?_
  intro D C h tk m' ys news' F' N' o1 hn hC₀ hD₀ hCL hDL hCD offC fin
  refine ⟨m', hn, fun h'' hs'' => fin D h'' tk (F'.change hs'' hCL hC₀) (fun p hp => ⟨hs''.extBut _ _ ?_ (N' p hp).1, (N' p hp).2⟩) o1⟩
  rcases List.mem_cons.mp hp with rfl | hp
  · exact Ne.symm hCD
  · exact offC p hp
theorem AssignComp3 {elt iter : Expr} {x y z u : Str} {px py pz tp pu : Pos} {tk} {scope : Scope} {cl : List (Str × Addr)} {pos spos : Pos} {Q : Flow → Shared → Prop} (F₀ : Fr h₀ L s.heap m) (hLe : env.locals = L)
    (hsw : swapsWith (.ListComp elt [⟨.Tuple [.Name x px, .Name y py, .Name z pz] tk tp, iter, [], 0⟩] scope pos) (some (.Name u pu)) spos.line env = pure true)
    (hclos : closureFor scope env = pure cl) (hcell : ∀ q ∈ scope.names, q.2 ≠ .cell) (hkind : scope.kind = .function)
    (hnames : ∀ q ∈ scope.names, q.2 = .local → scope.names.lookup q.1 = some .local) (hx : scope.names.lookup x = some .local) (hy : scope.names.lookup y = some .local) (hz : scope.names.lookup z = some .local) (hxy : x ≠ y) (hxz : x ≠ z) (hyz : y ≠ z)
    (hu : env.kindOf u = some .local) (hp : (env.scope.kind == .class || (env.scope.kind == .module && env.locals != env.globals)) = false)
    (h : wpAny (model prog w) A (eval iter env) (Src3 prog w A h₀ L m env elt x y z scope cl (fun s₂ => FinA h₀ L m s₂ u Q)) E s)
    (hs : ∀ x, foldedSetIterable iter env x = pure x := by intro _; rfl) :
    wpAny (model prog w) A (exec (.Assign [.Name u pu] (.ListComp elt [⟨.Tuple [.Name x px, .Name y py, .Name z pz] tk tp, iter, [], 0⟩] scope pos) spos) env) Q E s := by
  subst hLe
  rw [exec_Assign_Name_used _ _ _ _ hsw]
  refine wpAny_bind (wpAny_standAt (wpAny_bind ?_))
  show wpAny _ A (do let _ ← comprehension (.ListComp elt [⟨.Tuple [.Name x px, .Name y py, .Name z pz] tk tp, iter, [], 0⟩] scope pos) scope env _ (newList []) false (eval iter env) (some (assign (.Name u pu) env))) _ _ s
  refine wpAny_bind (wpAny_mono (wpAny_comprehension_free (use := some (assign (.Name u pu) env)) (Q := fun _ s' => Q .next s') rfl hs hclos hkind hnames
    (wpAny_mono h (fun xv s₁ h₁ => ?_) fun _ _ e => e)) (fun _ s' hq => wpAny_pure (wpAny_pure hq)) fun _ _ e => e)
  obtain ⟨ax, vs, n, news, rfl, hh, F, N, S, hsz, R⟩ := h₁
  have hl : s₁.heap.IsList ax vs.toArray := mem_list N S
  have hlt : ax < s₁.heap.objs.size := Heap.lt_size (N _ S).1
  refine wpAny_pyIter_list hl ?_
  have up : ∀ b o, s₁.heap.get? b = some o → (s₁.heap.push { cls := .type "list_iterator", data := .fields #[.ref ax, .int 0 0] }).get? b = some o := fun b o e => Heap.get?_push_of_some _ e
  refine block3 hh (by rw [List.size_toArray]; exact hsz) (fun h' nw _ N' S' => ⟨_, (N' _ S').1, rfl, n, rfl⟩) hcell hkind hx hy hz hxy hxz hyz ⟨⟨_, Heap.get?_push_size _ rfl, rfl, rfl⟩, hl.push _⟩ (Nat.ne_of_lt hlt) (by rw [Heap.size_push]; exact Nat.lt_succ_self _)
    (F.keeps up) (N.grown up) (Nat.ne_of_lt F.ns.lt) (next_is_new F) (fun p hp => Nat.ne_of_lt (Heap.lt_size (N p hp).1)) S (R _) ?_
  intro D C h' tk m' ys news' F' N' o1 hn hC₀ hD₀ hCL hDL hCD offC fin
  show wpAny _ A (assign (.Name u pu) env (.ref D)) _ _ _
  refine wpAny_assign_Name (wpAny_storeName_local hu F'.ns (fun h₂ hn₂ hs₂ => ?_) hp)
  have hL₀ : h₀.get? env.locals = none := Heap.get?_none_of_le F'.above
  have F₂ : Fr h₀ env.locals h₂ (fun q => if q = u then some (.ref D) else m q) := ⟨hn₂, fun b o e => hs₂.extBut b o (fun q => by rw [q, hL₀] at e; cases e) (F'.keep b o e), F'.above⟩
  refine ⟨m', hn.sameBut hs₂ hCL, fun h'' hs'' => fin D h'' _ (F₂.change hs'' hCL hC₀) (fun p hp => ⟨hs''.extBut _ _ ?_ (hs₂.extBut _ _ (N' p hp).2.1 (N' p hp).1), (N' p hp).2⟩) o1⟩
  rcases List.mem_cons.mp hp with rfl | hp
  · exact Ne.symm hCD
  · exact offC p hp
end
end
section
open PySem.Spec PySem.Calls LCg LCp LCt
/-- the values of a list are the tuples of these items, in the ledger -/
inductive HAre (news : List (Addr × Obj)) : List Value → List (Int × Str × Int) → Prop
  | nil : HAre news [] []
  | cons {t : Addr} {x c : Int} {h : Str} {a b d : Tok} {nt : Nat} {vs : List Value} {its : List (Int × Str × Int)} : (t, tup3 (.int x a) (.str h b) (.int c d) nt) ∈ news → HAre news vs its → HAre news (.ref t :: vs) ((x, h, c) :: its)
theorem hare_mono {news news' : List (Addr × Obj)} (hs : ∀ p ∈ news, p ∈ news') : ∀ {vs : List Value} {its : List (Int × Str × Int)}, HAre news vs its → HAre news' vs its
  | _, _, .nil => .nil
  | _, _, .cons h r => .cons (hs _ h) (hare_mono hs r)
theorem hare_len {news : List (Addr × Obj)} : ∀ {vs : List Value} {its : List (Int × Str × Int)}, HAre news vs its → vs.length = its.length
  | _, _, .nil => rfl
  | _, _, .cons _ r => by rw [List.length_cons, List.length_cons, hare_len r]
theorem hare_app {news : List (Addr × Obj)} : ∀ {vs us : List Value} {its jts : List (Int × Str × Int)}, HAre news vs its → HAre news us jts → HAre news (vs ++ us) (its ++ jts)
  | _, _, _, _, .nil, k => k
  | _, _, _, _, .cons h r, k => .cons h (hare_app r k)
theorem hare_take {news : List (Addr × Obj)} : ∀ {vs : List Value} {its : List (Int × Str × Int)}, HAre news vs its → ∀ k, HAre news (vs.take k) (its.take k)
  | _, _, .nil, k => by simp only [List.take_nil]; exact .nil
  | _, _, .cons h r, 0 => .nil
  | _, _, .cons h r, k + 1 => .cons h (hare_take r k)
theorem hare_drop {news : List (Addr × Obj)} : ∀ {vs : List Value} {its : List (Int × Str × Int)}, HAre news vs its → ∀ k, HAre news (vs.drop k) (its.drop k)
  | _, _, .nil, k => by simp only [List.drop_nil]; exact .nil
  | _, _, .cons h r, 0 => .cons h r
  | _, _, .cons h r, k + 1 => hare_drop r k
theorem hare_get {news : List (Addr × Obj)} : ∀ {vs : List Value} {its : List (Int × Str × Int)}, HAre news vs its → ∀ {i : Nat} (h : i < its.length), ∃ t a b d nt, vs[i]? = some (.ref t) ∧ (t, tup3 (.int (its[i]).1 a) (.str (its[i]).2.1 b) (.int (its[i]).2.2 d) nt) ∈ news
  | _, _, .nil, i, h => absurd h (Nat.not_lt_zero _)
  | _, _, .cons (t := t) (a := a) (b := b) (d := d) (nt := nt) hm r, 0, _ => ⟨t, a, b, d, nt, rfl, hm⟩
  | _, _, .cons hm r, i + 1, h => by
    obtain ⟨t, a, b, d, nt, e, hm⟩ := hare_get r (i := i) (by simpa using h)
    exact ⟨t, a, b, d, nt, by simpa using e, by simpa using hm⟩
section
variable {prog : Program} {w : World} {A : Around} {h₀ : Heap} {L : Addr} {m : Str → Option Value} {env : Env} {elt ct : Expr} {x y z : Str} {scope : Scope} {cl : List (Str × Addr)} {s : Shared} {S : List (Addr × Obj) → Prop} {Fin : List Value → List (Addr × Obj) → Prop} {news : List (Addr × Obj)}
noncomputable def EltS (news : List (Addr × Obj)) (r : Str) (v : Value) (news' : List (Addr × Obj)) : Prop := news' = news ∧ ∃ t : Tok, v = .str r t
theorem rest3_strs {vs : List Value} {its : List (Int × Str × Int)} (f : Int → Str → Int → Str) (good : Int → Str → Int → Prop) (hv : HAre news vs its) (hg : ∀ p ∈ its, good p.1 p.2.1 p.2.2)
    (turn : ∀ (i : Int) (u : Str) (c : Int) t1 t2 t3 I oI C oC D m₂ ys h tk (E' : Value → Shared → Prop), good i u c → NsObj oC m₂ → m₂ x = some (.int i t1) → m₂ y = some (.str u t2) → m₂ z = some (.int c t3) → Fr h₀ L h m → News h₀ L h ((I, oI) :: (C, oC) :: (D, lst ys) :: news) → Off3 I C D news → ((@Ne Nat I C) ∧ (@Ne Nat I D) ∧ (@Ne Nat C D)) →
      wpAny (model prog w) A (eval elt (compEnvC scope cl C env)) (CompEnd h₀ L m { s with heap := h, toks := tk } I oI C oC D (lst ys) S (fun r news' => EltS news (f i u c) r news')) E' { s with heap := h, toks := tk })
    (fin : ∀ ys, StrsAre ys (its.map fun p => f p.1 p.2.1 p.2.2) → Fin ys news) : Rest3 prog w A h₀ L m env elt x y z scope cl s S vs.toArray Fin vs.toArray.size 0 [] news := by
  have key : ∀ (j i : Nat) (ys : List Value), i + j = its.length → StrsAre ys ((its.take i).map fun p => f p.1 p.2.1 p.2.2) → Rest3 prog w A h₀ L m env elt x y z scope cl s S vs.toArray Fin j i ys news := by
    intro j
    induction j with
    | zero =>
      intro i ys hi hy
      rw [show i = its.length by omega, List.take_length] at hy
      exact fin ys hy
    | succ j ih =>
      intro i ys hi hy
      have hlt : i < its.length := by omega
      obtain ⟨t, a, b, d, nt, e, hm⟩ := hare_get hv hlt
      refine ⟨t, _, _, _, nt, by simpa using e, hm, ?_⟩
      intro I oI C oC D m₂ h tk E' hC h1 h2 h3 F N off ne
      refine wpAny_mono (turn _ _ _ _ _ _ I oI C oC D m₂ ys h tk E' (hg _ (List.getElem_mem hlt)) hC h1 h2 h3 F N off ne) (fun r s₂ hq => cmpEnd_mono hq fun nw hE hS => ?_) fun _ _ e => e
      obtain ⟨hn, t', hr⟩ := hE
      subst hn
      subst hr
      refine ih (i + 1) _ (by omega) ?_
      rw [List.take_add_one, List.getElem?_eq_getElem hlt, List.map_append]
      exact strs_app hy (.cons _ _ .nil)
  have e : vs.toArray.size = its.length := by rw [List.size_toArray, hare_len hv]
  rw [e]
  exact key its.length 0 [] (by omega) .nil
/-- a comprehension that keeps the texts that pass a look -/
theorem restT_strs {vs : List Value} {xs : List Str} {px : Pos} (p : Str → Bool) (hv : StrsAre vs xs) (hS : S news) (good : Str → Prop) (hg : ∀ q ∈ xs, good q)
    (hk : ∀ C, (compEnvC scope cl C env).scope.kind = .function) (hl : ∀ C, (compEnvC scope cl C env).kindOf x = some .local) (hd : (x == ("__debug__" : Str)) = false)
    (turn : ∀ (q : Str) t I oI C oC D m₂ ys h tk (E' : Value → Shared → Prop), good q → NsObj oC m₂ → m₂ x = some (.str q t) → Fr h₀ L h m → News h₀ L h ((I, oI) :: (C, oC) :: (D, lst ys) :: news) → Off3 I C D news → ((@Ne Nat I C) ∧ (@Ne Nat I D) ∧ (@Ne Nat C D)) →
      wpAny (model prog w) A (isTrue ct (compEnvC scope cl C env) (eval ct (compEnvC scope cl C env))) (fun ok s' => ok = p q ∧ ∃ h' tk', s' = { s with heap := h', toks := tk' } ∧ Fr h₀ L h' m ∧ News h₀ L h' ((I, oI) :: (C, oC) :: (D, lst ys) :: news)) E' { s with heap := h, toks := tk })
    (fin : ∀ ys, StrsAre ys (xs.filter p) → Fin ys news) : CompRestT prog w A h₀ L m env ct (.Name x px) x scope cl s S (fun i v => vs.toArray[i]? = some v) Fin vs.toArray.size 0 [] news := by
  have key : ∀ (j i : Nat) (ys : List Value), i + j = xs.length → StrsAre ys ((xs.take i).filter p) → CompRestT prog w A h₀ L m env ct (.Name x px) x scope cl s S (fun i v => vs.toArray[i]? = some v) Fin j i ys news := by
    intro j
    induction j with
    | zero =>
      intro i ys hi hy
      rw [show i = xs.length by omega, List.take_length] at hy
      exact CompRestT.zero (fin ys hy)
    | succ j ih =>
      intro i ys hi hy
      have hlt : i < xs.length := by omega
      obtain ⟨t, e⟩ := strs_get hv hlt
      refine CompRestT.succ ?_
      intro v I oI C oC D m₂ h tk E' hP hC h1 F N off ne
      have hv' : v = .str xs[i] t := by
        have : vs[i]? = some v := by simpa using hP
        rw [e] at this; exact (Option.some.inj this).symm
      subst hv'
      refine wpAny_mono (turn _ _ I oI C oC D m₂ ys h tk E' (hg _ (List.getElem_mem hlt)) hC h1 F N off ne) (fun ok s₂ hq => ?_) fun _ _ e => e
      obtain ⟨hok, h', tk', rfl, F', N'⟩ := hq
      have step : ∀ ok : Bool, ok = p xs[i] → (xs.take (i + 1)).filter p = (xs.take i).filter p ++ (if ok = true then [xs[i]] else []) := by
        intro ok hok
        rw [List.take_add_one, List.getElem?_eq_getElem hlt, List.filter_append, hok]
        show _ ++ List.filter p [xs[i]] = _
        cases hp : p xs[i] <;> simp [hp]
      have st := step ok hok
      cases ok with
      | true =>
        rw [if_pos rfl]
        refine LCgL.ld_own (N := N') (.tail _ (.head _)) hC h1 ?_ (hk C) (hl C) hd
        refine ⟨h', tk', news, rfl, F', N', off, hS, ih (i + 1) _ (by omega) ?_⟩
        rw [st]
        exact strs_app hy (.cons _ _ .nil)
      | false =>
        rw [if_neg Bool.false_ne_true]
        refine ⟨h', tk', news, rfl, F', N', off, hS, ih (i + 1) _ (by omega) ?_⟩
        rw [st]
        simpa using hy
  have e : vs.toArray.size = xs.length := by rw [List.size_toArray, strs_len hv]
  rw [e]
  exact key xs.length 0 [] (by omega) .nil
end
end
section
theorem pick_to (vs : List Value) (k : Nat) : (slicePick vs.toArray none (some (k : Int)) none).toList = vs.take k := by
  have e : sliceBounds none (some (k : Int)) none vs.toArray.size = (((0 : Nat) : Int), ((min k vs.toArray.size : Nat) : Int), 1) := by
    simp only [sliceBounds, Option.getD_none, show (1 : Int) > 0 by decide, if_true, if_neg (show ¬ ((k : Int) < 0) by omega)]
    congr 1
    congr 1
    omega
  rw [kmk_pick_nat _ e]
  show (vs.drop 0).take (min k vs.toArray.size - 0) = _
  rw [List.drop_zero, Nat.sub_zero, List.size_toArray, kmk_take_min]
theorem pick_from (vs : List Value) (k : Nat) : (slicePick vs.toArray (some (k : Int)) none none).toList = vs.drop k := by
  have e : sliceBounds (some (k : Int)) none none vs.toArray.size = (((min k vs.toArray.size : Nat) : Int), ((vs.toArray.size : Nat) : Int), 1) := by
    simp only [sliceBounds, Option.getD_none, show (1 : Int) > 0 by decide, if_true, if_neg (show ¬ ((k : Int) < 0) by omega)]
    congr 1
    omega
  rw [kmk_pick_nat _ e]
  show (vs.drop (min k vs.toArray.size)).take (vs.toArray.size - min k vs.toArray.size) = _
  rw [List.size_toArray, kmk_drop_min, List.take_of_length_le (by rw [List.length_drop]; omega)]
section
variable {prog : Program} {w : World} {A : Around} {E : Value → Shared → Prop} {s : Shared} {Q : Value → Shared → Prop} {h₀ : Heap} {L l b : Addr} {m : Str → Option Value} {news : List (Addr × Obj)} {vs ws : List Value} {n n2 : Nat} {value slice : PySem.Expr}
theorem slice_to {k : Nat} {t : Tok} (F : Fr h₀ L s.heap m) (N : News h₀ L s.heap news) (hm : (l, W.listOf vs.toArray n) ∈ news) (hl : vs.length ≤ 1000)
    (h : ∀ D h', Fr h₀ L h' m → News h₀ L h' ((D, W.listOf (vs.take k).toArray 0) :: news) → (∀ p ∈ news, p.1 < D) → Q (.ref D) { s with heap := h' })
    (hs : subscripted slice false (.ref l) (.ref s.heap.objs.size) = operate [.ref s.heap.objs.size, .ref l] (getItem (.ref l) (.ref s.heap.objs.size))) (ht : ∀ r, letTemporaryGo value (.ref l) r = pure ()) :
    wpAny (model prog w) A (subscriptTail value slice (.ref l) (.ref s.heap.objs.size)) Q E { s with heap := s.heap.push { cls := .type "slice", data := .fields #[.none, .int (k : Int) t, .none] } } :=
  kmk_slice_lit F N (mem_list N hm) .none (.int _ t) (pick_to vs k) h hs ht (by rw [List.size_toArray, sizeLine_eq]; omega)
theorem slice_fro {k : Nat} {t : Tok} (F : Fr h₀ L s.heap m) (N : News h₀ L s.heap news) (hm : (l, W.listOf vs.toArray n) ∈ news) (hl : vs.length ≤ 1000)
    (h : ∀ D h', Fr h₀ L h' m → News h₀ L h' ((D, W.listOf (vs.drop k).toArray 0) :: news) → (∀ p ∈ news, p.1 < D) → Q (.ref D) { s with heap := h' })
    (hs : subscripted slice false (.ref l) (.ref s.heap.objs.size) = operate [.ref s.heap.objs.size, .ref l] (getItem (.ref l) (.ref s.heap.objs.size))) (ht : ∀ r, letTemporaryGo value (.ref l) r = pure ()) :
    wpAny (model prog w) A (subscriptTail value slice (.ref l) (.ref s.heap.objs.size)) Q E { s with heap := s.heap.push { cls := .type "slice", data := .fields #[.int (k : Int) t, .none, .none] } } :=
  kmk_slice_lit F N (mem_list N hm) (.int _ t) .none (pick_from vs k) h hs ht (by rw [List.size_toArray, sizeLine_eq]; omega)
theorem add_L (F : Fr h₀ L s.heap m) (N : News h₀ L s.heap news) (hm : (l, W.listOf vs.toArray n) ∈ news) (hb : (b, W.listOf ws.toArray n2) ∈ news) (hz : vs.length + ws.length ≤ 1000)
    (h : ∀ D h', Fr h₀ L h' m → News h₀ L h' ((D, W.listOf (vs ++ ws).toArray 0) :: news) → (∀ p ∈ news, p.1 < D) → Q (.ref D) { s with heap := h' }) : wpAny (model prog w) A (binaryOp .Add (.ref l) (.ref b)) Q E s :=
  add_lists F N (mem_list N hm) (mem_list N hb) (fun h' F' N' => h _ h' F' N' fun p hp => Heap.lt_size (N p hp).1) (by rw [sizeLine_eq]; omega)
end
end
section
noncomputable def Good (x : Int) (hue : Str) (c : Int) : Prop := 0 ≤ x ∧ x < 1000000 ∧ hue.length ≤ 4 ∧ 0 ≤ c ∧ c ≤ 8
noncomputable def IsLay (its : List (Int × Str × Int)) (sub news : List (Addr × Obj)) : Post := fun v n => ∃ (D tp : Addr) (vs : List Value) (k : Nat) (ot : Obj), v = .ref D ∧ n = (D, W.listOf vs.toArray k) :: (tp, ot) :: news ∧ HAre ((tp, ot) :: sub) vs its ∧ (∀ p ∈ (tp, ot) :: news, p.1 ≠ D) ∧ (∀ p ∈ news, p.1 ≠ tp)
section
variable {D U : Nat} {w : World} {mean : ExcName → Option Value} {mg mb : Str → Option Value} {f : Addr} {vs : List Value} {kw : List (Str × Value)} {news : List (Addr × Obj)} {dp un : Nat} {gd : Option (List Code)} {cn : Str} {cs : Scope} {a : Addr} {ccd : Value} {cl : List (Str × Addr)} {outer : List Env} {A₀ : Around} {base h₀ : Heap} {L : Addr} {m : Str → Option Value} {s : Shared} {Q E : Value → Shared → Prop}
theorem does_Lay {its : List (Int × Str × Int)} {sub : List (Addr × Obj)} (B : Below A₀ base outer h₀) (F : Fr h₀ L s.heap m) (X : (hd.heap_39 w.params).In h₀) (N : News h₀ L s.heap news) (T : Top hd.view_39 LS mean mg mb h₀) (hk : cs.kind = .function) (C : Does D U w mean mg mb f vs kw news (IsLay its sub news))
    (h1 : dp + D < recursionLimit) (h2 : un + U < cLine)
    (ret : ∀ (b tp : Addr) (us : List Value) (k : Nat) (ot : Obj) (h' : Heap) (tk' : Nat), Fr h₀ L h' m → News h₀ L h' ((b, W.listOf us.toArray k) :: (tp, ot) :: news) → HAre ((tp, ot) :: sub) us its → (∀ p ∈ (tp, ot) :: news, p.1 ≠ b) → (∀ p ∈ news, p.1 ≠ tp) → Q (.ref b) { s with heap := h', toks := tk' }) : wpAny (model Challenge.rw_pg0185_01.row.prog w) (ktrTop dp un gd cn cs L a ccd cl outer) (call (.ref f) vs kw) Q E s :=
  does_use C B F X N T hk h1 h2 fun v n h' tk' F' N' hp => by
    obtain ⟨b, tp, us, k, ot, rfl, rfl, hA, o1, o2⟩ := hp
    exact ret b tp us k ot h' tk' F' N' hA o1 o2
end
noncomputable def nameOf (p : Int × Str × Int) : Str := dueNameS p.1 p.2.1 p.2.2
theorem tst1 {q n : Str} {fl : Bool} (h : ltS q n = true) : true = (ltS q n || q == n && !fl) := by rw [h]; rfl
theorem tst2 {q n : Str} {fl : Bool} (h : ltS q n = false) (h2 : (q == n) = false) : false = (ltS q n || q == n && !fl) := by rw [h, h2]; rfl
theorem tst3 {q n : Str} {fl : Bool} (h : ltS q n = false) (h2 : (q == n) = true) (h3 : fl = false) : true = (ltS q n || q == n && !fl) := by rw [h, h2, h3]; rfl
theorem tst4 {q n : Str} {fl : Bool} (h : ltS q n = false) (h2 : (q == n) = true) (h3 : fl = true) : false = (ltS q n || q == n && !fl) := by rw [h, h2, h3]; rfl
theorem lay_cnt (ks : List Str) (n : Str) (fl : Bool) : (ks.filter fun q => ltS q n || q == n && !fl).length = if fl then cntL ks n else cntR ks n := by
  cases fl with
  | true =>
    show _ = cntL ks n
    unfold cntL
    congr 2
    funext q
    simp
  | false =>
    show _ = cntR ks n
    unfold cntR
    congr 2
    funext q
    cases e : ltS q n with
    | true => rw [ltS_asymm e]; simp
    | false =>
      cases e2 : ltS n q with
      | true =>
        have : q ≠ n := fun h => by rw [h, ltS_irrefl] at e2; exact absurd e2 Bool.false_ne_true
        simp [this]
      | false => simp [ltS_eq e e2]
theorem lay_ret {h₀ h' : Heap} {L D tp : Addr} {m : Str → Option Value} {s : Shared} {Q : Value → Shared → Prop} {tk : Nat} {sub news : List (Addr × Obj)} {vs : List Value} {its : List (Int × Str × Int)} {k nt : Nat} {x c : Int} {hue : Str} {t u v : Tok} {e1 e2 e3 e4 e5 e6 e7 e8 : Addr × Obj}
    (hret : ∀ (v : Value) (news' : List (Addr × Obj)) (h' : Heap) (tk' : Nat), Fr h₀ L h' m → News h₀ L h' news' → IsLay (insAt k (x, hue, c) its) sub news v news' → Q v { s with heap := h', toks := tk' }) (F : Fr h₀ L h' m)
    (N : News h₀ L h' ((D, W.listOf (vs.take k ++ [Value.ref tp] ++ vs.drop k).toArray 0) :: e1 :: e2 :: e3 :: (tp, tup3 (.int x t) (.str hue u) (.int c v) nt) :: e4 :: e5 :: e6 :: e7 :: e8 :: news)) (hv : HAre sub vs its)
    (dA : AllLt D news) (d4 : @LT.lt Nat _ tp D) (ho : ∀ p ∈ news, p.1 ≠ tp) : Q (.ref D) { s with heap := h', toks := tk } := by
  refine hret _ ((D, W.listOf (vs.take k ++ [Value.ref tp] ++ vs.drop k).toArray 0) :: (tp, tup3 (.int x t) (.str hue u) (.int c v) nt) :: news) h' tk F (fun p hp => N p ?_) ⟨D, tp, vs.take k ++ [Value.ref tp] ++ vs.drop k, 0, tup3 (.int x t) (.str hue u) (.int c v) nt, rfl, rfl, ?_, ?_, ho⟩
  · rcases List.mem_cons.mp hp with rfl | hp
    · exact List.Mem.head _
    · rcases List.mem_cons.mp hp with rfl | hp
      · exact .tail _ (.tail _ (.tail _ (.tail _ (.head _))))
      · exact .tail _ (.tail _ (.tail _ (.tail _ (.tail _ (.tail _ (.tail _ (.tail _ (.tail _ (.tail _ hp)))))))))
  · rw [List.append_assoc]
    exact hare_app (hare_take (hare_mono (sub_cons (sub_refl _)) hv) _) (.cons (.head _) (hare_drop (hare_mono (sub_cons (sub_refl _)) hv) _))
  · intro p hp
    rcases List.mem_cons.mp hp with rfl | hp
    · exact Nat.ne_of_lt d4
    · exact off_all dA p hp
theorem lay_does (w : World) (mean mg mb) (hd9 : Addr) (vs : List Value) (its : List (Int × Str × Int)) (nn : Nat) (x : Int) (hue : Str) (c : Int) (fl : Bool) (t u v : Tok) (sub news : List (Addr × Obj)) (hm : (hd9, W.listOf vs.toArray nn) ∈ news) (hsub : ∀ p ∈ sub, p ∈ news) (hv9 : HAre sub vs its) (hg : ∀ p ∈ its, Good p.1 p.2.1 p.2.2) (hlen : its.length ≤ 8) (hG : Good x hue c) :
    Does 5 300 w mean mg mb 133 [.ref hd9, .int x t, .str hue u, .int c v, .bool fl] [] news (IsLay (insAt (if fl then cntL (its.map nameOf) (dueNameS x hue c) else cntR (its.map nameOf) (dueNameS x hue c)) (x, hue, c) its) sub news) := by
  have hv : HAre news vs its := hare_mono hsub hv9
  obtain ⟨g1, g2, g3, g4, g5⟩ := hG
  rw [← lay_cnt (its.map nameOf) (dueNameS x hue c) fl]
  have hvl : vs.length = its.length := hare_len hv
  w_top off
  k_with_none
  k_with "ktr_rel" => (first | exact sub_refl _ | assumption | (refine sub_cons ?_; ktr_rel))
  k_with "k_mem" => (first | assumption | exact List.Mem.head _ | (refine List.Mem.tail _ ?_; k_mem))
  k_with "k_all" => (first | assumption | exact off_lt (by assumption) (by omega) | ((rename (_ ∧ _ ∧ AllLt _ _) => hl9); exact off_all hl9.2.2) | exact List.forall_mem_nil _ | (refine List.forall_mem_cons.mpr ⟨by first | assumption | exact Ne.symm (by assumption) | k_ne, ?_⟩; k_all))
  k_with "CompEnd" => ((k_dflt (refine cmp_end (by k_asm) (by k_asm) (by with_unfolding_all assumption) (by first | lcg_src | (show _ ∈ _; k_mem)) ?_)))
  k_with "call ref" => ((k_here; (with_reducible show wpAny _ _ (call (Value.ref 128) [Value.int _ _, Value.str _ _, Value.int _ _] _) _ _ _); k_dflt (refine does_S (by k_asm) (by k_asm) (by k_asm) (by k_asm) (by k_asm) (by first | exact rfl | assumption) (dueName_does _ _ _ _ _ (by assumption) (by assumption) _ (by assumption) _ (by assumption) (by assumption) _ _ _ _) (by ktr_room) (by ktr_units) ?_); intro t9 h9 tk9 F9 N9; (try dsimp only); (try k_fold)))
  k_with "exec Assign cons ListComp" => ((k_here; k_dflt (refine AssignComp3 (F₀ := by k_asm) (by rfl) (by with_unfolding_all rfl) (by with_unfolding_all rfl) (by decide) (by rfl) (by decide) (by rfl) (by rfl) (by rfl) (by decide) (by decide) (by decide) (by rfl) (by rfl) ?_)))
  k_with "eval ListComp" => ((k_here; k_dflt (refine LCt.ListComp_T (F₀ := by k_asm) (by with_unfolding_all rfl) (by decide) (by rfl) (by decide) (by rfl) ?_)))
  k_with "compareOp Lt str str" => ((k_here; (with_reducible show wpAny _ _ (compareOp _ (Value.str _ _) (Value.str _ _)) _ _ _); (refine lt_S ?_)))
  k_with "EltS" => (exact ⟨rfl, _, rfl⟩)
  k_with "call builtin:len" => ((k_here; (with_reducible show wpAny _ _ (call (Value.builtin "len") [Value.ref _]) _ _ _); k_dflt (refine len_S (by k_asm) (by k_mem) (by assumption) (by first | omega | ((rename (∀ p : Str → Bool, _) => hq9); exact hq9 _)) ?_); intro t' tk'))
  k_with "subscriptTail Name Slice ref ref" => ((k_here; (with_reducible show wpAny _ _ (subscriptTail _ (PySem.Expr.Slice none (some _) none _) (Value.ref _) (Value.ref _)) _ _ _); k_dflt (refine slice_to (by k_asm) (by k_asm) (by k_mem) (by first | with_reducible assumption | with_reducible exact And.left (by assumption) | with_reducible exact And.right (by assumption) | with_reducible exact Int.ofNat_lt.mp (by assumption) | omega) ?_ (by with_unfolding_all rfl) (by kmk_pure)); intro D' h' F' N' l1; (try k_lt l1); (try k_sweep)))
  k_with "subscriptTail Name Slice ref ref" => ((k_here; (with_reducible show wpAny _ _ (subscriptTail _ (PySem.Expr.Slice (some _) none none _) (Value.ref _) (Value.ref _)) _ _ _); k_dflt (refine slice_fro (by k_asm) (by k_asm) (by k_mem) (by first | with_reducible assumption | with_reducible exact And.left (by assumption) | with_reducible exact And.right (by assumption) | with_reducible exact Int.ofNat_lt.mp (by assumption) | omega) ?_ (by with_unfolding_all rfl) (by kmk_pure)); intro D' h' F' N' l1; (try k_lt l1); (try k_sweep)))
  k_with "binaryOp Add ref ref" => ((k_here; (with_reducible show wpAny _ _ (binaryOp _ (Value.ref _) (Value.ref _)) _ _ _); k_dflt (refine add_L (by k_asm) (by k_asm) (by k_mem) (by k_mem) (by (simp only [List.length_append, List.length_take, List.length_drop, List.length_cons, List.length_nil]; omega)) ?_); intro D' h' F' N' l1; (try k_lt l1); (try k_sweep)))
  unfold Does; k_fill
  intro dp un gd cn cs a ccd cl outer A₀ base h₀ L m s Q E B F X N T hk hd hu hret
  refine wpAny_call ?_
  k_dflt (refine' code_defC ?k1 ?k2 ?k3 ?k4 ?k5 ?kA ?kF ?kK ?k6 ?k7 ?k8 ?k9 ?kB ?kD ?_ ?c2 ?c3 ?c4; (case kA => exact rfl); (case kF => exact rfl); (case kK => assumption); (case k1 => k_asm); (case k2 => k_asm); (case k3 => k_asm); (case k4 => k_asm); (case k5 => k_asm); (case k6 => k_is); (case k7 => k_is); (case k8 => ktr_room); (case k9 => exact BindsTo.of_eq rfl); (case kB => exact rfl); (case kD => decide +kernel); (case c2 => exact rfl); (case c3 => exact rfl); (case c4 => exact rfl); k_whole; intro g' L' h' tk' cells' FG' F' N' Y' B' X' T' l1; (try k_lt l1); k_cells Y'; (try simp only [List.cons_append, List.nil_append] at N'); (try dsimp only); (try k_lift B'); (try k_fold))
  k_with "Src3" => ((rename Fr _ _ _ _ => lF'); (rename News _ _ _ _ => lN'); k_dflt (refine ⟨_, _, _, _, rfl, by rfl, lF', lN', by k_mem, by rw [sizeLine_eq, hare_len hv]; omega, fun g => rest3_strs dueNameS Good (hare_mono (by ktr_rel) hv) hg ?_ ?_⟩); (rotate_left; intro ys hys; rotate_right; intro i9 u9 c9 t1 t2 t3 I9 oI9 C9 oC9 D9 m9 ys9 h9 tk9 E9 hg9 hC9 hx9 hy9 hz9 hF9 hN9 off9 ne9; (obtain ⟨q1, q2, q3, q4, q5⟩ := hg9)))
  have hll : ∀ p : Str → Bool, ((its.map fun p => dueNameS p.1 p.2.1 p.2.2).filter p).length ≤ 1000 := fun p => Nat.le_trans (List.length_filter_le _ _) (by rw [List.length_map]; omega)
  k_with "CompSrcT" => ((rename Fr _ _ _ _ => lF'); (rename News _ _ _ _ => lN'); k_dflt (refine LCt.CompSrcT.ledger (by rfl) lF' lN' (by k_mem) (by rw [List.size_toArray, strs_len (by assumption), List.length_map, sizeLine_eq]; omega) fun g => restT_strs (fun q => ltS q (dueNameS x hue c) || (q == dueNameS x hue c && !fl)) (by assumption) (Or.inr ⟨_, by k_mem, rfl, _, rfl⟩) (fun _ => True) (fun _ _ => trivial) (fun _ => rfl) (fun _ => by with_unfolding_all rfl) (by decide) ?_ ?_); (rotate_left; intro ys2 hys2; rotate_right; intro q9 t9 I9 oI9 C9 oC9 D9 m9 ys9 h9 tk9 E9 hg9 hC9 hx9 hF9 hN9 off9 ne9))
  k_steps
  all_goals first | k_asm | skip
  iterate 4 (focus (first | exact tst1 (by assumption) | exact tst2 (by assumption) (by assumption) | exact tst3 (by assumption) (by assumption) (by assumption) | exact tst4 (by assumption) (by assumption) (by assumption)))
  (rename (_ ∧ _ ∧ _ ∧ _ ∧ _ ∧ _ ∧ _ ∧ _ ∧ _ ∧ AllLt _ news) => hD)
  (rename (_ ∧ _ ∧ _ ∧ _ ∧ _ ∧ AllLt _ news) => hT)
  obtain ⟨d1, d2, d3, d4, _, _, _, _, _, dA⟩ := hD
  exact lay_ret hret (by k_asm) (by k_asm) hv9 dA d4 (off_all hT.2.2.2.2.2)
end
section
open PySem.StrLaws PySem.Builtin PySem.Builtin.Str
theorem at_one {l : List Nat} {c hi i : Nat} : At (tx l) (tx [c]) hi i ↔ i + 1 ≤ hi ∧ l[i]? = some c := by
  unfold At
  rw [subAt_eq]
  show i + 1 ≤ hi ∧ ((l.drop i).take 1 == [c]) = true ↔ _
  rw [take1_drop]
theorem occ_hi (x y : Str) (lo hi : Nat) :
    (occurrences x y lo hi 1 = [] ∧ ∀ i, lo ≤ i → ¬ At x y hi i) ∨ ∃ i r, occurrences x y lo hi 1 = i :: r ∧ lo ≤ i ∧ At x y hi i ∧ ∀ k, lo ≤ k → k < i → ¬ At x y hi k := by
  rw [occ_eq]
  rcases occ_first x y hi 1 (Nat.le_refl 1) (List.range' lo (hi + 1 - lo)) lo (fun i h => (List.mem_range'_1.mp h).1) with ⟨h0, hn⟩ | ⟨pre, a, post, e, h0, ha, hn⟩
  · refine .inl ⟨by rw [h0], fun i hlo h => hn i ?_ h⟩
    have := h.1
    rw [List.mem_range'_1]; omega
  · have hs := range'_split_from e
    generalize (forIn (List.range' lo (hi + 1 - lo)) ((#[] : Array Nat), lo) (occBody x y hi 1)).run.fst = arr at h0 ⊢
    have h1 : arr.toList[0]? = some a := by simpa using h0
    cases hL : arr.toList with
    | nil => rw [hL] at h1; cases h1
    | cons b t =>
      rw [hL] at h1
      have e2 : b = a := by simpa using h1
      subst e2
      exact .inr ⟨b, t, rfl, hs.1, ha, fun k hk0 hk => hn k (hs.2 k hk0 hk)⟩
theorem find_at {l : List Nat} {c lo hi k : Nat} (h : l[k]? = some c) (h1 : lo ≤ k) (h2 : k < hi) (hn : ∀ j, lo ≤ j → j < k → l[j]? ≠ some c) : ∃ r, occurrences (tx l) (tx [c]) lo hi 1 = k :: r := by
  rcases occ_hi (tx l) (tx [c]) lo hi with ⟨_, hno⟩ | ⟨i, r, e, hlo, hat, hno⟩
  · exact absurd (at_one.mpr ⟨h2, h⟩) (hno k h1)
  · have ha := at_one.mp hat
    rcases Nat.lt_trichotomy i k with c1 | c1 | c1
    · exact absurd ha.2 (hn i hlo c1)
    · exact ⟨r, by rw [e, c1]⟩
    · exact absurd (at_one.mpr ⟨h2, h⟩) (hno k h1 c1)
theorem find_no {l : List Nat} {c lo hi : Nat} (hn : ∀ j, lo ≤ j → j < hi → l[j]? ≠ some c) : occurrences (tx l) (tx [c]) lo hi 1 = [] := by
  rcases occ_hi (tx l) (tx [c]) lo hi with ⟨e, _⟩ | ⟨i, r, e, hlo, hat, _⟩
  · exact e
  · have ha := at_one.mp hat
    exact absurd ha.2 (hn i hlo ha.1)
theorem last_hi (x y : Str) (hi : Nat) : (lastOccurrence x y 0 hi = none ∧ ∀ i, ¬ At x y hi i) ∨ ∃ i, lastOccurrence x y 0 hi = some i ∧ At x y hi i ∧ ∀ k, i < k → ¬ At x y hi k := by
  rw [last_eq]
  have key := last_run x y hi (List.range' 0 (hi + 1 - 0)) [] none (fun _ h => nomatch h) (fun _ h => nomatch h) (by simpa using List.pairwise_lt_range' (s := 0) (n := hi + 1 - 0))
  have mem : ∀ i, At x y hi i → i ∈ [] ++ List.range' 0 (hi + 1 - 0) := fun i h => by
    have := h.1
    rw [List.nil_append, List.mem_range'_1]; omega
  cases hr : (forIn (List.range' 0 (hi + 1 - 0)) none (lastBody x y hi)).run with
  | none => rw [hr] at key; exact .inl ⟨rfl, fun i h => key i (mem i h) h⟩
  | some a => rw [hr] at key; exact .inr ⟨a, rfl, key.1, fun k hk hA => key.2 k (mem k hA) hk hA⟩
theorem last_at {l : List Nat} {c hi k : Nat} (h : l[k]? = some c) (h2 : k < hi) (hn : ∀ j, k < j → j < hi → l[j]? ≠ some c) : lastOccurrence (tx l) (tx [c]) 0 hi = some k := by
  rcases last_hi (tx l) (tx [c]) hi with ⟨_, hno⟩ | ⟨i, e, hat, hno⟩
  · exact absurd (at_one.mpr ⟨h2, h⟩) (hno k)
  · have ha := at_one.mp hat
    rcases Nat.lt_trichotomy i k with c1 | c1 | c1
    · exact absurd (at_one.mpr ⟨h2, h⟩) (hno k c1)
    · rw [e, c1]
    · exact absurd ha.2 (hn i c1 ha.1)
theorem last_no {l : List Nat} {c hi : Nat} (hn : ∀ j, j < hi → l[j]? ≠ some c) : lastOccurrence (tx l) (tx [c]) 0 hi = none := by
  rcases last_hi (tx l) (tx [c]) hi with ⟨e, _⟩ | ⟨i, e, hat, _⟩
  · exact e
  · have ha := at_one.mp hat
    exact absurd ha.2 (hn i ha.1)
theorem nl_tx : Str.ofString "\n" = tx [10] := by decide +kernel
theorem colon_tx : Str.ofString ":" = tx [58] := by decide +kernel
theorem dot_tx : Str.ofString "." = tx [46] := by decide +kernel
theorem not_at {A R : List Nat} {c j : Nat} (h : c ∉ A) (hj : j < A.length) : (A ++ R)[j]? ≠ some c := by
  rw [List.getElem?_append_left hj]
  exact fun e => h (List.mem_of_getElem? e)
theorem from_nat (len k : Nat) : fromIndex len (k : Int) = k := by
  unfold fromIndex
  first | rfl | (split <;> omega)
theorem from_zero (len : Nat) : fromIndex len 0 = 0 := from_nat len 0
/-- the end of the name: the first colon or line end -/
theorem stripC_at {A R : List Nat} {q : Nat} (hA : ∀ c ∈ A, c ≠ 10 ∧ c ≠ 58) (hq : q = 10 ∨ q = 58) : stripC (tx (A ++ q :: R)) = (A.length : Int) := by
  have n10 : 10 ∉ A := fun h => (hA _ h).1 rfl
  have n58 : 58 ∉ A := fun h => (hA _ h).2 rfl
  have hlen : (tx (A ++ q :: R)).length = A.length + (R.length + 1) := by rw [tx_len, List.length_append, List.length_cons]
  have hat : (A ++ q :: R)[A.length]? = some q := by rw [List.getElem?_append_right (Nat.le_refl _), Nat.sub_self]; rfl
  rcases hq with rfl | rfl
  · have hE : stripE (tx (A ++ 10 :: R)) = (A.length : Int) := by
      obtain ⟨r, e⟩ := find_at (lo := 0) (hi := (tx (A ++ 10 :: R)).length) hat (Nat.zero_le _) (by omega) (fun j _ hj => not_at n10 hj)
      have : Txt.find (tx (A ++ 10 :: R)) (Str.ofString "\n") = (A.length : Int) := by rw [nl_tx]; unfold Txt.find; rw [e]
      unfold stripE; rw [this, if_pos (by omega)]
    have hF : find4 (tx (A ++ 10 :: R)) (Str.ofString ":") 0 (stripE (tx (A ++ 10 :: R))) = -1 := by
      rw [hE, colon_tx]
      unfold find4
      rw [from_zero, from_nat, Nat.min_eq_left (by omega), find_no (fun j _ hj => not_at n58 hj)]
    unfold stripC; rw [hF, if_neg (by decide), hE]
  · have hE : ∃ e : Nat, stripE (tx (A ++ 58 :: R)) = (e : Int) ∧ A.length < e := by
      unfold stripE
      rw [nl_tx]
      unfold Txt.find
      rcases occ_hi (tx (A ++ 58 :: R)) (tx [10]) 0 (tx (A ++ 58 :: R)).length with ⟨e, _⟩ | ⟨i, r, e, _, hat', _⟩
      · rw [e]; refine ⟨_, if_neg (by decide), by omega⟩
      · rw [e]
        have ha := (at_one.mp hat').2
        refine ⟨i, if_pos (by show (0 : Int) ≤ (i : Int); omega), ?_⟩
        rcases Nat.lt_trichotomy i A.length with c1 | c1 | c1
        · exact absurd ha (not_at n10 c1)
        · rw [c1, hat] at ha; cases ha
        · exact c1
    obtain ⟨e, hE, he⟩ := hE
    have hF : find4 (tx (A ++ 58 :: R)) (Str.ofString ":") 0 (stripE (tx (A ++ 58 :: R))) = (A.length : Int) := by
      rw [hE, colon_tx]
      unfold find4
      rw [from_zero, from_nat]
      obtain ⟨r, e2⟩ := find_at (lo := 0) (hi := min e (tx (A ++ 58 :: R)).length) hat (Nat.zero_le _) (by omega) (fun j _ hj => not_at n58 hj)
      rw [e2]
    unfold stripC; rw [hF, if_pos (by omega)]
theorem stripC_all {A : List Nat} (hA : ∀ c ∈ A, c ≠ 10 ∧ c ≠ 58) : stripC (tx A) = (A.length : Int) := by
  have n10 : 10 ∉ A := fun h => (hA _ h).1 rfl
  have n58 : 58 ∉ A := fun h => (hA _ h).2 rfl
  have no : ∀ (c : Nat), c ∉ A → ∀ j, A[j]? ≠ some c := fun c hc j e => hc (List.mem_of_getElem? e)
  have hE : stripE (tx A) = (A.length : Int) := by
    have : Txt.find (tx A) (Str.ofString "\n") = -1 := by rw [nl_tx]; unfold Txt.find; rw [find_no (fun j _ _ => no 10 n10 j)]
    unfold stripE; rw [this, if_neg (by decide), tx_len]
  have hF : find4 (tx A) (Str.ofString ":") 0 (stripE (tx A)) = -1 := by
    rw [hE, colon_tx]
    unfold find4
    rw [find_no (fun j _ _ => no 58 n58 j)]
  unfold stripC; rw [hF, if_neg (by decide), hE]
theorem slice_run {l : List Nat} {a b : Nat} (hab : a ≤ b) (hb : b ≤ l.length) : Txt.slice (tx l) (some (a : Int)) (some (b : Int)) = tx ((l.drop a).take (b - a)) :=
  sliceText_nat (tx l) hab (by rw [tx_len]; exact hb)
theorem stripS_of {P B R : List Nat} (hB : 46 ∉ B) (hP : P = [] ∨ ∃ P', P = P' ++ [46]) (hC : stripC (tx (P ++ B ++ R)) = ((P ++ B).length : Int)) : stripS (tx (P ++ B ++ R)) = tx B := by
  have hl : (P ++ B ++ R).length = P.length + B.length + R.length := by simp only [List.length_append]
  have hlen : (tx (P ++ B ++ R)).length = P.length + B.length + R.length := by rw [tx_len, hl]
  have hPB : (P ++ B).length = P.length + B.length := List.length_append
  have out : Txt.slice (tx (P ++ B ++ R)) (some (P.length : Int)) (some ((P ++ B).length : Int)) = tx B := by
    rw [slice_run (by omega) (by omega)]
    congr 1
    rw [List.append_assoc, List.drop_left, hPB, Nat.add_sub_cancel_left, List.take_left]
  have hr : rfind4 (tx (P ++ B ++ R)) (Str.ofString ".") 0 (stripC (tx (P ++ B ++ R))) = (P.length : Int) - 1 := by
    rw [hC, dot_tx]
    unfold rfind4
    rw [from_zero, from_nat, Nat.min_eq_left (by omega)]
    rcases hP with rfl | ⟨P', rfl⟩
    · rw [last_no (fun j hj => by rw [List.nil_append] at hj ⊢; exact not_at hB hj)]; rfl
    · rw [last_at (k := P'.length) (by
        rw [List.append_assoc, List.append_assoc, List.getElem?_append_right (Nat.le_refl _), Nat.sub_self]; rfl) (by simp only [List.length_append, List.length_cons, List.length_nil]; omega) (fun j h1 h2 => by
        rw [List.append_assoc, List.getElem?_append_right (by simp; omega)]
        have hj : j - (P' ++ [46]).length < B.length := by simp at h2 ⊢; omega
        exact not_at hB hj)]
      simp
  unfold stripS
  rw [hr, hC]
  rcases hP with rfl | ⟨P', rfl⟩
  · rw [if_neg (by decide)]; exact out
  · rw [if_pos (by simp), Int.sub_add_cancel]; exact out
end
section
open PySem.StrLaws PySem.NumText
noncomputable def hsh : Nat → List Nat
  | 0 => []
  | n + 1 => 35 :: 32 :: hsh n
theorem mul_hsh : ∀ c < 10, Txt.mul (Str.ofString "# ") (Int.ofNat c) = tx (hsh c) := by decide +kernel
theorem mul_hsh' {c : Int} (h0 : 0 ≤ c) (h1 : c ≤ 8) : Txt.mul (Str.ofString "# ") c = tx (hsh c.toNat) := by
  have := mul_hsh c.toNat (by omega)
  rwa [show Int.ofNat c.toNat = c from Int.toNat_of_nonneg h0] at this
theorem path_cases (x : Int) : ∃ p, pathS x = tx p ∧ (p = [] ∨ p = [46] ∨ p = [32, 46] ∨ p = [112, 46, 113, 46]) := by
  unfold pathS
  generalize ((x.fdiv 729).fmod 4).toNat = k
  match k with
  | 0 => exact ⟨[], by decide +kernel, .inl rfl⟩
  | 1 => exact ⟨[46], by decide +kernel, .inr (.inl rfl)⟩
  | 2 => exact ⟨[32, 46], by decide +kernel, .inr (.inr (.inl rfl))⟩
  | 3 => exact ⟨[112, 46, 113, 46], by decide +kernel, .inr (.inr (.inr rfl))⟩
  | k + 4 => exact ⟨[], rfl, .inl rfl⟩
theorem gap_cases (x : Int) : ∃ g, gapS x = tx g ∧ (g = [] ∨ g = [32] ∨ g = [32, 32]) := by
  unfold gapS
  have h0 := Int.fmod_nonneg_of_pos ((x.fdiv 729).fdiv 4) (b := 3) (by omega)
  have h1 := Int.fmod_lt_of_pos ((x.fdiv 729).fdiv 4) (b := 3) (by omega)
  generalize ((x.fdiv 729).fdiv 4).fmod 3 = k at h0 h1
  have : k = 0 ∨ k = 1 ∨ k = 2 := by omega
  rcases this with rfl | rfl | rfl
  · exact ⟨[], by decide +kernel, .inl rfl⟩
  · exact ⟨[32], by decide +kernel, .inr (.inl rfl)⟩
  · exact ⟨[32, 32], by decide +kernel, .inr (.inr rfl)⟩
theorem mark_cases (x : Int) (h : ((x.fdiv 729).fdiv 12).fmod 4 = ((x.fdiv 729).fdiv 12).fmod 4) : ∃ q R, markS x = tx (q :: R) ∧ ((q = 58 ∧ R = []) ∨ (q = 10 ∧ R = []) ∨ (q = 10 ∧ R = [58]) ∨ (q = 58 ∧ R = [10])) := by
  unfold markS
  have h0 := Int.fmod_nonneg_of_pos ((x.fdiv 729).fdiv 12) (b := 4) (by omega)
  have h1 := Int.fmod_lt_of_pos ((x.fdiv 729).fdiv 12) (b := 4) (by omega)
  generalize ((x.fdiv 729).fdiv 12).fmod 4 = k at h0 h1
  have : k = 0 ∨ k = 1 ∨ k = 2 ∨ k = 3 := by omega
  rcases this with rfl | rfl | rfl | rfl
  · exact ⟨58, [], by decide +kernel, .inl ⟨rfl, rfl⟩⟩
  · exact ⟨10, [], by decide +kernel, .inr (.inl ⟨rfl, rfl⟩)⟩
  · exact ⟨10, [58], by decide +kernel, .inr (.inr (.inl ⟨rfl, rfl⟩))⟩
  · exact ⟨58, [10], by decide +kernel, .inr (.inr (.inr ⟨rfl, rfl⟩))⟩
theorem end_cases (x : Int) : ∃ e, endS x = tx e ∧ (e = [] ∨ e = [32] ∨ e = [10, 9, 32] ∨ e = [32, 160, 28]) := by
  unfold endS
  generalize (((x.fdiv 729).fdiv 48).fmod 4).toNat = k
  match k with
  | 0 => exact ⟨[], by decide +kernel, .inl rfl⟩
  | 1 => exact ⟨[32], by decide +kernel, .inr (.inl rfl)⟩
  | 2 => exact ⟨[10, 9, 32], by decide +kernel, .inr (.inr (.inl rfl))⟩
  | 3 => exact ⟨[32, 160, 28], by decide +kernel, .inr (.inr (.inr rfl))⟩
  | k + 4 => exact ⟨[], rfl, .inl rfl⟩
theorem num_d1 : ∀ k < 10, digitsVal [48 + k] = k ∧ (∀ c ∈ [48 + k], 48 ≤ c ∧ c ≤ 57) := by decide +kernel
theorem num_d2 : ∀ k < 100, (10 ≤ k → 49 ≤ 48 + k / 10) ∧ digitsVal [48 + k / 10, 48 + k % 10] = k ∧ (∀ c ∈ [48 + k / 10, 48 + k % 10], 48 ≤ c ∧ c ≤ 57) := by decide +kernel
theorem num_d3 : ∀ k < 1000, (100 ≤ k → 49 ≤ 48 + k / 100) ∧ digitsVal [48 + k / 100, 48 + k / 10 % 10, 48 + k % 10] = k ∧ (∀ c ∈ [48 + k / 100, 48 + k / 10 % 10, 48 + k % 10], 48 ≤ c ∧ c ≤ 57) := by decide +kernel
theorem num_repr {k n : Nat} {cs : List Nat} (e : digitsVal cs = k) (hl : cs.length = n + 1) (h : AllDigits cs) (hh : n = 0 ∨ ∃ c r, cs = c :: r ∧ 49 ≤ c) (hn : n ≤ 2) : ∃ ds, Str.ofString (toString (k : Int)) = tx ds ∧ AllDigits ds ∧ ds ≠ [] ∧ ds.length ≤ 3 := by
  subst e
  exact ⟨cs, repr_tx hl h hh, h, fun q => by rw [q] at hl; exact absurd hl (by simp), by rw [hl]; exact Nat.succ_le_succ hn⟩
theorem num_tx {n : Int} (h0 : 0 ≤ n) (h1 : n < 1000) : ∃ ds, Str.ofString (toString n) = tx ds ∧ AllDigits ds ∧ ds ≠ [] ∧ ds.length ≤ 3 := by
  obtain ⟨k, rfl⟩ : ∃ k : Nat, n = (k : Int) := ⟨n.toNat, (Int.toNat_of_nonneg h0).symm⟩
  have hk : k < 1000 := Int.ofNat_lt.mp h1
  rcases Nat.lt_or_ge k 10 with a | a
  · exact num_repr (n := 0) (num_d1 k a).1 rfl (num_d1 k a).2 (.inl rfl) (by decide)
  rcases Nat.lt_or_ge k 100 with b | b
  · exact num_repr (n := 1) (num_d2 k b).2.1 rfl (num_d2 k b).2.2 (.inr ⟨_, _, rfl, (num_d2 k b).1 a⟩) (by decide)
  · exact num_repr (n := 2) (num_d3 k hk).2.1 rfl (num_d3 k hk).2.2 (.inr ⟨_, _, rfl, (num_d3 k hk).1 b⟩) (by decide)
/-- the pieces of a coloured line -/
structure Pieces (x : Int) (p D g : List Nat) (q : Nat) (R S : List Nat) (v : Nat) (e : List Nat) : Prop where
  path : pathS x = tx p
  hp : p = [] ∨ p = [46] ∨ p = [32, 46] ∨ p = [112, 46, 113, 46]
  hue : hueS x = tx D
  hD : AllDigits D
  lD : D.length = 4
  vD : digitsVal D = (hueN x).toNat
  gap : gapS x = tx g
  hg : g = [] ∨ g = [32] ∨ g = [32, 32]
  mark : markS x = tx (q :: R)
  hq : (q = 58 ∧ R = []) ∨ (q = 10 ∧ R = []) ∨ (q = 10 ∧ R = [58]) ∨ (q = 58 ∧ R = [10])
  share : Str.ofString (toString (shareI x)) = tx S
  hS : AllDigits S
  nS : S ≠ []
  lS : S.length ≤ 3
  value : Str.ofString (toString (hiI x)) = tx [48 + v]
  hv : (v : Int) = hiI x
  tail : endS x = tx e
  he : e = [] ∨ e = [32] ∨ e = [10, 9, 32] ∨ e = [32, 160, 28]
theorem hueN_in (x : Int) : 0 ≤ hueN x ∧ hueN x < 5040 := ⟨(hue_ok (rd_8 x) (gn_8 x) (bl_8 x)).lo, (hue_ok (rd_8 x) (gn_8 x) (bl_8 x)).hi⟩
theorem pieces (x : Int) : ∃ p D g q R S v e, Pieces x p D g q R S v e := by
  obtain ⟨p, h1, h2⟩ := path_cases x
  obtain ⟨g, h3, h4⟩ := gap_cases x
  obtain ⟨q, R, h5, h6⟩ := mark_cases x rfl
  obtain ⟨e, h7, h8⟩ := end_cases x
  have hs := share_in x
  have hv := hi_in x
  have hn := hueN_in x
  obtain ⟨S, a1, a2, a3, a4⟩ := num_tx (n := shareI x) hs.1 (by omega)
  refine ⟨p, dig4 (hueN x).toNat, g, q, R, S, (hiI x).toNat, e, ⟨h1, h2, figS_tx hn.1 (by omega), dig4_all _, rfl, dig4_val (by omega), h3, h4, h5, h6, a1, a2, a3, a4, ?_, by omega, h7, h8⟩⟩
  have e : digitsVal [48 + (hiI x).toNat] = (hiI x).toNat := by simp only [digitsVal, List.foldl_cons, List.foldl_nil]; omega
  have e2 : hiI x = ((digitsVal [48 + (hiI x).toNat] : Nat) : Int) := by rw [e]; omega
  conv => lhs; rw [e2]
  exact repr_tx (n := 0) rfl (fun c hc => by rw [List.mem_singleton.mp hc]; omega) (.inl rfl)
/-- the line of a colour without its tail -/
noncomputable abbrev body (p D g : List Nat) (q : Nat) (R S : List Nat) (v : Nat) : List Nat := p ++ D ++ g ++ q :: (R ++ (S ++ [46, 48 + v]))
theorem write_tx {x : Int} {p D g q R S v e} (h : Pieces x p D g q R S v e) (hne : hiI x ≠ 0) : writeS x (hueS x) (shareI x) (hiI x) = tx (body p D g q R S v ++ e) := by
  unfold writeS
  rw [if_neg hne, h.path, h.hue, h.gap, h.mark, h.share, h.value, h.tail, dot_tx]
  simp only [tx_app]
  congr 1
  simp only [body, List.append_assoc, List.cons_append, List.nil_append]
theorem line_tx {x c : Int} {p D g q R S v e} (h : Pieces x p D g q R S v e) (hne : hiI x ≠ 0) (h0 : 0 ≤ c) (h1 : c ≤ 8) :
    dueLineS x (hueS x) c = tx (hsh c.toNat ++ (body p D g q R S v ++ (if c = 0 then e else []))) := by
  have hw := write_tx h hne
  unfold dueLineS
  by_cases hc : c = 0
  · subst hc; rw [if_pos rfl, if_pos rfl, hw]; rfl
  · have hlen : (body p D g q R S v ++ e).length ≥ 6 := by
      simp only [body, List.length_append, List.length_cons, List.length_nil]
      have := h.lD
      omega
    have hcol : ¬ (tx (body p D g q R S v ++ e) == Str.ofString ":") = true := by
      intro hq
      have := congrArg Str.length (eq_of_beq hq)
      rw [tx_len, colon_tx, tx_len] at this
      simp at this
      simp at hlen
      omega
    rw [if_neg hc, if_neg hc, hw, if_neg hcol, if_neg hne, mul_hsh' h0 h1, h.tail, tx_len, tx_len]
    have e1 : (((body p D g q R S v ++ e).length : Int) - (e.length : Int)) = ((body p D g q R S v).length : Int) := by rw [List.length_append]; omega
    have e2 : Txt.slice (tx (body p D g q R S v ++ e)) none (some ((body p D g q R S v).length : Int)) = tx (body p D g q R S v) := by
      have := sliceText_to (x := tx (body p D g q R S v ++ e)) (j := ((body p D g q R S v).length : Int)) ⟨by omega, by rw [tx_cps]; have := List.length_append (as := body p D g q R S v) (bs := e); omega⟩
      show sliceText _ none _ = _
      rw [this, tx_cps]
      show tx _ = tx _
      congr 1
      rw [List.drop_zero, Int.sub_zero, Int.toNat_natCast, List.take_left]
    rw [e1, e2, tx_app, List.append_nil]
end
section
open PySem.StrLaws PySem.NumText
noncomputable def blkS (e : Str) (c : Int) : Str :=
  if c = 0 then (if (e != Str.ofString "") = true then e else Str.ofString ":")
  else if ((if (e != Str.ofString "") = true then e else Str.ofString ":") == Str.ofString ":") = true then Txt.mul (Str.ofString "# ") c ++ Str.ofString ":"
  else Txt.mul (Str.ofString "# ") (c - 1) ++ Str.ofString "#"
theorem line_blk {x c : Int} {hue : Str} (h : hiI x = 0) : dueLineS x hue c = blkS (endS x) c := by
  unfold dueLineS writeS blkS
  rw [if_pos h]
  by_cases hc : c = 0
  · rw [if_pos hc, if_pos hc]
  · rw [if_neg hc, if_neg hc]
    simp only [h, if_true]
noncomputable def ends : List (List Nat) := [[], [32], [10, 9, 32], [32, 160, 28]]
theorem blk_strip : ∀ e ∈ ends, ∀ c < 9, stripS (blkS (tx e) (Int.ofNat c)) = firstS (firstS (blkS (tx e) (Int.ofNat c)) (Str.ofString "\n")) (Str.ofString ":") := by decide +kernel
theorem blk_comment : ∀ e ∈ ends, ∀ c < 8, commentS (blkS (tx e) (Int.ofNat c)) = blkS (tx e) (Int.ofNat (c + 1)) := by decide +kernel
theorem blk_read : ∀ e ∈ ends, ∀ c < 9, (nameR (blkS (tx e) (Int.ofNat c)) == Str.ofString "") = true ∧ (Txt.replace (stripS (blkS (tx e) (Int.ofNat c))) (Str.ofString "#") (Str.ofString " ")).length ≤ 100 := by decide +kernel
theorem hsh_mem {c : Nat} {k : Nat} (h : k ∈ hsh c) : k = 35 ∨ k = 32 := by
  induction c with
  | zero => simp [hsh] at h
  | succ n ih =>
    simp only [hsh, List.mem_cons] at h
    rcases h with h | h | h
    · exact .inl h
    · exact .inr h
    · exact ih h
theorem gap_mem {g : List Nat} (h : g = [] ∨ g = [32] ∨ g = [32, 32]) {k : Nat} (hk : k ∈ g) : k = 32 := by
  rcases h with rfl | rfl | rfl <;> simp at hk <;> exact hk
theorem path_mem0 : ∀ p ∈ [([] : List Nat), [46], [32, 46], [112, 46, 113, 46]], ∀ k ∈ p, k = 46 ∨ k = 32 ∨ k = 112 ∨ k = 113 := by decide
theorem path_mem {p : List Nat} (h : p = [] ∨ p = [46] ∨ p = [32, 46] ∨ p = [112, 46, 113, 46]) {k : Nat} (hk : k ∈ p) : k = 46 ∨ k = 32 ∨ k = 112 ∨ k = 113 := path_mem0 p (by simpa using h) k hk
theorem path_end {p : List Nat} (h : p = [] ∨ p = [46] ∨ p = [32, 46] ∨ p = [112, 46, 113, 46]) (hne : p ≠ []) (H : List Nat) : ∃ P', H ++ p = P' ++ [46] := by
  rcases h with rfl | rfl | rfl | rfl
  · exact absurd rfl hne
  · exact ⟨H, rfl⟩
  · exact ⟨H ++ [32], by simp⟩
  · exact ⟨H ++ [112, 46, 113], by simp⟩
theorem path_empty {x : Int} {p : List Nat} (h : pathS x = tx p) : (pathS x == Str.ofString "") = decide (p = []) := by
  rw [h, show Str.ofString "" = tx [] from by decide +kernel]
  by_cases e : p = []
  · subst e; rfl
  · rw [decide_eq_false e]
    refine beq_eq_false_iff_ne.mpr fun q => e ?_
    have := congrArg (fun s : Str => s.cps.toList) q
    exact this
/-- the name of a coloured line -/
noncomputable def nameL (p D g : List Nat) (c : Nat) : List Nat := (if p = [] then hsh c else []) ++ (D ++ g)
noncomputable def preL (p : List Nat) (c : Nat) : List Nat := if p = [] then [] else hsh c ++ p
theorem body_split (p D g : List Nat) (q : Nat) (R S : List Nat) (v c : Nat) (t : List Nat) : hsh c ++ (body p D g q R S v ++ t) = preL p c ++ nameL p D g c ++ q :: (R ++ (S ++ [46, 48 + v]) ++ t) := by
  unfold preL nameL body
  by_cases e : p = []
  · subst e; simp
  · rw [if_neg e, if_neg e]; simp
theorem name_mem {p D g : List Nat} {c : Nat} (hD : AllDigits D) (hg : g = [] ∨ g = [32] ∨ g = [32, 32]) {k : Nat} (hk : k ∈ nameL p D g c) : k = 35 ∨ k = 32 ∨ (48 ≤ k ∧ k ≤ 57) := by
  unfold nameL at hk
  rcases List.mem_append.mp hk with h | h
  · split at h
    · rcases hsh_mem h with h | h <;> omega
    · simp at h
  · rcases List.mem_append.mp h with h | h
    · exact .inr (.inr (hD k h))
    · exact .inr (.inl (gap_mem hg h))
theorem pre_mem {p : List Nat} {c : Nat} (hp : p = [] ∨ p = [46] ∨ p = [32, 46] ∨ p = [112, 46, 113, 46]) {k : Nat} (hk : k ∈ preL p c) : k = 35 ∨ k = 32 ∨ k = 46 ∨ k = 112 ∨ k = 113 := by
  unfold preL at hk
  split at hk
  · simp at hk
  · rcases List.mem_append.mp hk with h | h
    · rcases hsh_mem h with h | h <;> omega
    · rcases path_mem hp h with h | h | h | h <;> omega
theorem strip_col {x c : Int} {p D g q R S v e} (h : Pieces x p D g q R S v e) (hne : hiI x ≠ 0) (h0 : 0 ≤ c) (h1 : c ≤ 8) : stripS (dueLineS x (hueS x) c) = tx (nameL p D g c.toNat) := by
  rw [line_tx h hne h0 h1, body_split]
  have hA : ∀ k ∈ preL p c.toNat ++ nameL p D g c.toNat, k ≠ 10 ∧ k ≠ 58 := fun k hk => by
    rcases List.mem_append.mp hk with hk | hk
    · have := pre_mem h.hp hk; omega
    · have := name_mem h.hD h.hg hk; omega
  refine stripS_of (fun hk => by have := name_mem h.hD h.hg hk; omega) ?_ (stripC_at hA (by have := h.hq; omega))
  unfold preL
  by_cases e1 : p = []
  · exact .inl (if_pos e1)
  · rw [if_neg e1]; exact .inr (path_end h.hp e1 _)
theorem name_tx {x c : Int} {p D g q R S v e} (h : Pieces x p D g q R S v e) (hne : hiI x ≠ 0) (h0 : 0 ≤ c) (h1 : c ≤ 8) : dueNameS x (hueS x) c = tx (nameL p D g c.toNat) := by
  unfold dueNameS nameL
  rw [if_neg hne, path_empty h.path, h.hue, h.gap, mul_hsh' h0 h1]
  by_cases e1 : p = []
  · rw [decide_eq_true e1, if_pos rfl, if_pos e1, tx_app, tx_app, List.append_assoc]
  · rw [decide_eq_false e1, if_neg Bool.false_ne_true, if_neg e1, show Str.ofString "" = tx [] from by decide +kernel, tx_app, tx_app]; rfl
theorem ends_mem {x : Int} {e : List Nat} (h : e = [] ∨ e = [32] ∨ e = [10, 9, 32] ∨ e = [32, 160, 28]) : e ∈ ends := by
  unfold ends
  rcases h with rfl | rfl | rfl | rfl <;> simp
/-- the first plain law: the bare name of a line -/
theorem strip_line (x c : Int) (h0 : 0 ≤ c) (h1 : c ≤ 8) : stripS (dueLineS x (hueS x) c) = dueNameS x (hueS x) c := by
  by_cases hz : hiI x = 0
  · obtain ⟨e, he, hm⟩ := end_cases x
    have key := blk_strip e (ends_mem (x := x) hm) c.toNat (by omega)
    rw [show Int.ofNat c.toNat = c from Int.toNat_of_nonneg h0] at key
    unfold dueNameS
    rw [if_pos hz, line_blk hz, he]
    exact key
  · obtain ⟨p, D, g, q, R, S, v, e, h⟩ := pieces x
    rw [strip_col h hz h0 h1, name_tx h hz h0 h1]
end
section
open PySem.StrLaws PySem.NumText PySem.Builtin PySem.Builtin.Str
noncomputable def AllSp (l : List Nat) : Prop := ∀ k ∈ l, Unicode.isSpace k = true
theorem getD_tx (l : List Nat) (k : Nat) : (tx l).cps.getD k 0 = l.getD k 0 := by
  show l.toArray.getD k 0 = _
  simp [Array.getD_eq_getD_getElem?, List.getD_eq_getElem?_getD]
theorem getD_mid {A B C : List Nat} {k : Nat} (h1 : A.length ≤ k) (h2 : k < A.length + B.length) : ∃ b ∈ B, (A ++ B ++ C).getD k 0 = b := by
  rw [List.getD_eq_getElem?_getD, List.append_assoc, List.getElem?_append_right h1, List.getElem?_append_left (by omega), List.getElem?_eq_getElem (by omega)]
  exact ⟨_, List.getElem_mem _, rfl⟩
theorem strSub_tx (l : List Nat) (i j : Nat) : strSub (tx l) i j = tx ((l.drop i).take (j - i)) := by
  have := strSub_toList (tx l) i j
  refine Str.ext' (Array.toList_inj.mp ?_)
  rw [this]
/-- white ends go, the middle stays -/
theorem strip_tx {A B C : List Nat} (l : Bool) (hA : AllSp A) (hl : l = false → A = []) (hC : AllSp C) {b0 b1 : Nat} {B0 B1 : List Nat} (h0 : B = b0 :: B0) (n0 : Unicode.isSpace b0 = false) (h1 : B = B1 ++ [b1]) (n1 : Unicode.isSpace b1 = false) :
    Txt.stripBy Unicode.isSpace l true (tx (A ++ B ++ C)) = tx B := by
  have len : (tx (A ++ B ++ C)).length = A.length + B.length + C.length := by rw [tx_len, List.length_append, List.length_append]
  have lB : 1 ≤ B.length := by rw [h0, List.length_cons]; omega
  have lB1 : B1.length + 1 = B.length := by rw [h1, List.length_append]; rfl
  have at0 : (A ++ B ++ C).getD A.length 0 = b0 := by
    rw [List.getD_eq_getElem?_getD, List.append_assoc, List.getElem?_append_right (Nat.le_refl _), Nat.sub_self, h0]; rfl
  have at1 : (A ++ B ++ C).getD (A.length + B1.length) 0 = b1 := by
    rw [List.getD_eq_getElem?_getD, List.append_assoc, List.getElem?_append_right (Nat.le_add_right _ _), Nat.add_sub_cancel_left, h1, List.append_assoc, List.getElem?_append_right (Nat.le_refl _), Nat.sub_self]; rfl
  have inA : ∀ k, k < A.length → Unicode.isSpace ((A ++ B ++ C).getD k 0) = true := fun k hk => by
    rw [List.getD_eq_getElem?_getD, List.append_assoc, List.getElem?_append_left hk, List.getElem?_eq_getElem hk]
    exact hA _ (List.getElem_mem _)
  have inC : ∀ k, A.length + B.length ≤ k → k < A.length + B.length + C.length → Unicode.isSpace ((A ++ B ++ C).getD k 0) = true := fun k h1 h2 => by
    have hab : (A ++ B).length = A.length + B.length := List.length_append
    rw [List.getD_eq_getElem?_getD, List.getElem?_append_right (by omega), hab, List.getElem?_eq_getElem (by omega)]
    exact hC _ (List.getElem_mem _)
  have lo : stripLo Unicode.isSpace l (tx (A ++ B ++ C)) = A.length := by
    cases l with
    | false => rw [hl rfl]; rfl
    | true =>
      obtain ⟨f1, f2, f3⟩ := lo_facts Unicode.isSpace (tx (A ++ B ++ C))
      rcases Nat.lt_trichotomy (stripLo Unicode.isSpace true (tx (A ++ B ++ C))) A.length with c | c | c
      · exfalso
        rcases f3 with f3 | f3
        · omega
        · rw [getD_tx, inA _ c] at f3; cases f3
      · exact c
      · exfalso
        have := f2 A.length c
        rw [getD_tx, at0, n0] at this; cases this
  have hi : stripHi Unicode.isSpace true (tx (A ++ B ++ C)) A.length = A.length + B.length := by
    obtain ⟨f1, f2, f3, f4⟩ := hi_facts Unicode.isSpace (tx (A ++ B ++ C)) A.length (by omega)
    rcases Nat.lt_trichotomy (stripHi Unicode.isSpace true (tx (A ++ B ++ C)) A.length) (A.length + B.length) with c | c | c
    · exfalso
      have := f3 (A.length + B1.length) (by omega) (by omega)
      rw [getD_tx, at1, n1] at this; cases this
    · exact c
    · exfalso
      rcases f4 with f4 | f4
      · omega
      · rw [getD_tx, inC _ (by omega) (by omega)] at f4; cases f4
  unfold Txt.stripBy stripSame PySem.stripped
  rw [lo, hi]
  split
  · rename_i h
    rw [Bool.and_eq_true, beq_iff_eq, beq_iff_eq, len] at h
    have e1 : A = [] := List.eq_nil_of_length_eq_zero h.1
    have e2 : C = [] := List.eq_nil_of_length_eq_zero (by omega)
    rw [e1, e2, List.nil_append, List.append_nil]
  · rw [strSub_tx, Nat.add_sub_cancel_left, List.append_assoc, List.drop_left, List.take_left]
theorem sp_digit {k : Nat} (h : 48 ≤ k ∧ k ≤ 57) : Unicode.isSpace k = false := by
  have : ∀ k < 58, 48 ≤ k → Unicode.isSpace k = false := by decide +kernel
  exact this k (by omega) h.1
theorem sp_end {e : List Nat} (h : e = [] ∨ e = [32] ∨ e = [10, 9, 32] ∨ e = [32, 160, 28]) : AllSp e := by
  unfold AllSp
  rcases h with rfl | rfl | rfl | rfl <;> decide +kernel
theorem hash_tx : Str.ofString "# " = tx [35, 32] := by decide +kernel
theorem rstrip_tx {B E : List Nat} (hE : AllSp E) {b1 : Nat} {B1 : List Nat} (h1 : B = B1 ++ [b1]) (n1 : Unicode.isSpace b1 = false) : Txt.rstrip (tx (B ++ E)) = tx B := by
  have len : (tx (B ++ E)).length = B.length + E.length := by rw [tx_len, List.length_append]
  have lB : B1.length + 1 = B.length := by rw [h1, List.length_append]; rfl
  have at1 : (B ++ E).getD B1.length 0 = b1 := by
    rw [List.getD_eq_getElem?_getD, h1, List.append_assoc, List.getElem?_append_right (Nat.le_refl _), Nat.sub_self]; rfl
  have inE : ∀ k, B.length ≤ k → k < B.length + E.length → Unicode.isSpace ((B ++ E).getD k 0) = true := fun k h1 h2 => by
    rw [List.getD_eq_getElem?_getD, List.getElem?_append_right h1, List.getElem?_eq_getElem (by omega)]
    exact hE _ (List.getElem_mem _)
  have hi : stripHi Unicode.isSpace true (tx (B ++ E)) 0 = B.length := by
    obtain ⟨f1, f2, f3, f4⟩ := hi_facts Unicode.isSpace (tx (B ++ E)) 0 (Nat.zero_le _)
    rcases Nat.lt_trichotomy (stripHi Unicode.isSpace true (tx (B ++ E)) 0) B.length with c | c | c
    · exfalso
      have := f3 B1.length (by omega) (by omega)
      rw [getD_tx, at1, n1] at this; cases this
    · exact c
    · exfalso
      rcases f4 with f4 | f4
      · omega
      · rw [getD_tx, inE _ (by omega) (by omega)] at f4; cases f4
  have lo : stripLo Unicode.isSpace false (tx (B ++ E)) = 0 := rfl
  unfold Txt.rstrip Txt.stripBy stripSame PySem.stripped
  rw [lo, hi]
  split
  · rename_i h
    rw [Bool.and_eq_true, beq_iff_eq, beq_iff_eq, len] at h
    have e2 : E = [] := List.eq_nil_of_length_eq_zero (by omega)
    rw [e2, List.append_nil]
  · rw [strSub_tx, List.drop_zero, Nat.sub_zero, List.take_left]
theorem rstrip_body {c : Nat} {p D g : List Nat} {q : Nat} {R S : List Nat} {v : Nat} {t : List Nat} (ht : AllSp t) (hv : v ≤ 9) : Txt.rstrip (tx (hsh c ++ (body p D g q R S v ++ t))) = tx (hsh c ++ body p D g q R S v) := by
  rw [← List.append_assoc]
  exact rstrip_tx ht (B1 := hsh c ++ (p ++ D ++ g ++ q :: (R ++ (S ++ [46])))) (b1 := 48 + v) (by simp [body]) (sp_digit (by omega))
/-- the second plain law: a remark of a line is the line with one more mark -/
theorem comment_line (x c : Int) (h0 : 0 ≤ c) (h1 : c ≤ 7) : commentS (dueLineS x (hueS x) c) = dueLineS x (hueS x) (c + 1) := by
  by_cases hz : hiI x = 0
  · obtain ⟨e, he, hm⟩ := end_cases x
    have key := blk_comment e (ends_mem (x := x) hm) c.toNat (by omega)
    rw [show Int.ofNat c.toNat = c from Int.toNat_of_nonneg h0, show Int.ofNat (c.toNat + 1) = c + 1 by (show ((c.toNat + 1 : Nat) : Int) = c + 1; omega)] at key
    rw [line_blk hz, line_blk hz, he]
    exact key
  · obtain ⟨p, D, g, q, R, S, v, e, h⟩ := pieces x
    rw [line_tx h hz h0 (by omega), line_tx h hz (by omega) (by omega)]
    have hv := hi_in x
    have hvv := h.hv
    have ht : AllSp (if c = 0 then e else []) := by
      split
      · exact sp_end h.he
      · exact fun _ hk => by simp at hk
    unfold commentS
    rw [rstrip_body ht (by omega), if_neg (by rw [tx_len]; simp [body]), hash_tx, tx_app, if_neg (by omega), List.append_nil]
    rw [show (c + 1).toNat = c.toNat + 1 by omega]
    rfl
end
section
open PySem.StrLaws PySem.NumText PySem.Builtin PySem.Builtin.Str
noncomputable def sub1 (c d : Nat) (l : List Nat) : List Nat := l.map fun k => if k = c then d else k
theorem sub1_app (c d : Nat) (a b : List Nat) : sub1 c d (a ++ b) = sub1 c d a ++ sub1 c d b := List.map_append
theorem sub1_free {c d : Nat} : ∀ {l : List Nat}, c ∉ l → sub1 c d l = l
  | [], _ => rfl
  | k :: l, h => by
    have hk : k ≠ c := fun e => h (by rw [e]; exact List.mem_cons_self)
    show (if k = c then d else k) :: sub1 c d l = _
    rw [if_neg hk, sub1_free fun hm => h (List.mem_cons_of_mem _ hm)]
theorem sub1_join (c d : Nat) : ∀ parts : List Str, (∀ p ∈ parts, c ∉ p.cps.toList) → sub1 c d (Str.join ⟨#[c]⟩ parts).cps.toList = (Str.join ⟨#[d]⟩ parts).cps.toList
  | [], _ => rfl
  | [p], h => sub1_free (h p (List.mem_singleton.mpr rfl))
  | p :: q :: r, h => by
    have ih := sub1_join c d (q :: r) fun a ha => h a (List.mem_cons_of_mem _ ha)
    show sub1 c d (p ++ ⟨#[c]⟩ ++ Str.join ⟨#[c]⟩ (q :: r)).cps.toList = (p ++ ⟨#[d]⟩ ++ Str.join ⟨#[d]⟩ (q :: r)).cps.toList
    simp only [Str.cps_append, Array.toList_append]
    rw [sub1_app, sub1_app, ih, sub1_free (h p List.mem_cons_self)]
    have e : sub1 c d [c] = [d] := by show [if c = c then d else c] = [d]; rw [if_pos rfl]
    show p.cps.toList ++ sub1 c d [c] ++ _ = p.cps.toList ++ [d] ++ _
    rw [e]
theorem replace_tx (c d : Nat) (l : List Nat) : Txt.replace (tx l) (tx [c]) (tx [d]) = tx (sub1 c d l) := by
  refine Str.ext' (Array.toList_inj.mp ?_)
  show (Txt.replace (tx l) ⟨#[c]⟩ ⟨#[d]⟩).cps.toList = sub1 c d l
  rw [replace_one, ← sub1_join c d _ (split_free (tx l) c), join_split]
theorem cut_one {c : Nat} : ∀ {A B A' B' : List Nat}, c ∉ A → c ∉ A' → A ++ c :: B = A' ++ c :: B' → A = A' ∧ B = B'
  | [], B, [], B', _, _, h => ⟨rfl, (List.cons.inj h).2⟩
  | [], B, k :: A', B', _, h', h => absurd (by rw [(List.cons.inj h).1]; exact List.mem_cons_self) h'
  | k :: A, B, [], B', h', _, h => absurd (by rw [← (List.cons.inj h).1]; exact List.mem_cons_self) h'
  | k :: A, B, k' :: A', B', h1, h2, h => by
    obtain ⟨e1, e2⟩ := List.cons.inj h
    obtain ⟨e3, e4⟩ := cut_one (fun hm => h1 (List.mem_cons_of_mem _ hm)) (fun hm => h2 (List.mem_cons_of_mem _ hm)) e2
    exact ⟨by rw [e1, e3], e4⟩
theorem split_two {c : Nat} {A B : List Nat} (hA : c ∉ A) (hB : c ∉ B) : Txt.split (tx (A ++ c :: B)) (tx [c]) = [tx A, tx B] := by
  have hf := split_free (tx (A ++ c :: B)) c
  have hj := join_split (tx (A ++ c :: B)) ⟨#[c]⟩
  show Txt.split (tx (A ++ c :: B)) ⟨#[c]⟩ = _
  generalize Txt.split (tx (A ++ c :: B)) ⟨#[c]⟩ = parts at hf hj
  have hl : (Str.join ⟨#[c]⟩ parts).cps.toList = A ++ c :: B := by rw [hj]
  have toS : ∀ {p : Str} {l : List Nat}, p.cps.toList = l → p = tx l := fun h => Str.ext' (Array.toList_inj.mp h)
  match parts, hf, hl with
  | [], _, hl => exact absurd (congrArg List.length hl) (by show ¬ (0 = _); simp)
  | [p], hf, hl => exact absurd (by have : c ∈ p.cps.toList := by (have e : p.cps.toList = A ++ c :: B := hl); rw [e]; simp
                                    exact this) (hf p (List.mem_singleton.mpr rfl))
  | [p, q], hf, hl =>
    have e : p.cps.toList ++ c :: q.cps.toList = A ++ c :: B := by
      have : (p ++ ⟨#[c]⟩ ++ q).cps.toList = A ++ c :: B := hl
      rw [← this]
      simp only [Str.cps_append, Array.toList_append]
      show _ = p.cps.toList ++ [c] ++ q.cps.toList
      simp
    obtain ⟨e1, e2⟩ := cut_one (hf p List.mem_cons_self) hA e
    rw [toS e1, toS e2]
  | p :: q :: r :: rs, hf, hl =>
    exfalso
    have e : p.cps.toList ++ c :: (Str.join ⟨#[c]⟩ (q :: r :: rs)).cps.toList = A ++ c :: B := by
      have : (p ++ ⟨#[c]⟩ ++ Str.join ⟨#[c]⟩ (q :: r :: rs)).cps.toList = A ++ c :: B := hl
      rw [← this]
      simp only [Str.cps_append, Array.toList_append]
      show _ = p.cps.toList ++ [c] ++ _
      simp
    obtain ⟨_, e2⟩ := cut_one (hf p List.mem_cons_self) hA e
    apply hB
    rw [← e2]
    show c ∈ (q ++ ⟨#[c]⟩ ++ Str.join ⟨#[c]⟩ (r :: rs)).cps.toList
    simp only [Str.cps_append, Array.toList_append]
    exact List.mem_append.mpr (.inl (List.mem_append.mpr (.inr List.mem_cons_self)))
theorem scan_sp : ∀ (l : List Nat) (ws : List Str) (r : Str), AllSp l → r.length = 0 → l.foldl KWd.step (ws, r) = (ws, r)
  | [], _, _, _, _ => rfl
  | k :: l, ws, r, h, hr => by
    rw [List.foldl_cons]
    have : KWd.step (ws, r) k = (ws, r) := by unfold KWd.step; rw [if_pos (h k List.mem_cons_self), if_pos hr]
    rw [this]
    exact scan_sp l ws r (fun j hj => h j (List.mem_cons_of_mem _ hj)) hr
theorem words_one {W M E : List Nat} (hW : AllSp W) (hM : M.all (fun c => !Unicode.isSpace c) = true) (hne : M ≠ []) (hE : AllSp E) : Txt.words (tx (W ++ (M ++ E))) = [tx M] := by
  have hlen : (Str.empty ++ (⟨M.toArray⟩ : Str)).length ≠ 0 := by
    rw [Str.length_append]
    have : (⟨M.toArray⟩ : Str).length = M.length := tx_len M
    have h2 : M.length ≠ 0 := fun e => hne (List.eq_nil_of_length_eq_zero e)
    omega
  have sc : KWd.scan (tx (W ++ (M ++ E))) = (([] : List Str), Str.empty ++ (⟨M.toArray⟩ : Str)) ∨ KWd.scan (tx (W ++ (M ++ E))) = ([Str.empty ++ (⟨M.toArray⟩ : Str)], Str.empty) := by
    show List.foldl KWd.step ([], Str.empty) (W ++ (M ++ E)) = _ ∨ List.foldl KWd.step ([], Str.empty) (W ++ (M ++ E)) = _
    rw [List.foldl_append, scan_sp W [] Str.empty hW rfl, List.foldl_append, KWk.fold_plain M Str.empty hM]
    match E, hE with
    | [], _ => exact .inl rfl
    | k :: E, hE =>
      refine .inr ?_
      rw [List.foldl_cons]
      have : KWd.step ([], Str.empty ++ (⟨M.toArray⟩ : Str)) k = ([Str.empty ++ (⟨M.toArray⟩ : Str)], Str.empty) := by unfold KWd.step; rw [if_pos (hE k List.mem_cons_self), if_neg hlen]; rfl
      rw [this]
      exact scan_sp E _ Str.empty (fun j hj => hE j (List.mem_cons_of_mem _ hj)) rfl
  rcases sc with sc | sc
  · rw [KWd.words_of sc, if_neg hlen, Str.empty_append]; rfl
  · rw [KWd.words_of sc, if_pos (show Str.empty.length = 0 from rfl), Str.empty_append]
end
section
open PySem.StrLaws PySem.NumText PySem.Builtin PySem.Builtin.Str
theorem hash1_tx : Str.ofString "#" = tx [35] := by decide +kernel
theorem blank_tx : Str.ofString " " = tx [32] := by decide +kernel
theorem sub1_digits {c d : Nat} (hc : c < 48 ∨ 57 < c) {l : List Nat} (h : AllDigits l) : sub1 c d l = l := sub1_free fun hm => by have := h c hm; omega
theorem sub1_hsh (c : Nat) : AllSp (sub1 35 32 (hsh c)) := by
  intro k hk
  obtain ⟨j, hj, rfl⟩ := List.mem_map.mp hk
  have : (if j = 35 then 32 else j) = 32 := by rcases hsh_mem hj with rfl | rfl <;> rfl
  rw [this]; decide +kernel
theorem gap_sp {g : List Nat} (h : g = [] ∨ g = [32] ∨ g = [32, 32]) : AllSp g := fun k hk => by rw [gap_mem h hk]; decide +kernel
theorem digits_ends {D : List Nat} (hD : AllDigits D) (hl : D.length = 4) : ∃ b0 B0 B1 b1, D = b0 :: B0 ∧ Unicode.isSpace b0 = false ∧ D = B1 ++ [b1] ∧ Unicode.isSpace b1 = false := by
  match D, hl with
  | [a, b, c, d], _ => exact ⟨a, [b, c, d], [a, b, c], d, rfl, sp_digit (hD a (by simp)), rfl, sp_digit (hD d (by simp))⟩
theorem nameR_tx {x c : Int} {p D g q R S v e} (h : Pieces x p D g q R S v e) (hne : hiI x ≠ 0) (h0 : 0 ≤ c) (h1 : c ≤ 8) :
    nameR (dueLineS x (hueS x) c) = tx D ∧ (Txt.replace (stripS (dueLineS x (hueS x) c)) (Str.ofString "#") (Str.ofString " ")).length = (nameL p D g c.toNat).length := by
  have hg35 : sub1 35 32 g = g := sub1_free fun hm => by have := gap_mem h.hg hm; omega
  have hr : Txt.replace (stripS (dueLineS x (hueS x) c)) (Str.ofString "#") (Str.ofString " ") = tx (sub1 35 32 (if p = [] then hsh c.toNat else []) ++ D ++ g) := by
    rw [strip_col h hne h0 h1, hash1_tx, blank_tx, replace_tx]
    unfold nameL
    rw [sub1_app, sub1_app, sub1_digits (by omega) h.hD, hg35, List.append_assoc]
  have hA : AllSp (sub1 35 32 (if p = [] then hsh c.toNat else [])) := by
    split
    · exact sub1_hsh _
    · exact fun k hk => by simp [sub1] at hk
  obtain ⟨b0, B0, B1, b1, e0, n0, e1, n1⟩ := digits_ends h.hD h.lD
  refine ⟨?_, ?_⟩
  · unfold nameR Txt.strip
    rw [hr]
    exact strip_tx true hA (fun e => by cases e) (gap_sp h.hg) e0 n0 e1 n1
  · rw [hr, tx_len]
    unfold nameL sub1
    simp only [List.length_append, List.length_map]
    omega
/-- the first place of four signs -/
theorem find_block {H D T : List Nat} (hD : D ≠ []) (hno : ∀ k ∈ H, k ∉ D) : Txt.find (tx (H ++ (D ++ T))) (tx D) = (H.length : Int) := by
  have lD : 1 ≤ D.length := by cases D with | nil => exact absurd rfl hD | cons a l => simp
  have atH : At (tx (H ++ (D ++ T))) (tx D) (tx (H ++ (D ++ T))).length H.length := by
    refine ⟨by rw [tx_len, tx_len]; simp only [List.length_append]; omega, ?_⟩
    rw [subAt_eq, tx_len]
    show (((H ++ (D ++ T)).drop H.length).take D.length == D) = true
    rw [List.drop_left, List.take_left]
    exact beq_self_eq_true D
  have before : ∀ i, i < H.length → ¬ At (tx (H ++ (D ++ T))) (tx D) (tx (H ++ (D ++ T))).length i := fun i hi ha => by
    have h2 := ha.2
    rw [subAt_eq, tx_len] at h2
    have h3 : ((H ++ (D ++ T)).drop i).take D.length = D := eq_of_beq h2
    have h4 : (((H ++ (D ++ T)).drop i).take D.length)[0]? = some H[i] := by
      rw [List.getElem?_take_of_lt (by omega), List.getElem?_drop, Nat.add_zero, List.getElem?_append_left hi, List.getElem?_eq_getElem hi]
    rw [h3] at h4
    exact hno _ (List.getElem_mem hi) (List.mem_of_getElem? h4)
  unfold Txt.find
  rcases occ_hi (tx (H ++ (D ++ T))) (tx D) 0 (tx (H ++ (D ++ T))).length with ⟨_, hn⟩ | ⟨i, r, e, _, hat, hn⟩
  · exact absurd atH (hn _ (Nat.zero_le _))
  · rw [e]
    rcases Nat.lt_trichotomy i H.length with k | k | k
    · exact absurd hat (before i k)
    · show (i : Int) = _; rw [k]
    · exact absurd atH (hn _ (Nat.zero_le _) k)
theorem rest_tx {x c : Int} {p D g q R S v e} (h : Pieces x p D g q R S v e) (hne : hiI x ≠ 0) (h0 : 0 ≤ c) (h1 : c ≤ 8) :
    Txt.find (dueLineS x (hueS x) c) (nameR (dueLineS x (hueS x) c)) = ((hsh c.toNat ++ p).length : Int) ∧ restR (dueLineS x (hueS x) c) = tx (g ++ q :: (R ++ (S ++ [46, 48 + v])) ++ (if c = 0 then e else [])) := by
  have hn := (nameR_tx h hne h0 h1).1
  have hl : dueLineS x (hueS x) c = tx ((hsh c.toNat ++ p) ++ (D ++ (g ++ q :: (R ++ (S ++ [46, 48 + v])) ++ (if c = 0 then e else [])))) := by
    rw [line_tx h hne h0 h1]
    congr 1
    simp [body]
  have hD0 : D ≠ [] := fun e => by have := h.lD; rw [e] at this; simp at this
  have hno : ∀ k ∈ hsh c.toNat ++ p, k ∉ D := fun k hk hd => by
    have := h.hD k hd
    rcases List.mem_append.mp hk with hk | hk
    · have := hsh_mem hk; omega
    · have := path_mem h.hp hk; omega
  have hfd : Txt.find (dueLineS x (hueS x) c) (nameR (dueLineS x (hueS x) c)) = ((hsh c.toNat ++ p).length : Int) := by
    rw [hn, hl]; exact find_block hD0 hno
  refine ⟨hfd, ?_⟩
  unfold restR
  rw [hfd, hn, tx_len, hl]
  have e1 : (((hsh c.toNat ++ p).length : Int) + (D.length : Int)) = (((hsh c.toNat ++ p) ++ D).length : Int) := by rw [List.length_append (as := hsh c.toNat ++ p)]; omega
  rw [e1, slice_from (by rw [tx_len, ← List.append_assoc (hsh c.toNat ++ p), List.length_append (as := hsh c.toNat ++ p ++ D)]; omega)]
  show tx _ = tx _
  congr 1
  rw [tx_cps, ← List.append_assoc (hsh c.toNat ++ p), List.drop_left]
end
section
open PySem.StrLaws PySem.NumText PySem.Builtin PySem.Builtin.Str
structure BackOk (i j k n s v : Int) : Prop where
  f1 : Float64.isFinite (hx6 (hR n)) = true
  f2 : 0 ≤ zOf (hR n)
  f3 : zOf (hR n) < 1000
  r1 : rnd (rgbG (hR n) (fr s 840) (fr v 8)).1 8 = i
  r2 : fin (rgbG (hR n) (fr s 840) (fr v 8)).1 8 = true
  r3 : rnd (rgbG (hR n) (fr s 840) (fr v 8)).2.1 8 = j
  r4 : fin (rgbG (hR n) (fr s 840) (fr v 8)).2.1 8 = true
  r5 : rnd (rgbG (hR n) (fr s 840) (fr v 8)).2.2 8 = k
  r6 : fin (rgbG (hR n) (fr s 840) (fr v 8)).2.2 8 = true
theorem pFF_eq (s v : UInt64) (i : Int) : pFF s v i = good (pF s v) 8 i := by unfold pFF pF; rw [force_eq, force_eq]
theorem okQ_out {i j k n s v : Int} (h : okQ i j k n s v = true) : BackOk i j k n s v := by
  unfold okQ at h
  simp only [force_eq, forceI_eq, Bool.and_eq_true, decide_eq_true_eq, pFF_eq] at h
  obtain ⟨⟨⟨a, b⟩, c⟩, d⟩ := h
  have key : good (rgbG (hR n) (fr s 840) (fr v 8)).1 8 i = true ∧ good (rgbG (hR n) (fr s 840) (fr v 8)).2.1 8 j = true ∧ good (rgbG (hR n) (fr s 840) (fr v 8)).2.2 8 k = true := by
    unfold rgbG
    have hz : PySem.Flt.toInt Float64.truncOf (Float64.mul (Float64.add (fr n 5040) (Float64.ofInt 1)) 4618441417868443648) = zOf (hR n) := rfl
    rw [hz] at d
    by_cases e : (Float64.cmp (fr s 840) 0 == some Ordering.eq) = true
    · rw [if_pos e] at d ⊢
      simp only [Bool.and_eq_true] at d
      exact ⟨d.1.1, d.1.2, d.2⟩
    · rw [if_neg e] at d ⊢
      by_cases e0 : (zOf (hR n)).fmod 6 = 0
      · rw [if_pos e0] at d ⊢
        simp only [Bool.and_eq_true] at d
        exact ⟨d.1.1, d.1.2, d.2⟩
      rw [if_neg e0] at d ⊢
      by_cases e1 : (zOf (hR n)).fmod 6 = 1
      · rw [if_pos e1] at d ⊢
        simp only [Bool.and_eq_true] at d
        exact ⟨d.1.1, d.1.2, d.2⟩
      rw [if_neg e1] at d ⊢
      by_cases e2 : (zOf (hR n)).fmod 6 = 2
      · rw [if_pos e2] at d ⊢
        simp only [Bool.and_eq_true] at d
        exact ⟨d.1.1, d.1.2, d.2⟩
      rw [if_neg e2] at d ⊢
      by_cases e3 : (zOf (hR n)).fmod 6 = 3
      · rw [if_pos e3] at d ⊢
        simp only [Bool.and_eq_true] at d
        exact ⟨d.1.1, d.1.2, d.2⟩
      rw [if_neg e3] at d ⊢
      by_cases e4 : (zOf (hR n)).fmod 6 = 4
      · rw [if_pos e4] at d ⊢
        simp only [Bool.and_eq_true] at d
        exact ⟨d.1.1, d.1.2, d.2⟩
      rw [if_neg e4] at d ⊢
      simp only [Bool.and_eq_true] at d
      exact ⟨d.1.1, d.1.2, d.2⟩
  obtain ⟨k1, k2, k3⟩ := key
  exact ⟨a, b, c, (good_out k1).1, (good_out k1).2, (good_out k2).1, (good_out k2).2, (good_out k3).1, (good_out k3).2⟩
theorem okR_all : ∀ i < 9, ∀ j < 9, ∀ k < 9, okR (Int.ofNat i) (Int.ofNat j) (Int.ofNat k) = true := by
  intro i hi j hj k hk
  match i, hi with
  | 0, _ => exact okR_0 j hj k hk
  | 1, _ => exact okR_1 j hj k hk
  | 2, _ => exact okR_2 j hj k hk
  | 3, _ => exact okR_3 j hj k hk
  | 4, _ => exact okR_4 j hj k hk
  | 5, _ => exact okR_5 j hj k hk
  | 6, _ => exact okR_6 j hj k hk
  | 7, _ => exact okR_7 j hj k hk
  | 8, _ => exact okR_8 j hj k hk
  | i + 9, h => omega
theorem back_ok (x : Int) : BackOk (rd x) (gn x) (bl x) (hueN x) (shareI x) (hiI x) := by
  have a := rd_in x; have b := gn_in x; have c := bl_in x
  have h := okR_all (rd x).toNat (by omega) (gn x).toNat (by omega) (bl x).toNat (by omega)
  rw [show Int.ofNat (rd x).toNat = rd x from Int.toNat_of_nonneg a.1, show Int.ofNat (gn x).toNat = gn x from Int.toNat_of_nonneg b.1, show Int.ofNat (bl x).toNat = bl x from Int.toNat_of_nonneg c.1] at h
  unfold okR at h
  rw [forceI_eq, forceI_eq] at h
  exact okQ_out h
/-- what the way back finds in a coloured line -/
theorem words_line {x c : Int} {p D g q R S v e} (h : Pieces x p D g q R S v e) (hne : hiI x ≠ 0) (h0 : 0 ≤ c) (h1 : c ≤ 8) :
    Txt.words (blankR (dueLineS x (hueS x) c)) = [tx (S ++ [46, 48 + v])] ∧ (blankR (dueLineS x (hueS x) c)).length ≤ 1000 ∧ (restR (dueLineS x (hueS x) c)).length ≤ 100 := by
  have hr := (rest_tx h hne h0 h1).2
  have hv := hi_in x
  have hvv := h.hv
  have lg : g.length ≤ 2 := by rcases h.hg with rfl | rfl | rfl <;> simp
  have lR : R.length ≤ 1 := by rcases h.hq with ⟨_, rfl⟩ | ⟨_, rfl⟩ | ⟨_, rfl⟩ | ⟨_, rfl⟩ <;> simp
  have le : (if c = 0 then e else []).length ≤ 3 := by
    split
    · rcases h.he with rfl | rfl | rfl | rfl <;> simp
    · simp
  have lS := h.lS
  have lrest : (g ++ q :: (R ++ (S ++ [46, 48 + v])) ++ (if c = 0 then e else [])).length ≤ 50 := by
    simp only [List.length_append, List.length_cons, List.length_nil] at *
    omega
  have hb : blankR (dueLineS x (hueS x) c) = tx (sub1 58 32 (g ++ q :: (R ++ (S ++ [46, 48 + v])) ++ (if c = 0 then e else []))) := by
    unfold blankR; rw [hr, colon_tx, blank_tx, replace_tx]
  have hM58 : 58 ∉ S ++ [46, 48 + v] := fun hm => by
    rcases List.mem_append.mp hm with hm | hm
    · have := h.hS 58 hm; omega
    · simp at hm; omega
  have ht58 : 58 ∉ (if c = 0 then e else []) := fun hm => by
    split at hm
    · rcases h.he with rfl | rfl | rfl | rfl <;> simp at hm
    · simp at hm
  have hg58 : 58 ∉ g := fun hm => by have := gap_mem h.hg hm; omega
  have ht : AllSp (if c = 0 then e else []) := by
    split
    · exact sp_end h.he
    · exact fun _ hk => by simp at hk
  refine ⟨?_, by rw [hb, tx_len]; unfold sub1; rw [List.length_map]; omega, by rw [hr, tx_len]; omega⟩
  have e1 : sub1 58 32 (g ++ q :: (R ++ (S ++ [46, 48 + v])) ++ (if c = 0 then e else [])) = (g ++ sub1 58 32 (q :: R)) ++ ((S ++ [46, 48 + v]) ++ (if c = 0 then e else [])) := by
    have e2 : g ++ q :: (R ++ (S ++ [46, 48 + v])) ++ (if c = 0 then e else []) = g ++ ((q :: R) ++ ((S ++ [46, 48 + v]) ++ (if c = 0 then e else []))) := by simp
    rw [e2, sub1_app, sub1_app, sub1_app, sub1_free hg58, sub1_free hM58, sub1_free ht58, ← List.append_assoc g]
  rw [hb, e1]
  refine words_one ?_ ?_ (by simp) ht
  · intro k hk
    rcases List.mem_append.mp hk with hk | hk
    · exact gap_sp h.hg k hk
    · have : k = 32 ∨ k = 10 := by
        rcases h.hq with ⟨rfl, rfl⟩ | ⟨rfl, rfl⟩ | ⟨rfl, rfl⟩ | ⟨rfl, rfl⟩ <;> simp [sub1] at hk <;> omega
      rcases this with rfl | rfl <;> decide +kernel
  · rw [List.all_eq_true]
    intro k hk
    rcases List.mem_append.mp hk with hk | hk
    · rw [sp_digit (h.hS k hk)]; rfl
    · have : k = 46 ∨ k = 48 + v := by simpa using hk
      rcases this with rfl | rfl
      · decide +kernel
      · rw [sp_digit (by omega)]; rfl
theorem line_le (x c : Int) (h0 : 0 ≤ c) (h1 : c ≤ 8) : (dueLineS x (hueS x) c).length ≤ 60 := dueLineS_le x (hueS x) (figS_le (hueN_in x).1 (by have := (hueN_in x).2; omega)) c h0 h1
/-- the way back from a line to its colour -/
theorem read_line (w : World) (mean mg mb) (x c : Int) (h0 : 0 ≤ c) (h1 : c ≤ 8) (t : Tok) (news) : Does 3 24 w mean mg mb 109 [.str (dueLineS x (hueS x) c) t] [] news (IsL3g (rd x) (gn x) (bl x) news) := by
  have hl := line_le x c h0 h1
  by_cases hz : hiI x = 0
  · obtain ⟨e, he, hm⟩ := end_cases x
    have key := blk_read e (ends_mem (x := x) hm) c.toNat (by omega)
    rw [show Int.ofNat c.toNat = c from Int.toNat_of_nonneg h0] at key
    have a := rd_in x; have b := gn_in x; have d := bl_in x
    have e3 : rd x = 0 ∧ gn x = 0 ∧ bl x = 0 := by unfold hiI at hz; omega
    rw [e3.1, e3.2.1, e3.2.2]
    have hb : dueLineS x (hueS x) c = blkS (tx e) c := by rw [line_blk hz, he]
    rw [hb] at hl ⊢
    exact readA_does w mean mg mb _ (by omega) key.2 key.1 t news
  · obtain ⟨p, D, g, q, R, S, v, e, h⟩ := pieces x
    obtain ⟨n1, n2⟩ := nameR_tx h hz h0 h1
    obtain ⟨w1, w2, w3⟩ := words_line h hz h0 h1
    have hf := (rest_tx h hz h0 h1).1
    have bk := back_ok x
    have hn := hueN_in x
    have hs := share_in x
    have hv := hi_in x
    have hvv := h.hv
    have lS := h.lS
    have lD := h.lD
    have hnl : (nameL p D g c.toNat).length ≤ 100 := by rw [← n2]; exact (by
      have := strip_line x c h0 h1
      have s1 := stripS_le (dueLineS x (hueS x) c)
      have s2 : (Txt.replace (stripS (dueLineS x (hueS x) c)) (Str.ofString "#") (Str.ofString " ")).length = (stripS (dueLineS x (hueS x) c)).length := by rw [n2, strip_col h hz h0 h1, tx_len]
      omega)
    refine readB_does w mean mg mb _ (tx (S ++ [46, 48 + v])) (tx S) (tx [48 + v]) (hueN x) (shareI x) (hiI x) (rd x) (gn x) (bl x) (by omega) (by omega) (by rw [n1, tx_len]; omega) w3 w2 (by rw [hf]; omega) ?_ w1 (by rw [tx_len, List.length_append]; simp; omega) ?_ (by rw [tx_len]; omega) (by rw [tx_len]; simp)
      ?_ ?_ ?_ hn.1 hn.2 hs.1 hs.2 hv.1 hv.2 bk.f1 bk.f2 bk.f3 bk.r1 bk.r2 bk.r3 bk.r4 bk.r5 bk.r6 t news
    · rw [n1]
      refine beq_eq_false_iff_ne.mpr fun hq => ?_
      have := congrArg Str.length hq
      rw [tx_len, lD, show Str.ofString "" = tx [] from by decide +kernel, tx_len] at this
      simp at this
    · rw [dot_tx]
      exact split_two (B := [48 + v]) (fun hm => by have := h.hS 46 hm; omega) (fun hm => by simp at hm; omega)
    · rw [n1]
      have := intText_digits (x := tx D) h.hD (fun e => by rw [tx_cps] at e; rw [e] at lD; simp at lD) (by rw [tx_len]; omega)
      rw [this, tx_cps, h.vD, Int.toNat_of_nonneg hn.1]
    · rw [← h.share]; exact KIN.num_reads hs.1 (by omega)
    · rw [← h.value]; exact KIN.num_reads hv.1 (by omega)
end
section
noncomputable abbrev Item := Int × Str × Int
noncomputable def lineOf (p : Item) : Str := dueLineS p.1 p.2.1 p.2.2
noncomputable def Ok (n : Nat) (p : Item) : Prop := p.2.1 = hueS p.1 ∧ 0 ≤ p.1 ∧ p.1 < 1000000 ∧ 0 ≤ p.2.2 ∧ p.2.2 ≤ (n : Int)
structure Inv (n : Nat) (its : List Item) : Prop where
  ok : ∀ p ∈ its, Ok n p
  sort : SortS (its.map nameOf)
  len : its.length ≤ 8
theorem hueS_le (x : Int) : (hueS x).length ≤ 4 := figS_le (hueN_in x).1 (by have := (hueN_in x).2; omega)
theorem Ok.good {n : Nat} {p : Item} (h : Ok n p) (hn : n ≤ 8) : Good p.1 p.2.1 p.2.2 := ⟨h.2.1, h.2.2.1, by rw [h.1]; exact hueS_le _, h.2.2.2.1, by have := h.2.2.2.2; omega⟩
theorem Ok.name {n : Nat} {p : Item} (h : Ok n p) (hn : n ≤ 8) : stripS (lineOf p) = nameOf p := by
  unfold lineOf nameOf
  rw [h.1]
  exact strip_line p.1 p.2.2 h.2.2.2.1 (by have := h.2.2.2.2; omega)
theorem Ok.le {n : Nat} {p : Item} (h : Ok n p) (hn : n ≤ 8) : (lineOf p).length ≤ 60 := by
  unfold lineOf
  rw [h.1]
  exact line_le p.1 p.2.2 h.2.2.2.1 (by have := h.2.2.2.2; omega)
theorem Ok.up {n m : Nat} {p : Item} (h : Ok n p) (hn : n ≤ m) : Ok m p := ⟨h.1, h.2.1, h.2.2.1, h.2.2.2.1, by have := h.2.2.2.2; omega⟩
theorem Ok.more {n : Nat} {p : Item} (h : Ok n p) : Ok (n + 1) (p.1, p.2.1, p.2.2 + 1) := ⟨h.1, h.2.1, h.2.2.1, by have := h.2.2.2.1; show 0 ≤ p.2.2 + 1; omega, by have := h.2.2.2.2; show p.2.2 + 1 ≤ ((n + 1 : Nat) : Int); omega⟩
theorem Ok.comment {n : Nat} {p : Item} (h : Ok n p) (hn : n ≤ 7) : commentS (lineOf p) = lineOf (p.1, p.2.1, p.2.2 + 1) := by
  unfold lineOf
  show commentS (dueLineS p.1 p.2.1 p.2.2) = dueLineS p.1 p.2.1 (p.2.2 + 1)
  rw [h.1]
  exact comment_line p.1 p.2.2 h.2.2.2.1 (by have := h.2.2.2.2; omega)
theorem names_of {n : Nat} (hn : n ≤ 8) {its : List Item} (h : ∀ p ∈ its, Ok n p) : (its.map lineOf).map stripS = its.map nameOf := by
  rw [List.map_map]
  exact List.map_congr_left fun p hp => (h p hp).name hn
/-- the place of a new name -/
noncomputable def place (fl : Bool) (its : List Item) (p : Item) : Nat := if fl then cntL (its.map nameOf) (nameOf p) else cntR (its.map nameOf) (nameOf p)
noncomputable def ins (fl : Bool) (p : Item) (its : List Item) : List Item := insAt (place fl its p) p its
theorem ins_sort {fl : Bool} {p : Item} {its : List Item} (h : SortS (its.map nameOf)) : SortS ((ins fl p its).map nameOf) := by
  unfold ins place
  rw [insAt_map]
  cases fl with
  | true => exact sort_insL h _
  | false => exact sort_insR h _
theorem ins_len (fl : Bool) (p : Item) (its : List Item) : (ins fl p its).length = its.length + 1 := insAt_len _ _ _
theorem ins_mem {fl : Bool} {p q : Item} {its : List Item} (h : q ∈ ins fl p its) : q = p ∨ q ∈ its := insAt_mem h
theorem insR_law (w : World) (mean mg mb) (r : Addr) (vs : List Value) (its : List Item) (k n : Nat) (p : Item) (t : Tok) (rest : List (Addr × Obj)) (hr : ∀ q ∈ rest, q.1 ≠ r) (hs : StrsAre vs (its.map lineOf)) (hi : ∀ q ∈ its, Ok n q) (hn : n ≤ 8) (so : SortS (its.map nameOf)) (hl : its.length ≤ 8) (hp : Ok n p) :
    Does 3 24 w mean mg mb 37 [.ref r, .str (lineOf p) t] [(Str.ofString "key", .ref 28)] ((r, W.listOf vs.toArray k) :: rest) (IsIns r ((ins false p its).map lineOf) rest) := by
  have e := names_of hn hi
  have := insortR_does w mean mg mb r vs (its.map lineOf) k (lineOf p) t rest hr hs (by rw [List.length_map]; exact hl) (fun y hy => by obtain ⟨q, hq, rfl⟩ := List.mem_map.mp hy; have := (hi q hq).le hn; omega) (by have := hp.le hn; omega) (by rw [e]; exact so)
  rw [e, hp.name hn] at this
  unfold ins place
  rw [insAt_map]
  exact this
theorem insL_law (w : World) (mean mg mb) (r : Addr) (vs : List Value) (its : List Item) (k n : Nat) (p : Item) (t : Tok) (rest : List (Addr × Obj)) (hr : ∀ q ∈ rest, q.1 ≠ r) (hs : StrsAre vs (its.map lineOf)) (hi : ∀ q ∈ its, Ok n q) (hn : n ≤ 8) (so : SortS (its.map nameOf)) (hl : its.length ≤ 8) (hp : Ok n p) :
    Does 3 24 w mean mg mb 55 [.ref r, .str (lineOf p) t] [(Str.ofString "key", .ref 28)] ((r, W.listOf vs.toArray k) :: rest) (IsIns r ((ins true p its).map lineOf) rest) := by
  have e := names_of hn hi
  have := insortL_does w mean mg mb r vs (its.map lineOf) k (lineOf p) t rest hr hs (by rw [List.length_map]; exact hl) (fun y hy => by obtain ⟨q, hq, rfl⟩ := List.mem_map.mp hy; have := (hi q hq).le hn; omega) (by have := hp.le hn; omega) (by rw [e]; exact so)
  rw [e, hp.name hn] at this
  unfold ins place
  rw [insAt_map]
  exact this
theorem bisL_law (w : World) (mean mg mb) (r : Addr) (vs : List Value) (its : List Item) (k n : Nat) (y : Str) (t : Tok) (news) (hm : (r, W.listOf vs.toArray k) ∈ news) (hs : StrsAre vs (its.map lineOf)) (hi : ∀ q ∈ its, Ok n q) (hn : n ≤ 8) (so : SortS (its.map nameOf)) (hl : its.length ≤ 8) (hy : y.length ≤ 4) :
    Does 2 16 w mean mg mb 64 [.ref r, .str y t] [(Str.ofString "key", .ref 28)] news (IsI (cntL (its.map nameOf) y) news) := by
  have e := names_of hn hi
  have := bisectL2_does w mean mg mb r vs (its.map lineOf) k y t news hm hs (by rw [List.length_map]; exact hl) (fun z hz => by obtain ⟨q, hq, rfl⟩ := List.mem_map.mp hz; have := (hi q hq).le hn; omega) (by omega) (by rw [e]; exact so)
  rw [e] at this
  exact this
theorem bisR_law (w : World) (mean mg mb) (r : Addr) (vs : List Value) (its : List Item) (k n : Nat) (y : Str) (t : Tok) (news) (hm : (r, W.listOf vs.toArray k) ∈ news) (hs : StrsAre vs (its.map lineOf)) (hi : ∀ q ∈ its, Ok n q) (hn : n ≤ 8) (so : SortS (its.map nameOf)) (hl : its.length ≤ 8) (hy : y.length ≤ 4) :
    Does 2 16 w mean mg mb 46 [.ref r, .str y t] [(Str.ofString "key", .ref 28)] news (IsI (cntR (its.map nameOf) y) news) := by
  have e := names_of hn hi
  have := bisectR2_does w mean mg mb r vs (its.map lineOf) k y t news hm hs (by rw [List.length_map]; exact hl) (fun z hz => by obtain ⟨q, hq, rfl⟩ := List.mem_map.mp hz; have := (hi q hq).le hn; omega) (by omega) (by rw [e]; exact so)
  rw [e] at this
  exact this
/-- told leaves the pair on top of the ledger that was -/
noncomputable def IsTold (x : Int) (news : List (Addr × Obj)) : Post := fun v n => ∃ (a : Addr) (t1 t2 : Tok) (k : Nat), v = .ref a ∧ n = (a, W.listOf #[.str (hueS x) t1, .str (lineOf (x, hueS x, 0)) t2] k) :: news ∧ ∀ p ∈ news, p.1 < a
section
variable {D U : Nat} {w : World} {mean : ExcName → Option Value} {mg mb : Str → Option Value} {f : Addr} {vs : List Value} {kw : List (Str × Value)} {news : List (Addr × Obj)} {dp un : Nat} {gd : Option (List Code)} {cn : Str} {cs : Scope} {a : Addr} {ccd : Value} {cl : List (Str × Addr)} {outer : List Env} {A₀ : Around} {base h₀ : Heap} {L : Addr} {m : Str → Option Value} {s : Shared} {Q E : Value → Shared → Prop}
theorem does_Told {x : Int} (B : Below A₀ base outer h₀) (F : Fr h₀ L s.heap m) (X : (hd.heap_39 w.params).In h₀) (N : News h₀ L s.heap news) (T : Top hd.view_39 LS mean mg mb h₀) (hk : cs.kind = .function) (C : Does D U w mean mg mb f vs kw news (IsTold x news))
    (h1 : dp + D < recursionLimit) (h2 : un + U < cLine)
    (ret : ∀ (b : Addr) (t1 t2 : Tok) (k : Nat) (h' : Heap) (tk' : Nat), Fr h₀ L h' m → News h₀ L h' ((b, W.listOf #[.str (hueS x) t1, .str (lineOf (x, hueS x, 0)) t2] k) :: news) → (∀ p ∈ news, p.1 < b) → Q (.ref b) { s with heap := h', toks := tk' }) : wpAny (model Challenge.rw_pg0185_01.row.prog w) (ktrTop dp un gd cn cs L a ccd cl outer) (call (.ref f) vs kw) Q E s :=
  does_use C B F X N T hk h1 h2 fun v n h' tk' F' N' hp => by
    obtain ⟨b, t1, t2, k, rfl, rfl, l9⟩ := hp
    exact ret b t1 t2 k h' tk' F' N' l9
end
theorem told_law (w : World) (mean mg mb) (x : Int) (h0 : 0 ≤ x) (h1 : x < 1000000) (t : Tok) (news) : Does 3 24 w mean mg mb 104 [.int x t] [] news (IsTold x news) := by
  intro dp un gd cn cs a ccd cl outer A₀ base h₀ L m s Q E B F X N T hk hd hu hret
  refine told_does w mean mg mb x h0 h1 t news dp un gd cn cs a ccd cl outer A₀ base h₀ L m s Q E B F X N T hk hd hu fun v n h' tk' F' N' hp => ?_
  obtain ⟨b, t1, t2, k, n', rfl, rfl, hs, hlt⟩ := hp
  refine hret _ _ h' tk' F' (fun p hp => N' p ?_) ⟨b, t1, t2, k, rfl, rfl, fun p hp => hlt p (hs p hp)⟩
  rcases List.mem_cons.mp hp with rfl | hp
  · exact List.mem_cons_self
  · exact List.mem_cons_of_mem _ (hs p hp)
end
section
open PySem.Spec PySem.Calls PyProof.V
section
variable {prog : Program} {w : World} {A : Around} {E : Value → Shared → Prop} {Q : Flow → Shared → Prop} {s : Shared} {env : Env} {h₀ : Heap} {body : List Stmt}
noncomputable abbrev TurnFr (x : Str) (v : Value) (r hd9 : Addr) (m₁ : Str → Option Value) : Str → Option Value := fun y => if y = x then some v else if y = Str.ofString "row" then some (.ref r) else if y = Str.ofString "held" then some (.ref hd9) else m₁ y
noncomputable def TurnEnd (h₀ : Heap) (L : Addr) (s : Shared) (r c9 : Addr) (rest own : List (Addr × Obj)) (n : Nat) (f : Flow) (s₂ : Shared) : Prop :=
  f = .next ∧ ∃ (h' : Heap) (tk : Nat) (m' : Str → Option Value) (vs us : List Value) (k kk : Nat) (oc : Obj) (v0 : Option Value) (hd9 : Addr) (its : List Item) (new : List (Addr × Obj)), s₂ = { s with heap := h', toks := tk } ∧ Fr h₀ L h' m' ∧
    News h₀ L h' ((r, W.listOf vs.toArray k) :: (c9, oc) :: (new ++ (rest ++ own))) ∧ oc.data = .cell v0 ∧ (hd9, W.listOf us.toArray kk) ∈ new ++ rest ∧ HAre (new ++ rest) us its ∧ StrsAre vs (its.map lineOf) ∧ Inv n its ∧ its.length = n ∧
    (∀ p ∈ new, p.1 ≠ r ∧ p.1 ≠ c9 ∧ ∀ q ∈ own, q.1 ≠ p.1) ∧ m' (Str.ofString "row") = some (.ref r) ∧ m' (Str.ofString "held") = some (.ref hd9)
noncomputable def LawJ (c9 : Addr) (r : Addr) (i : Nat) (m : Str → Option Value) (nx : List (Addr × Obj)) : Prop :=
  ∃ (vs us : List Value) (k kk : Nat) (oc : Obj) (v0 : Option Value) (hd9 : Addr) (its : List Item) (rest : List (Addr × Obj)), nx = (r, W.listOf vs.toArray k) :: (c9, oc) :: rest ∧ oc.data = .cell v0 ∧ (hd9, W.listOf us.toArray kk) ∈ rest ∧ HAre rest us its ∧ StrsAre vs (its.map lineOf) ∧ Inv i its ∧ its.length = i ∧
    (∀ p ∈ rest, p.1 ≠ r ∧ p.1 ≠ c9) ∧ m (Str.ofString "row") = some (.ref r) ∧ m (Str.ofString "held") = some (.ref hd9)
theorem law_loop {l r c9 hd9 : Addr} {ys : List Value} {ns : List Int} {nn k kk : Nat} {oc : Obj} {v0 : Option Value} {m₀ : Str → Option Value} (hh : A.handled = none) (hi : IntsAre ys ns) (hx : ∀ n ∈ ns, 0 ≤ n ∧ n < 1000000) (h8 : ns.length ≤ 8)
    (F : Fr h₀ env.locals s.heap m₀) (N : News h₀ env.locals s.heap ((r, W.listOf #[] k) :: (c9, oc) :: (hd9, W.listOf #[] kk) :: (l, W.listOf ys.toArray nn) :: [])) (hoc : oc.data = .cell v0) (hrc : r ≠ c9) (n1 : hd9 ≠ r) (n2 : hd9 ≠ c9) (n3 : l ≠ r) (n4 : l ≠ c9) (hr : m₀ (Str.ofString "row") = some (.ref r)) (hhd : m₀ (Str.ofString "held") = some (.ref hd9))
    (turn : ∀ (i : Nat) (x : Int) (t : Tok) (hd9 : Addr) (vs us : List Value) (k kk : Nat) (oc : Obj) (v0 : Option Value) (its : List Item) (rest own : List (Addr × Obj)) (m₁ : Str → Option Value) h tk, i < 8 → 0 ≤ x → x < 1000000 → oc.data = .cell v0 → (hd9, W.listOf us.toArray kk) ∈ rest → HAre rest us its → StrsAre vs (its.map lineOf) → Inv i its → its.length = i →
      (∀ p ∈ rest ++ own, p.1 ≠ r) → (∀ p ∈ rest ++ own, p.1 ≠ c9) →
      Fr h₀ env.locals h (TurnFr (Str.ofString "x") (.int x t) r hd9 m₁) → News h₀ env.locals h ((r, W.listOf vs.toArray k) :: (c9, oc) :: (rest ++ own)) →
      wpAny (model prog w) A (execs body env) (TurnEnd h₀ env.locals s r c9 rest own (i + 1)) E { s with heap := h, toks := tk })
    (done : ∀ (hd9 : Addr) (vs us : List Value) (k kk : Nat) (oc : Obj) (v0 : Option Value) (its : List Item) (rest : List (Addr × Obj)) (m₁ : Str → Option Value) h tk, oc.data = .cell v0 → (hd9, W.listOf us.toArray kk) ∈ rest → HAre rest us its → StrsAre vs (its.map lineOf) → Inv ns.length its →
      (∀ p ∈ rest, p.1 ≠ r) → (∀ p ∈ rest, p.1 ≠ c9) →
      Fr h₀ env.locals h (fun y => if y = Str.ofString "row" then some (.ref r) else if y = Str.ofString "held" then some (.ref hd9) else m₁ y) → News h₀ env.locals h ((r, W.listOf vs.toArray k) :: (c9, oc) :: rest) → Q .next { s with heap := h, toks := tk }) :
    wpAny (model prog w) A (pyIter (.ref l)) (fun it s₂ => LoopAtV prog w A h₀ env (Str.ofString "x") body Q E it s₂) E s := by
  have hlen : ys.length = ns.length := hi.length
  have frame : ∀ (m : Str → Option Value) (hd9 : Addr), m (Str.ofString "row") = some (.ref r) → m (Str.ofString "held") = some (.ref hd9) → m = fun y => if y = Str.ofString "row" then some (.ref r) else if y = Str.ofString "held" then some (.ref hd9) else m y := fun m hd9 a b => by
    funext y
    by_cases e1 : y = Str.ofString "row"
    · rw [if_pos e1, e1]; exact a
    · rw [if_neg e1]
      by_cases e2 : y = Str.ofString "held"
      · rw [if_pos e2, e2]; exact b
      · rw [if_neg e2]
  refine kdl_iter (fun i m nx => LawJ c9 r i m nx) hh (.tail _ (.tail _ (.tail _ (.head _)))) F N ⟨[], [], k, kk, oc, v0, hd9, [], _, rfl, hoc, .head _, .nil, .nil, ⟨fun _ h => (nomatch h), List.Pairwise.nil, Nat.zero_le _⟩, rfl, fun p hp => ?_, hr, hhd⟩ ?_ ?_
  · rcases List.mem_cons.mp hp with rfl | hp
    · exact ⟨n1, n2⟩
    · rw [List.mem_singleton.mp hp]; exact ⟨n3, n4⟩
  · rintro i v m₁ nx h tk own hv hoff hl ⟨vs, us, k', kk', oc', v0', hd', its, rest, rfl, hoc', hm', hA', hS', hI', hlen', hne', hr', hh'⟩ F₁ N₁
    have hi' : i < ns.length := by rw [← hlen]; exact (List.getElem?_eq_some_iff.mp hv).1
    obtain ⟨t, hxx⟩ := hi.get i (ns[i]'hi') (List.getElem?_eq_getElem hi')
    have ev : v = .int (ns[i]'hi') t := by rw [hxx] at hv; exact (Option.some.inj hv).symm
    subst ev
    have hb := hx _ (List.getElem_mem hi')
    have fe : (fun y => if y = Str.ofString "x" then some (Value.int (ns[i]'hi') t) else m₁ y) = TurnFr (Str.ofString "x") (.int (ns[i]'hi') t) r hd' m₁ := by
      funext y
      show (if y = Str.ofString "x" then _ else m₁ y) = if y = Str.ofString "x" then _ else _
      by_cases e : y = Str.ofString "x"
      · rw [if_pos e, if_pos e]
      · rw [if_neg e, if_neg e]
        exact congrFun (frame m₁ hd' hr' hh') y
    rw [fe] at F₁
    have o1 : ∀ p ∈ rest ++ own, p.1 ≠ r := fun p hp => (List.mem_append.mp hp).elim (fun h => (hne' p h).1) fun h => hoff p h r (by simp)
    have o2 : ∀ p ∈ rest ++ own, p.1 ≠ c9 := fun p hp => (List.mem_append.mp hp).elim (fun h => (hne' p h).2) fun h => hoff p h c9 (by simp)
    refine wpAny_mono (turn i _ t hd' vs us k' kk' oc' v0' its rest own m₁ h tk (by omega) hb.1 hb.2 hoc' hm' hA' hS' hI' hlen' o1 o2 F₁ N₁) (fun f s₂ q => ?_) fun _ _ e => e
    obtain ⟨rfl, h'', tk'', m'', vs2, us2, k2, kk2, oc2, v2, hd2, its2, new, rfl, F2, N2, hoc2, hm2, hA2, hS2, hI2, hl2, hnew, hr2, hh2⟩ := q
    have hlrest : (l, W.listOf ys.toArray nn) ∈ rest := by
      rcases List.mem_cons.mp hl with e | hl
      · exact absurd (congrArg Prod.fst e) n3
      · rcases List.mem_cons.mp hl with e | hl
        · exact absurd (congrArg Prod.fst e) n4
        · exact hl
    refine ⟨h'', tk'', m'', _, (r, W.listOf vs2.toArray k2) :: (c9, oc2) :: (new ++ rest), rfl, F2, N2, fun p hp => ?_, fun p hp => ?_, fun p hp b hb e => ?_, ?_, vs2, us2, k2, kk2, oc2, v2, hd2, its2, new ++ rest, rfl, hoc2, hm2, hA2, hS2, hI2, hl2, fun p hp => ?_, hr2, hh2⟩
    · rcases List.mem_cons.mp hp with rfl | hp
      · exact .head _
      · rcases List.mem_cons.mp hp with rfl | hp
        · exact .tail _ (.head _)
        · refine .tail _ (.tail _ ?_)
          rcases List.mem_append.mp hp with hp | hp
          · exact List.mem_append.mpr (.inl hp)
          · exact List.mem_append.mpr (.inr (List.mem_append.mpr (.inl hp)))
    · exact .tail _ (.tail _ (List.mem_append.mpr (.inr (List.mem_append.mpr (.inr hp)))))
    · obtain ⟨q, hq, rfl⟩ := List.mem_map.mp hb
      rcases List.mem_cons.mp hq with rfl | hq
      · exact hoff p hp r (by simp) e
      · rcases List.mem_cons.mp hq with rfl | hq
        · exact hoff p hp c9 (by simp) e
        · rcases List.mem_append.mp hq with hq | hq
          · exact (hnew q hq).2.2 p hp e
          · exact hoff p hp q.1 (by
              rw [List.map_cons, List.map_cons]
              exact .tail _ (.tail _ (List.mem_map_of_mem hq))) e
    · exact .tail _ (.tail _ (List.mem_append.mpr (.inr hlrest)))
    · rcases List.mem_append.mp hp with hp | hp
      · exact ⟨(hnew p hp).1, (hnew p hp).2.1⟩
      · exact hne' p hp
  · rintro m₁ nx h tk ⟨vs, us, k', kk', oc', v0', hd', its, rest, rfl, hoc', hm', hA', hS', hI', hlen', hne', hr', hh'⟩ F₁ N₁
    rw [hlen] at hI'
    rw [frame m₁ hd' hr' hh'] at F₁
    exact done hd' vs us k' kk' oc' v0' its rest m₁ h tk hoc' hm' hA' hS' hI' (fun p hp => (hne' p hp).1) (fun p hp => (hne' p hp).2) F₁ N₁
end
end
section
open PySem.StrLaws PySem.NumText
/-- texts of small signs -/
theorem ok_tx {l : List Nat} (h : ∀ k ∈ l, k < 0x110000) : PyData.strOk (tx l) = true := by
  unfold PyData.strOk
  rw [Array.all_eq_true']
  intro k hk
  exact decide_eq_true (h k (by simpa using hk))
theorem blk_ok : ∀ e ∈ ends, ∀ c < 9, PyData.strOk (blkS (tx e) (Int.ofNat c)) = true ∧ PyData.strOk (firstS (firstS (blkS (tx e) (Int.ofNat c)) (Str.ofString "\n")) (Str.ofString ":")) = true := by decide +kernel
theorem dig_lt {l : List Nat} (h : AllDigits l) : ∀ k ∈ l, k < 0x110000 := fun k hk => by have := h k hk; omega
theorem tail_lt {e : List Nat} (h : e = [] ∨ e = [32] ∨ e = [10, 9, 32] ∨ e = [32, 160, 28]) : ∀ k ∈ e, k < 0x110000 := by
  intro k hk
  rcases h with rfl | rfl | rfl | rfl <;> simp at hk <;> omega
theorem line_ok (x c : Int) (h0 : 0 ≤ c) (h1 : c ≤ 8) : PyData.strOk (dueLineS x (hueS x) c) = true ∧ PyData.strOk (dueNameS x (hueS x) c) = true := by
  by_cases hz : hiI x = 0
  · obtain ⟨e, he, hm⟩ := end_cases x
    have key := blk_ok e (ends_mem (x := x) hm) c.toNat (by omega)
    rw [show Int.ofNat c.toNat = c from Int.toNat_of_nonneg h0] at key
    unfold dueNameS
    rw [if_pos hz, line_blk hz, he]
    exact key
  · obtain ⟨p, D, g, q, R, S, v, e, h⟩ := pieces x
    rw [line_tx h hz h0 h1, name_tx h hz h0 h1]
    have hv := hi_in x
    have hvv := h.hv
    have hq := h.hq
    refine ⟨ok_tx fun k hk => ?_, ok_tx fun k hk => ?_⟩
    · rcases List.mem_append.mp hk with hk | hk
      · have := hsh_mem hk; omega
      rcases List.mem_append.mp hk with hk | hk
      · unfold body at hk
        rcases List.mem_append.mp hk with hk | hk
        · rcases List.mem_append.mp hk with hk | hk
          · rcases List.mem_append.mp hk with hk | hk
            · have := path_mem h.hp hk; omega
            · exact dig_lt h.hD k hk
          · have := gap_mem h.hg hk; omega
        · rcases List.mem_cons.mp hk with rfl | hk
          · omega
          rcases List.mem_append.mp hk with hk | hk
          · rcases hq with ⟨_, rfl⟩ | ⟨_, rfl⟩ | ⟨_, rfl⟩ | ⟨_, rfl⟩ <;> simp at hk <;> omega
          rcases List.mem_append.mp hk with hk | hk
          · exact dig_lt h.hS k hk
          · simp at hk; omega
      · split at hk
        · exact tail_lt h.he k hk
        · simp at hk
    · have := name_mem h.hD h.hg hk; omega
theorem Ok.lineOk {n : Nat} {p : Item} (h : Ok n p) (hn : n ≤ 8) : PyData.strOk (lineOf p) = true := by
  unfold lineOf
  rw [h.1]
  exact (line_ok p.1 p.2.2 h.2.2.2.1 (by have := h.2.2.2.2; omega)).1
theorem Ok.nameOk {n : Nat} {p : Item} (h : Ok n p) (hn : n ≤ 8) : PyData.strOk (nameOf p) = true := by
  unfold nameOf
  rw [h.1]
  exact (line_ok p.1 p.2.2 h.2.2.2.1 (by have := h.2.2.2.2; omega)).2
theorem dec_yes {p : Prop} (i : Decidable p) (h : p) : @decide p i = true := decide_eq_true h
/-! the comparison of two lists of the same data -/
noncomputable def strD (xs : List Str) : List Dat := xs.map Dat.str
theorem strs_dat {news : List (Addr × Obj)} : ∀ {vs : List Value} {xs : List Str}, StrsAre vs xs → DatAll news vs (strD xs)
  | _, _, .nil => .nil
  | _, _, .cons y t r => .cons (.str y t) (strs_dat r)
section
variable {prog : Program} {w : World} {A : Around} {E : Value → Shared → Prop} {s : Shared} {Q : Value → Shared → Prop} {h₀ : Heap} {L a b : Addr} {news : List (Addr × Obj)} {vs us : List Value} {xs : List Str} {k k' : Nat}
theorem ne_same (N : News h₀ L s.heap news) (ma : (a, W.listOf vs.toArray k) ∈ news) (mb : (b, W.listOf us.toArray k') ∈ news) (hi : StrsAre vs xs) (hi' : StrsAre us xs) (hx : ∀ x ∈ xs, PyData.strOk x = true) (hu : A.units + 64 < cLine)
    (h : Q (.bool false) s) : wpAny (model prog w) A (compareOp .NotEq (.ref a) (.ref b)) Q E s := by
  have hd : ∀ d ∈ strD xs, kqdOk 8 d = true := fun d hd => by
    obtain ⟨x, hm, rfl⟩ := List.mem_map.mp hd
    exact hx x hm
  refine kqd_ne N ma rfl rfl (strs_dat (news := news) hi) (fun _ h => h) mb rfl rfl (strs_dat (news := news) hi') (fun _ h => h) hd hd hu ?_
  rw [dec_yes _ rfl]
  exact h
theorem eq_dat {ds : List Dat} (N : News h₀ L s.heap news) (ma : (a, W.listOf vs.toArray k) ∈ news) (mb : (b, W.listOf us.toArray k') ∈ news) (hi : DatAll news vs ds) (hi' : DatAll news us ds) (hx : ∀ d ∈ ds, kqdOk 8 d = true) (hu : A.units + 64 < cLine)
    (h : Q (.bool true) s) : wpAny (model prog w) A (compareOp .Eq (.ref a) (.ref b)) Q E s := by
  refine kqd_eq N ma rfl rfl hi (fun _ h => h) mb rfl rfl hi' (fun _ h => h) hx hx hu ?_
  rw [dec_yes _ rfl]
  exact h
end
end
section
open PySem.Spec PySem.Calls LCg LCp LCt
/-! the turn as a plain function -/
noncomputable abbrev deedI (x : Int) : Int := ((x.fdiv 729).fdiv 192).fmod 6
noncomputable abbrev newI (x : Int) : Item := (x, hueS x, 0)
noncomputable def itAt (its : List Item) (k : Nat) : Item := its.getD k (newI 0)
noncomputable def moreI (p : Item) : Item := (p.1, p.2.1, p.2.2 + 1)
noncomputable def redo (fl : Bool) (k : Nat) (its : List Item) : List Item := ins fl (moreI (itAt its k)) (its.eraseIdx k)
noncomputable def turn1 (x : Int) (its : List Item) : List Item := ins (decide ((deedI x).fmod 2 = 1)) (newI x) its
noncomputable abbrev lowN (x : Int) (its : List Item) : Nat := cntL ((turn1 x its).map nameOf) (hueS x)
noncomputable abbrev highN (x : Int) (its : List Item) : Nat := cntR ((turn1 x its).map nameOf) (hueS x)
noncomputable def turn2 (x : Int) (its : List Item) : List Item := if (deedI x).fdiv 2 = 1 ∧ lowN x its < (turn1 x its).length then redo false (lowN x its) (turn1 x its) else turn1 x its
noncomputable def turn3 (x : Int) (its : List Item) : List Item := if (deedI x).fdiv 2 = 2 ∧ 0 < highN x its then redo true (highN x its - 1) (turn1 x its) else turn2 x its
theorem newI_ok (n : Nat) {x : Int} (h0 : 0 ≤ x) (h1 : x < 1000000) : Ok n (newI x) := ⟨rfl, h0, h1, Int.le_refl _, Int.natCast_nonneg _⟩
theorem itAt_ok {n : Nat} {its : List Item} (h : ∀ p ∈ its, Ok n p) (k : Nat) : Ok n (itAt its k) := by
  unfold itAt
  rw [List.getD_eq_getElem?_getD]
  cases e : its[k]? with
  | none => exact newI_ok n (by decide) (by decide)
  | some p => exact h p (List.mem_of_getElem? e)
theorem moreI_ok {n : Nat} {p : Item} (h : Ok n p) : Ok (n + 1) (moreI p) := h.more
theorem itAt_get {its : List Item} {k : Nat} (h : k < its.length) : itAt its k = its[k] := by
  unfold itAt
  rw [List.getD_eq_getElem?_getD, List.getElem?_eq_getElem h, Option.getD_some]
theorem erase_ok {n : Nat} {its : List Item} (h : ∀ p ∈ its, Ok n p) (k : Nat) : ∀ p ∈ its.eraseIdx k, Ok n p := fun p hp => h p (List.mem_of_mem_eraseIdx hp)
theorem erase_map {α β : Type} (f : α → β) (l : List α) (k : Nat) : (l.eraseIdx k).map f = (l.map f).eraseIdx k := by
  rw [List.eraseIdx_eq_take_drop_succ, List.eraseIdx_eq_take_drop_succ, List.map_append, List.map_take, List.map_drop]
theorem erase_sort {its : List Item} (h : SortS (its.map nameOf)) (k : Nat) : SortS ((its.eraseIdx k).map nameOf) := by
  rw [erase_map]
  exact sort_drop h k
theorem erase_len {its : List Item} {k : Nat} (h : k < its.length) : (its.eraseIdx k).length + 1 = its.length := by
  rw [List.length_eraseIdx_of_lt h]; omega
theorem erase_len_le {its : List Item} {n : Nat} (h : its.length ≤ n) (k : Nat) : (its.eraseIdx k).length ≤ n := Nat.le_trans (List.length_eraseIdx_le its k) h
theorem ins_ok {n : Nat} {its : List Item} {p : Item} {fl : Bool} (h : ∀ q ∈ its, Ok n q) (hp : Ok n p) : ∀ q ∈ ins fl p its, Ok n q := fun q hq => by
  rcases ins_mem hq with rfl | hq
  · exact hp
  · exact h q hq
theorem up_ok {n : Nat} {its : List Item} (h : ∀ p ∈ its, Ok n p) : ∀ p ∈ its, Ok (n + 1) p := fun p hp => (h p hp).up (Nat.le_succ n)
theorem redo_ok {n : Nat} {its : List Item} {k : Nat} {fl : Bool} (h : ∀ p ∈ its, Ok n p) : ∀ p ∈ redo fl k its, Ok (n + 1) p :=
  ins_ok (up_ok (erase_ok h k)) (moreI_ok (itAt_ok h k))
theorem redo_sort {its : List Item} {k : Nat} {fl : Bool} (h : SortS (its.map nameOf)) : SortS ((redo fl k its).map nameOf) := ins_sort (erase_sort h k)
theorem redo_len {its : List Item} {k : Nat} {fl : Bool} (h : k < its.length) : (redo fl k its).length = its.length := by
  unfold redo
  rw [ins_len, erase_len h]
/-- what holds of the row in a turn -/
structure Good1 (i : Nat) (x : Int) (its : List Item) : Prop where
  hi : i < 8
  x0 : 0 ≤ x
  x1 : x < 1000000
  ok : ∀ p ∈ its, Ok i p
  sort : SortS (its.map nameOf)
  len : its.length = i
section
variable {i : Nat} {x : Int} {its : List Item}
theorem Good1.ok1 (h : Good1 i x its) : ∀ p ∈ turn1 x its, Ok i p := ins_ok h.ok (newI_ok i h.x0 h.x1)
theorem Good1.sort1 (h : Good1 i x its) : SortS ((turn1 x its).map nameOf) := ins_sort h.sort
theorem Good1.len1 (h : Good1 i x its) : (turn1 x its).length = i + 1 := by unfold turn1; rw [ins_len, h.len]
theorem low_le (x : Int) (its : List Item) : lowN x its ≤ (turn1 x its).length := by
  have := cntL_le ((turn1 x its).map nameOf) (hueS x)
  rwa [List.length_map] at this
theorem high_le (x : Int) (its : List Item) : highN x its ≤ (turn1 x its).length := by
  have := cntR_le ((turn1 x its).map nameOf) (hueS x)
  rwa [List.length_map] at this
theorem Good1.ok2 (h : Good1 i x its) : ∀ p ∈ turn2 x its, Ok (i + 1) p := by
  unfold turn2
  split
  · exact redo_ok h.ok1
  · exact up_ok h.ok1
theorem Good1.sort2 (h : Good1 i x its) : SortS ((turn2 x its).map nameOf) := by
  unfold turn2
  split
  · exact redo_sort h.sort1
  · exact h.sort1
theorem Good1.len2 (h : Good1 i x its) : (turn2 x its).length = i + 1 := by
  unfold turn2
  split
  · rename_i e; rw [redo_len e.2]; exact h.len1
  · exact h.len1
theorem Good1.ok3 (h : Good1 i x its) : ∀ p ∈ turn3 x its, Ok (i + 1) p := by
  unfold turn3
  split
  · exact redo_ok h.ok1
  · exact h.ok2
theorem Good1.sort3 (h : Good1 i x its) : SortS ((turn3 x its).map nameOf) := by
  unfold turn3
  split
  · exact redo_sort h.sort1
  · exact h.sort2
theorem Good1.len3 (h : Good1 i x its) : (turn3 x its).length = i + 1 := by
  unfold turn3
  split
  · rename_i e
    have := high_le x its
    rw [redo_len (by omega)]; exact h.len1
  · exact h.len2
theorem Good1.inv (h : Good1 i x its) : Inv (i + 1) (turn3 x its) := ⟨h.ok3, h.sort3, by rw [h.len3]; have := h.hi; omega⟩
theorem turn2_no (h : ¬ (deedI x).fdiv 2 = 1) : turn2 x its = turn1 x its := by unfold turn2; exact if_neg fun e => h e.1
theorem turn2_no2 (h : ¬ lowN x its < (turn1 x its).length) : turn2 x its = turn1 x its := by unfold turn2; exact if_neg fun e => h e.2
theorem turn2_yes (h : (deedI x).fdiv 2 = 1) (h2 : lowN x its < (turn1 x its).length) : turn2 x its = redo false (lowN x its) (turn1 x its) := by unfold turn2; exact if_pos ⟨h, h2⟩
theorem turn3_no (h : ¬ (deedI x).fdiv 2 = 2) : turn3 x its = turn2 x its := by unfold turn3; exact if_neg fun e => h e.1
theorem turn3_no2 (h : ¬ 0 < highN x its) : turn3 x its = turn2 x its := by unfold turn3; exact if_neg fun e => h e.2
theorem turn3_yes (h : (deedI x).fdiv 2 = 2) (h2 : 0 < highN x its) : turn3 x its = redo true (highN x its - 1) (turn1 x its) := by unfold turn3; exact if_pos ⟨h, h2⟩
end
theorem mod2 (a : Int) : (a.fmod 2 = 0 ∧ decide (a.fmod 2 = 1) = false) ∨ (a.fmod 2 ≠ 0 ∧ decide (a.fmod 2 = 1) = true) := by
  have h0 := Int.fmod_nonneg_of_pos a (b := 2) (by omega)
  have h1 := Int.fmod_lt_of_pos a (b := 2) (by omega)
  by_cases e : a.fmod 2 = 0
  · exact .inl ⟨e, decide_eq_false (by omega)⟩
  · exact .inr ⟨e, decide_eq_true (by omega)⟩
theorem turn1_even {x : Int} {its : List Item} (h : (deedI x).fmod 2 = 0) : turn1 x its = ins false (newI x) its := by
  unfold turn1
  rcases mod2 (deedI x) with ⟨_, e⟩ | ⟨e, _⟩
  · rw [e]
  · exact absurd h e
theorem turn1_odd {x : Int} {its : List Item} (h : (deedI x).fmod 2 ≠ 0) : turn1 x its = ins true (newI x) its := by
  unfold turn1
  rcases mod2 (deedI x) with ⟨e, _⟩ | ⟨_, e⟩
  · exact absurd e h
  · rw [e]
/-! own contracts of the law's calls -/
theorem comment_law (w : World) (mean mg mb) (n : Nat) (p : Item) (hp : Ok n p) (hn : n ≤ 7) (t : Tok) (news) : Does 1 8 w mean mg mb 21 [.str (lineOf p) t] [] news (IsS (lineOf (moreI p)) news) := by
  have := comment_does w mean mg mb (lineOf p) (by have := hp.le (by omega); omega) t news
  rw [hp.comment hn] at this
  exact this
theorem lay_law (w : World) (mean mg mb) (hd9 : Addr) (us : List Value) (its : List Item) (nn n : Nat) (x : Int) (hue : Str) (c : Int) (fl : Bool) (t u v : Tok) (sub news : List (Addr × Obj)) (hm : (hd9, W.listOf us.toArray nn) ∈ news) (hv : HAre sub us its) (hsub : ∀ p ∈ sub, p ∈ news) (hi : ∀ q ∈ its, Ok n q) (hn : n ≤ 8) (hl : its.length ≤ 8) (hp : Ok n (x, hue, c)) :
    Does 5 300 w mean mg mb 133 [.ref hd9, .int x t, .str hue u, .int c v, .bool fl] [] news (IsLay (ins fl (x, hue, c) its) sub news) :=
  lay_does w mean mg mb hd9 us its nn x hue c fl t u v sub news hm hsub hv (fun p hp => (hi p hp).good hn) hl (hp.good hn)
/-! list steps of the law -/
theorem strs_erase {vs : List Value} {xs : List Str} (h : StrsAre vs xs) (k : Nat) : StrsAre (vs.take k ++ vs.drop (k + 1)) (xs.eraseIdx k) := by
  rw [List.eraseIdx_eq_take_drop_succ]
  exact strs_app (strs_take h k) (strs_drop h (k + 1))
theorem cut_at : ∀ {vs : List Value} {k : Nat} {y : Value}, vs[k]? = some y → kl_cut vs k = some (vs.take k, y, vs.drop (k + 1))
  | [], _, _, h => by simp at h
  | v :: vs, 0, y, h => by simp at h; subst h; rfl
  | v :: vs, k + 1, y, h => by
    unfold kl_cut
    rw [cut_at (by simpa using h)]
    rfl
section
variable {prog : Program} {w : World} {A : Around} {E : Value → Shared → Prop} {s : Shared} {Q : Value → Shared → Prop} {h₀ : Heap} {L r a b : Addr} {m : Str → Option Value} {news rest sub : List (Addr × Obj)} {vs us : List Value} {its : List Item} {n nn : Nat}
theorem sub_cast {n : Nat} (h : 0 < n) : ((n : Int) - 1) = ((n - 1 : Nat) : Int) := by omega
theorem add_cast (n : Nat) : ((n : Int) + 1) = ((n + 1 : Nat) : Int) := by omega
theorem pop_S {j : Int} {u : Tok} (k : Nat) (e : j = (k : Int)) (F : Fr h₀ L s.heap m) (N : News h₀ L s.heap ((r, W.listOf vs.toArray n) :: rest)) (hr : ∀ p ∈ rest, p.1 ≠ r) (hs : StrsAre vs (its.map lineOf)) (hk : k < its.length) (hl : its.length ≤ 8)
    (h : ∀ h' t us, Fr h₀ L h' m → News h₀ L h' ((r, W.listOf us.toArray (n + 1)) :: rest) → StrsAre us ((its.eraseIdx k).map lineOf) → Q (.str (lineOf (itAt its k)) t) { s with heap := h' }) :
    wpAny (model prog w) A (call (.builtin "list.pop") [.ref r, .int j u]) Q E s := by
  subst e
  have hvl : vs.length = its.length := by rw [strs_len hs, List.length_map]
  obtain ⟨t, e⟩ := strs_get hs (i := k) (by rw [List.length_map]; exact hk)
  rw [List.getElem_map, ← itAt_get hk] at e
  refine kl_popAt F N ?_ (k := k) ?_ (cut_at e) (Upd.head hr) (by show vs.length ≤ sizeLine; rw [sizeLine_eq]; omega) fun h' F' N' => h h' t _ F' N' ?_
  · simp only [Builtin.List.listFitsIndex, Bool.and_eq_true, decide_eq_true_eq]; omega
  · have e1 : (if (k : Int) < 0 then (k : Int) + (vs.toArray.size : Int) else (k : Int)) = (k : Int) := if_neg (by omega)
    unfold seqIndex?
    simp only [e1]
    rw [if_pos, Int.toNat_natCast]
    rw [List.size_toArray, hvl, Bool.and_eq_true, decide_eq_true_eq, decide_eq_true_eq]
    omega
  · rw [erase_map]
    exact strs_erase hs k
theorem len_R (N : News h₀ L s.heap news) (hm : (a, W.listOf vs.toArray n) ∈ news) (hs : StrsAre vs (its.map lineOf)) (hb : its.length ≤ 8)
    (h : ∀ t tk, Q (.int (its.length : Int) t) { s with toks := tk }) : wpAny (model prog w) A (call (.builtin "len") [.ref a]) Q E s :=
  len_S N hm hs (by rw [List.length_map]; omega) fun t tk => by rw [List.length_map]; exact h t tk
theorem len_H (N : News h₀ L s.heap news) (hm : (a, W.listOf us.toArray n) ∈ news) (hs : HAre sub us its) (hb : its.length ≤ 8)
    (h : ∀ t tk, Q (.int (its.length : Int) t) { s with toks := tk }) : wpAny (model prog w) A (call (.builtin "len") [.ref a]) Q E s := by
  have e : us.toArray.size = its.length := by rw [List.size_toArray, hare_len hs]
  exact len_list (mem_list N hm) (by rw [e]; omega) (e ▸ h _ _)
theorem item_H {value slice : PySem.Expr} {j : Int} {u : Tok} (k : Nat) (ej : j = (k : Int)) (N : News h₀ L s.heap news) (hm : (a, W.listOf us.toArray n) ∈ news) (hs : HAre sub us its) (hk : k < its.length) (hb : its.length ≤ 8)
    (h : ∀ t c1 c2 c3 nt, (t, tup3 (.int (itAt its k).1 c1) (.str (itAt its k).2.1 c2) (.int (itAt its k).2.2 c3) nt) ∈ sub → Q (.ref t) s)
    (he : subscripted slice false (.ref a) (.int j u) = operate [.ref a, .int j u] (getItem (.ref a) (.int j u)) := by with_unfolding_all rfl) :
    wpAny (model prog w) A (subscriptTail value slice (.ref a) (.int j u)) Q E s := by
  subst ej
  obtain ⟨t, c1, c2, c3, nt, e, hmt⟩ := hare_get hs hk
  rw [← itAt_get hk] at hmt
  exact tail_any (mem_list N hm).typeIs slot_list_getitem.lookup (wpAny_getItem_list (mem_list N hm) (by omega) (by omega) (by simpa using e) (h t c1 c2 c3 nt hmt)) he
theorem hare_erase (h : HAre sub us its) (k : Nat) : HAre sub (us.take k ++ us.drop (k + 1)) (its.eraseIdx k) := by
  rw [List.eraseIdx_eq_take_drop_succ]
  exact hare_app (hare_take h k) (hare_drop h (k + 1))
theorem slice_toI {value slice : PySem.Expr} {j : Int} {t : Tok} (k : Nat) (ej : j = (k : Int)) (F : Fr h₀ L s.heap m) (N : News h₀ L s.heap news) (hm : (a, W.listOf vs.toArray n) ∈ news) (hl : vs.length ≤ 1000)
    (h : ∀ D h', Fr h₀ L h' m → News h₀ L h' ((D, W.listOf (vs.take k).toArray 0) :: news) → (∀ p ∈ news, p.1 < D) → Q (.ref D) { s with heap := h' })
    (hs : subscripted slice false (.ref a) (.ref s.heap.objs.size) = operate [.ref s.heap.objs.size, .ref a] (getItem (.ref a) (.ref s.heap.objs.size))) (ht : ∀ r, letTemporaryGo value (.ref a) r = pure ()) :
    wpAny (model prog w) A (subscriptTail value slice (.ref a) (.ref s.heap.objs.size)) Q E { s with heap := s.heap.push { cls := .type "slice", data := .fields #[.none, .int j t, .none] } } := by
  subst ej
  exact slice_to F N hm hl h hs ht
theorem slice_froI {value slice : PySem.Expr} {j : Int} {t : Tok} (k : Nat) (ej : j = (k : Int)) (F : Fr h₀ L s.heap m) (N : News h₀ L s.heap news) (hm : (a, W.listOf vs.toArray n) ∈ news) (hl : vs.length ≤ 1000)
    (h : ∀ D h', Fr h₀ L h' m → News h₀ L h' ((D, W.listOf (vs.drop k).toArray 0) :: news) → (∀ p ∈ news, p.1 < D) → Q (.ref D) { s with heap := h' })
    (hs : subscripted slice false (.ref a) (.ref s.heap.objs.size) = operate [.ref s.heap.objs.size, .ref a] (getItem (.ref a) (.ref s.heap.objs.size))) (ht : ∀ r, letTemporaryGo value (.ref a) r = pure ()) :
    wpAny (model prog w) A (subscriptTail value slice (.ref a) (.ref s.heap.objs.size)) Q E { s with heap := s.heap.push { cls := .type "slice", data := .fields #[.int j t, .none, .none] } } := by
  subst ej
  exact slice_fro F N hm hl h hs ht
theorem len_low {x : Int} (N : News h₀ L s.heap news) (hm : (a, W.listOf vs.toArray n) ∈ news) (hs : StrsAre vs (((turn1 x its).map nameOf).filter fun q => ltS q (hueS x))) (hb : (turn1 x its).length ≤ 8)
    (h : ∀ t tk, Q (.int ((lowN x its : Nat) : Int) t) { s with toks := tk }) : wpAny (model prog w) A (call (.builtin "len") [.ref a]) Q E s :=
  len_S N hm hs (Nat.le_trans (List.length_filter_le _ _) (by rw [List.length_map]; omega)) h
theorem len_high {x : Int} (N : News h₀ L s.heap news) (hm : (a, W.listOf vs.toArray n) ∈ news) (hs : StrsAre vs (((turn1 x its).map nameOf).filter fun q => !ltS (hueS x) q)) (hb : (turn1 x its).length ≤ 8)
    (h : ∀ t tk, Q (.int ((highN x its : Nat) : Int) t) { s with toks := tk }) : wpAny (model prog w) A (call (.builtin "len") [.ref a]) Q E s :=
  len_S N hm hs (Nat.le_trans (List.length_filter_le _ _) (by rw [List.length_map]; omega)) h
theorem le_S {x y : Str} {t u : Tok} (h : Q (.bool (!ltS y x)) s) : wpAny (model prog w) A (compareOp .LtE (.str x t) (.str y u)) Q E s :=
  PySem.P.le_str h
theorem ne_pair {x y x' y' : Int} {t1 t2 t3 t4 : Tok} {k k' : Nat} (N : News h₀ L s.heap news) (ma : (a, W.listOf #[.int x t1, .int y t2] k) ∈ news) (mb : (b, W.listOf #[.int x' t3, .int y' t4] k') ∈ news) (e1 : x = x') (e2 : y = y') (hu : A.units + 64 < cLine)
    (h : Q (.bool false) s) : wpAny (model prog w) A (compareOp .NotEq (.ref a) (.ref b)) Q E s := by
  subst e1 e2
  refine ne_ints2 (vs := [.int x t1, .int y t2]) (us := [.int x t3, .int y t4]) (ns := [x, y]) (ms := [x, y]) N ma mb (.cons x _ (.cons y _ .nil)) (.cons x _ (.cons y _ .nil)) hu ?_
  rw [dec_yes _ rfl]
  exact h
end
/-- the ledger, cut down to what is needed -/
theorem news_of2 {h₀ h : Heap} {L : Addr} {e1 e2 : Addr × Obj} {R l : List (Addr × Obj)} (N : News h₀ L h l) (m1 : e1 ∈ l) (m2 : e2 ∈ l) (hR : ∀ p ∈ R, p ∈ l) : News h₀ L h (e1 :: e2 :: R) := fun p hp => N p (by
  rcases List.mem_cons.mp hp with rfl | hp
  · exact m1
  rcases List.mem_cons.mp hp with rfl | hp
  · exact m2
  exact hR p hp)
theorem news_of4 {h₀ h : Heap} {L : Addr} {e1 e2 e3 e4 : Addr × Obj} {R l : List (Addr × Obj)} (N : News h₀ L h l) (m1 : e1 ∈ l) (m2 : e2 ∈ l) (m3 : e3 ∈ l) (m4 : e4 ∈ l) (hR : ∀ p ∈ R, p ∈ l) : News h₀ L h (e1 :: e2 :: e3 :: e4 :: R) := fun p hp => N p (by
  rcases List.mem_cons.mp hp with rfl | hp
  · exact m1
  rcases List.mem_cons.mp hp with rfl | hp
  · exact m2
  rcases List.mem_cons.mp hp with rfl | hp
  · exact m3
  rcases List.mem_cons.mp hp with rfl | hp
  · exact m4
  exact hR p hp)
end
section
open PySem.Spec PySem.Calls LCg LCp LCt
theorem strs_map_app {ys : List Value} {its : List Item} {i : Nat} {f : Item → Str} {r : Str} {t : Tok} (hlt : i < its.length) (hy : StrsAre ys ((its.take i).map f)) (hr : r = f (its[i])) : StrsAre (ys ++ [.str r t]) ((its.take (i + 1)).map f) := by
  subst hr
  rw [List.take_add_one, List.getElem?_eq_getElem hlt, List.map_append]
  exact strs_app hy (.cons _ _ .nil)
theorem dats_map_app {nw : List (Addr × Obj)} {ys : List Value} {its : List Item} {i : Nat} {g : Item → Dat} {r : Value} (hlt : i < its.length) (hy : DatAll nw ys ((its.take i).map g)) (hr : DatIn nw r (g its[i])) : DatAll nw (ys ++ [r]) ((its.take (i + 1)).map g) := by
  rw [List.take_add_one, List.getElem?_eq_getElem hlt, List.map_append]
  exact hy.append (.cons hr .nil)
section
variable {prog : Program} {w : World} {A : Around} {h₀ : Heap} {L : Addr} {m : Str → Option Value} {env : Env} {elt ct : Expr} {x y z : Str} {scope : Scope} {cl : List (Str × Addr)} {s : Shared} {S : List (Addr × Obj) → Prop} {Fin : List Value → List (Addr × Obj) → Prop} {news : List (Addr × Obj)}
noncomputable def EltD (news : List (Addr × Obj)) (d : Dat) (r : Value) (news' : List (Addr × Obj)) : Prop := (∀ p ∈ news, p ∈ news') ∧ DatIn news' r d
/-- a comprehension over the lines of the row, its element a text -/
theorem rest_lines {vs : List Value} {its : List Item} (f : Item → Str) (good : Item → Prop) (hv : StrsAre vs (its.map lineOf)) (hg : ∀ p ∈ its, good p)
    (turn : ∀ (p : Item) t I oI C oC D m₂ ys h tk (E' : Value → Shared → Prop), good p → NsObj oC m₂ → m₂ x = some (.str (lineOf p) t) → Fr h₀ L h m → News h₀ L h ((I, oI) :: (C, oC) :: (D, lst ys) :: news) → Off3 I C D news → ((@Ne Nat I C) ∧ (@Ne Nat I D) ∧ (@Ne Nat C D)) →
      wpAny (model prog w) A (eval elt (compEnvC scope cl C env)) (CompEnd h₀ L m { s with heap := h, toks := tk } I oI C oC D (lst ys) S (fun r news' => EltS news (f p) r news')) E' { s with heap := h, toks := tk })
    (fin : ∀ ys, StrsAre ys (its.map f) → Fin ys news) : CompRest prog w A h₀ L m env elt x scope cl s S (fun i v => vs.toArray[i]? = some v) Fin vs.toArray.size 0 [] news := by
  have key : ∀ (j i : Nat) (ys : List Value), i + j = its.length → StrsAre ys ((its.take i).map f) → CompRest prog w A h₀ L m env elt x scope cl s S (fun i v => vs.toArray[i]? = some v) Fin j i ys news := by
    intro j
    induction j with
    | zero =>
      intro i ys hi hy
      rw [show i = its.length by omega, List.take_length] at hy
      exact CompRest.zero (fin ys hy)
    | succ j ih =>
      intro i ys hi hy
      have hlt : i < its.length := by omega
      obtain ⟨t, e⟩ := strs_get hv (i := i) (by rw [List.length_map]; exact hlt)
      rw [List.getElem_map] at e
      refine CompRest.succ ?_
      intro v I oI C oC D m₂ h tk E' hP hC h1 F N off ne
      have hv' : v = .str (lineOf its[i]) t := by
        have : vs[i]? = some v := by simpa using hP
        rw [e] at this; exact (Option.some.inj this).symm
      subst hv'
      refine wpAny_mono (turn _ t I oI C oC D m₂ ys h tk E' (hg _ (List.getElem_mem hlt)) hC h1 F N off ne) (fun r s₂ hq => cmpEnd_mono hq fun nw hE hS => ?_) fun _ _ e => e
      obtain ⟨hn, t', hr⟩ := hE
      subst hn
      subst hr
      exact ih (i + 1) _ (by omega) (strs_map_app hlt hy rfl)
  have e : vs.toArray.size = its.length := by rw [List.size_toArray, strs_len hv, List.length_map]
  rw [e]
  exact key its.length 0 [] (by omega) .nil
/-- a comprehension over the lines of the row, its element a new object -/
theorem rest_linesD {vs : List Value} {its : List Item} (g : Item → Dat) (good : Item → Prop) (hv : StrsAre vs (its.map lineOf)) (hg : ∀ p ∈ its, good p) (hS0 : S news)
    (turn : ∀ (p : Item) t (nw : List (Addr × Obj)) I oI C oC D m₂ ys h tk (E' : Value → Shared → Prop), good p → (∀ q ∈ news, q ∈ nw) → S nw → NsObj oC m₂ → m₂ x = some (.str (lineOf p) t) → Fr h₀ L h m → News h₀ L h ((I, oI) :: (C, oC) :: (D, lst ys) :: nw) → Off3 I C D nw → ((@Ne Nat I C) ∧ (@Ne Nat I D) ∧ (@Ne Nat C D)) →
      wpAny (model prog w) A (eval elt (compEnvC scope cl C env)) (CompEnd h₀ L m { s with heap := h, toks := tk } I oI C oC D (lst ys) S (fun r news' => EltD nw (g p) r news')) E' { s with heap := h, toks := tk })
    (fin : ∀ ys nw, (∀ q ∈ news, q ∈ nw) → DatAll nw ys (its.map g) → Fin ys nw) : CompRest prog w A h₀ L m env elt x scope cl s S (fun i v => vs.toArray[i]? = some v) Fin vs.toArray.size 0 [] news := by
  have key : ∀ (j i : Nat) (ys : List Value) (nw : List (Addr × Obj)), i + j = its.length → (∀ q ∈ news, q ∈ nw) → S nw → DatAll nw ys ((its.take i).map g) → CompRest prog w A h₀ L m env elt x scope cl s S (fun i v => vs.toArray[i]? = some v) Fin j i ys nw := by
    intro j
    induction j with
    | zero =>
      intro i ys nw hi hn hs hy
      rw [show i = its.length by omega, List.take_length] at hy
      exact CompRest.zero (fin ys nw hn hy)
    | succ j ih =>
      intro i ys nw hi hn hs hy
      have hlt : i < its.length := by omega
      obtain ⟨t, e⟩ := strs_get hv (i := i) (by rw [List.length_map]; exact hlt)
      rw [List.getElem_map] at e
      refine CompRest.succ ?_
      intro v I oI C oC D m₂ h tk E' hP hC h1 F N off ne
      have hv' : v = .str (lineOf its[i]) t := by
        have : vs[i]? = some v := by simpa using hP
        rw [e] at this; exact (Option.some.inj this).symm
      subst hv'
      refine wpAny_mono (turn _ t nw I oI C oC D m₂ ys h tk E' (hg _ (List.getElem_mem hlt)) hn hs hC h1 F N off ne) (fun r s₂ hq => cmpEnd_mono hq fun nw' hE hS => ?_) fun _ _ e => e
      have hsub := hE.1
      have hr := hE.2
      exact ih (i + 1) _ nw' (by omega) (fun q hq => hsub q (hn q hq)) hS (dats_map_app hlt (DatAll.mono hsub hy) hr)
  have e : vs.toArray.size = its.length := by rw [List.size_toArray, strs_len hv, List.length_map]
  rw [e]
  exact key its.length 0 [] news (by omega) (fun _ h => h) hS0 .nil
/-- a comprehension over the held tuples, its element a new object -/
theorem rest3_dat {vs : List Value} {its : List Item} (g : Item → Dat) (good : Item → Prop) (hv : HAre news vs its) (hg : ∀ p ∈ its, good p) (hS0 : S news)
    (turn : ∀ (p : Item) t1 t2 t3 (nw : List (Addr × Obj)) I oI C oC D m₂ ys h tk (E' : Value → Shared → Prop), good p → (∀ q ∈ news, q ∈ nw) → S nw → NsObj oC m₂ → m₂ x = some (.int p.1 t1) → m₂ y = some (.str p.2.1 t2) → m₂ z = some (.int p.2.2 t3) → Fr h₀ L h m → News h₀ L h ((I, oI) :: (C, oC) :: (D, lst ys) :: nw) → Off3 I C D nw → ((@Ne Nat I C) ∧ (@Ne Nat I D) ∧ (@Ne Nat C D)) →
      wpAny (model prog w) A (eval elt (compEnvC scope cl C env)) (CompEnd h₀ L m { s with heap := h, toks := tk } I oI C oC D (lst ys) S (fun r news' => EltD nw (g p) r news')) E' { s with heap := h, toks := tk })
    (fin : ∀ ys nw, (∀ q ∈ news, q ∈ nw) → DatAll nw ys (its.map g) → Fin ys nw) : Rest3 prog w A h₀ L m env elt x y z scope cl s S vs.toArray Fin vs.toArray.size 0 [] news := by
  have key : ∀ (j i : Nat) (ys : List Value) (nw : List (Addr × Obj)), i + j = its.length → (∀ q ∈ news, q ∈ nw) → S nw → DatAll nw ys ((its.take i).map g) → Rest3 prog w A h₀ L m env elt x y z scope cl s S vs.toArray Fin j i ys nw := by
    intro j
    induction j with
    | zero =>
      intro i ys nw hi hn hs hy
      rw [show i = its.length by omega, List.take_length] at hy
      exact fin ys nw hn hy
    | succ j ih =>
      intro i ys nw hi hn hs hy
      have hlt : i < its.length := by omega
      obtain ⟨t, a, b, d, nt, e, hm⟩ := hare_get hv hlt
      refine ⟨t, _, _, _, nt, by simpa using e, hn _ hm, ?_⟩
      intro I oI C oC D m₂ h tk E' hC h1 h2 h3 F N off ne
      refine wpAny_mono (turn _ _ _ _ nw I oI C oC D m₂ ys h tk E' (hg _ (List.getElem_mem hlt)) hn hs hC h1 h2 h3 F N off ne) (fun r s₂ hq => cmpEnd_mono hq fun nw' hE hS => ?_) fun _ _ e => e
      have hsub := hE.1
      have hr := hE.2
      exact ih (i + 1) _ nw' (by omega) (fun q hq => hsub q (hn q hq)) hS (dats_map_app hlt (DatAll.mono hsub hy) hr)
  have e : vs.toArray.size = its.length := by rw [List.size_toArray, hare_len hv]
  rw [e]
  exact key its.length 0 [] news (by omega) (fun _ h => h) hS0 .nil
end
noncomputable def rgbD (p : Item) : Dat := .list [.int (rd p.1), .int (gn p.1), .int (bl p.1)]
/-- a new list of three on top of the ledger -/
noncomputable def IsRgb (x : Int) (news : List (Addr × Obj)) : Post := fun v n => ∃ (a : Addr) (t1 t2 t3 : Tok) (c : Nat), v = .ref a ∧ n = (a, W.listOf #[.int (rd x) t1, .int (gn x) t2, .int (bl x) t3] c) :: news ∧ ∀ p ∈ news, p.1 ≠ a
section
variable {D U : Nat} {w : World} {mean : ExcName → Option Value} {mg mb : Str → Option Value} {f : Addr} {vs : List Value} {kw : List (Str × Value)} {news : List (Addr × Obj)} {dp un : Nat} {gd : Option (List Code)} {cn : Str} {cs : Scope} {a : Addr} {ccd : Value} {cl : List (Str × Addr)} {outer : List Env} {A₀ : Around} {base h₀ : Heap} {L : Addr} {m : Str → Option Value} {s : Shared} {Q E : Value → Shared → Prop}
theorem does_Rgb {x : Int} (B : Below A₀ base outer h₀) (F : Fr h₀ L s.heap m) (X : (hd.heap_39 w.params).In h₀) (N : News h₀ L s.heap news) (T : Top hd.view_39 LS mean mg mb h₀) (hk : cs.kind = .function) (C : Does D U w mean mg mb f vs kw news (IsRgb x news))
    (h1 : dp + D < recursionLimit) (h2 : un + U < cLine)
    (ret : ∀ (b : Addr) (t1 t2 t3 : Tok) (c : Nat) (h' : Heap) (tk' : Nat), Fr h₀ L h' m → News h₀ L h' ((b, W.listOf #[.int (rd x) t1, .int (gn x) t2, .int (bl x) t3] c) :: news) → (∀ p ∈ news, p.1 ≠ b) → Q (.ref b) { s with heap := h', toks := tk' }) : wpAny (model Challenge.rw_pg0185_01.row.prog w) (ktrTop dp un gd cn cs L a ccd cl outer) (call (.ref f) vs kw) Q E s :=
  does_use C B F X N T hk h1 h2 fun v n h' tk' F' N' hp => by
    obtain ⟨b, t1, t2, t3, c, rfl, rfl, o⟩ := hp
    exact ret b t1 t2 t3 c h' tk' F' N' o
end
theorem colour_law (w : World) (mean mg mb) (x : Int) (t : Tok) (news) : Does 1 8 w mean mg mb 85 [.int x t] [] news (IsRgb x news) := by
  intro dp un gd cn cs a ccd cl outer A₀ base h₀ L m s Q E B F X N T hk hd hu hret
  refine colour_does w mean mg mb x t news dp un gd cn cs a ccd cl outer A₀ base h₀ L m s Q E B F X N T hk hd hu fun v n h' tk' F' N' hp => ?_
  obtain ⟨b, t1, t2, t3, rfl, rfl, hlt⟩ := hp
  exact hret _ _ h' tk' F' N' ⟨b, t1, t2, t3, 0, rfl, rfl, fun p hp => Nat.ne_of_lt (hlt p hp)⟩
theorem read_law (w : World) (mean mg mb) (n : Nat) (p : Item) (hp : Ok n p) (hn : n ≤ 8) (t : Tok) (news) : Does 3 24 w mean mg mb 109 [.str (lineOf p) t] [] news (IsRgb p.1 news) := by
  have hr := read_line w mean mg mb p.1 p.2.2 hp.2.2.2.1 (by have := hp.2.2.2.2; omega) t news
  rw [← hp.1] at hr
  intro dp un gd cn cs a ccd cl outer A₀ base h₀ L m s Q E B F X N T hk hd hu hret
  refine hr dp un gd cn cs a ccd cl outer A₀ base h₀ L m s Q E B F X N T hk hd hu fun v n h' tk' F' N' hq => ?_
  obtain ⟨b, t1, t2, t3, c, n', rfl, rfl, hs, hlt⟩ := hq
  refine hret _ _ h' tk' F' (fun p hp => N' p ?_) ⟨b, t1, t2, t3, c, rfl, rfl, fun p hp => hlt p (hs p hp)⟩
  rcases List.mem_cons.mp hp with rfl | hp
  · exact List.mem_cons_self
  · exact List.mem_cons_of_mem _ (hs p hp)
theorem rgb_end {h₀ : Heap} {L I C D a : Addr} {m : Str → Option Value} {s₁ : Shared} {oI oC oD : Obj} {S : List (Addr × Obj) → Prop} {h' : Heap} {tk : Nat} {nw : List (Addr × Obj)} {p : Item} {t1 t2 t3 : Tok} {c : Nat}
    (F : Fr h₀ L h' m) (N : News h₀ L h' ((a, W.listOf #[.int (rd p.1) t1, .int (gn p.1) t2, .int (bl p.1) t3] c) :: (I, oI) :: (C, oC) :: (D, oD) :: nw)) (off : Off3 I C D nw) (ha : ∀ q ∈ (I, oI) :: (C, oC) :: (D, oD) :: nw, q.1 ≠ a)
    (hS : ∀ o, S ((a, o) :: nw)) :
    CompEnd h₀ L m s₁ I oI C oC D oD S (fun r news' => EltD nw (rgbD p) r news') (.ref a) { s₁ with heap := h', toks := tk } := by
  refine CompEnd.intro F N ((a, W.listOf #[.int (rd p.1) t1, .int (gn p.1) t2, .int (bl p.1) t3] c) :: nw) (fun q hq => ?_) ⟨⟨?_, ?_, ?_⟩, off⟩ (hS _) ⟨fun q hq => .tail _ hq, .list (vs := [.int (rd p.1) t1, .int (gn p.1) t2, .int (bl p.1) t3]) (.head _) (.cons (.int _ _) (.cons (.int _ _) (.cons (.int _ _) .nil)))⟩
  · rcases List.mem_cons.mp hq with rfl | hq
    · exact .tail _ (.head _)
    rcases List.mem_cons.mp hq with rfl | hq
    · exact .tail _ (.tail _ (.head _))
    rcases List.mem_cons.mp hq with rfl | hq
    · exact .tail _ (.tail _ (.tail _ (.head _)))
    rcases List.mem_cons.mp hq with rfl | hq
    · exact .head _
    · exact .tail _ (.tail _ (.tail _ (.tail _ hq)))
  · exact Ne.symm (ha (I, oI) (.head _))
  · exact Ne.symm (ha (C, oC) (.tail _ (.head _)))
  · exact Ne.symm (ha (D, oD) (.tail _ (.tail _ (.head _))))
theorem rgb_ok (its : List Item) : ∀ d ∈ its.map rgbD, kqdOk 8 d = true := fun d hd => by
  obtain ⟨p, _, rfl⟩ := List.mem_map.mp hd
  rfl
end
section
open PySem.Spec PySem.Calls
noncomputable def RowMid (h₀ : Heap) (L : Addr) (s : Shared) (m : Str → Option Value) (r : Addr) (base : List (Addr × Obj)) (its : List Item) (s' : Shared) : Prop :=
  ∃ (h' : Heap) (tk : Nat) (vs : List Value) (k : Nat), s' = { s with heap := h', toks := tk } ∧ Fr h₀ L h' m ∧ News h₀ L h' ((r, W.listOf vs.toArray k) :: base) ∧ StrsAre vs (its.map lineOf)
section
variable {M : Model} {A : Around} {E : Value → Shared → Prop} {Q : Flow → Shared → Prop} {s : Shared} {env : Env} {st : Stmt} {h₀ h' : Heap} {L r c9 : Addr} {m m' m₁ : Str → Option Value} {or : Obj} {e1 e2 : Addr × Obj} {base rest own new all : List (Addr × Obj)} {its : List Item} {tk k : Nat} {vs us : List Value} {dv ov : Value}
theorem row_cut (its : List Item) (F : Fr h₀ L s.heap m) (N : News h₀ L s.heap ((r, or) :: base)) (h1 : wpAny M A (exec st env) (CutEnd (RowMid h₀ L s m r base its)) E s)
    (h2 : ∀ h' tk vs k, Fr h₀ L h' m → News h₀ L h' ((r, W.listOf vs.toArray k) :: base) → StrsAre vs (its.map lineOf) → Q .next { s with heap := h', toks := tk }) : wpAny M A (exec st env) Q E s :=
  wpAny_mono h1 (fun f s' h => by
    obtain ⟨rfl, h', tk, vs, k, rfl, F', N', hS⟩ := h
    exact h2 h' tk vs k F' N' hS) fun _ _ e => e
theorem row_end (F : Fr h₀ L h' m) (N : News h₀ L h' ((r, W.listOf vs.toArray k) :: base)) (hS : StrsAre vs (its.map lineOf)) :
    CutEnd (RowMid h₀ L s m r base its) .next { s with heap := h', toks := tk } := ⟨rfl, h', tk, vs, k, rfl, F, N, hS⟩
noncomputable abbrev HeldFr (r hd9 : Addr) (dv ov : Value) (m₁ : Str → Option Value) : Str → Option Value := fun y => if y = Str.ofString "row" then some (.ref r) else if y = Str.ofString "held" then some (.ref hd9) else if y = Str.ofString "deed" then some dv else if y = Str.ofString "others" then some ov else m₁ y
theorem heldFr_of {hd9 : Addr} (h1 : m (Str.ofString "row") = some (.ref r)) (h2 : m (Str.ofString "held") = some (.ref hd9)) (h3 : m (Str.ofString "deed") = some dv) (h4 : m (Str.ofString "others") = some ov) : m = HeldFr r hd9 dv ov m := by
  funext y
  show _ = if y = Str.ofString "row" then _ else if y = Str.ofString "held" then _ else if y = Str.ofString "deed" then _ else if y = Str.ofString "others" then _ else _
  by_cases e1 : y = Str.ofString "row"
  · rw [if_pos e1, e1]; exact h1
  rw [if_neg e1]
  by_cases e2 : y = Str.ofString "held"
  · rw [if_pos e2, e2]; exact h2
  rw [if_neg e2]
  by_cases e3 : y = Str.ofString "deed"
  · rw [if_pos e3, e3]; exact h3
  rw [if_neg e3]
  by_cases e4 : y = Str.ofString "others"
  · rw [if_pos e4, e4]; exact h4
  rw [if_neg e4]
noncomputable def NewOff (r c9 : Addr) (own new : List (Addr × Obj)) : Prop := ∀ p ∈ new, p.1 ≠ r ∧ p.1 ≠ c9 ∧ ∀ q ∈ own, q.1 ≠ p.1
noncomputable def HeldMid (h₀ : Heap) (L : Addr) (s : Shared) (e1 e2 : Addr × Obj) (rest own : List (Addr × Obj)) (dv ov : Value) (its : List Item) (s' : Shared) : Prop :=
  ∃ (h' : Heap) (tk : Nat) (m₁ : Str → Option Value) (hd9 : Addr) (us : List Value) (kk : Nat) (new : List (Addr × Obj)), s' = { s with heap := h', toks := tk } ∧ Fr h₀ L h' (HeldFr e1.1 hd9 dv ov m₁) ∧
    News h₀ L h' (e1 :: e2 :: (new ++ (rest ++ own))) ∧ (hd9, W.listOf us.toArray kk) ∈ new ++ rest ∧ HAre (new ++ rest) us its ∧ NewOff e1.1 e2.1 own new
theorem held_cut (its : List Item) (F : Fr h₀ L s.heap m) (g3 : m (Str.ofString "deed") = some dv) (g4 : m (Str.ofString "others") = some ov) (N : News h₀ L s.heap (e1 :: e2 :: (new ++ (rest ++ own)))) (h1 : wpAny M A (exec st env) (CutEnd (HeldMid h₀ L s e1 e2 rest own dv ov its)) E s)
    (h2 : ∀ h' tk m₁ hd9 us kk new, Fr h₀ L h' (HeldFr e1.1 hd9 dv ov m₁) → News h₀ L h' (e1 :: e2 :: (new ++ (rest ++ own))) → (hd9, W.listOf us.toArray kk) ∈ new ++ rest → HAre (new ++ rest) us its → NewOff e1.1 e2.1 own new → Q .next { s with heap := h', toks := tk }) : wpAny M A (exec st env) Q E s :=
  wpAny_mono h1 (fun f s' h => by
    obtain ⟨rfl, h', tk, m₁, hd9, us, kk, new, rfl, F', N', a, b, c⟩ := h
    exact h2 h' tk m₁ hd9 us kk new F' N' a b c) fun _ _ e => e
theorem held_end0 {hd9 : Addr} {kk : Nat} (F : Fr h₀ L h' m) (g1 : m (Str.ofString "row") = some (.ref e1.1)) (g2 : m (Str.ofString "held") = some (.ref hd9)) (g3 : m (Str.ofString "deed") = some dv) (g4 : m (Str.ofString "others") = some ov)
    (N : News h₀ L h' (e1 :: e2 :: (new ++ (rest ++ own)))) (hm : (hd9, W.listOf us.toArray kk) ∈ new ++ rest) (hA : HAre (new ++ rest) us its) (hn : NewOff e1.1 e2.1 own new) :
    CutEnd (HeldMid h₀ L s e1 e2 rest own dv ov its) .next { s with heap := h', toks := tk } := by
  rw [heldFr_of g1 g2 g3 g4] at F
  exact ⟨rfl, h', tk, m, hd9, us, kk, new, rfl, F, N, hm, hA, hn⟩
theorem newOff_cons {own new nw : List (Addr × Obj)} {D tp : Addr} {od ot : Obj} (o1 : ∀ p ∈ (tp, ot) :: nw, p.1 ≠ D) (o2 : ∀ p ∈ nw, p.1 ≠ tp) (w1 : e1 ∈ nw) (w2 : e2 ∈ nw) (w3 : ∀ p ∈ own, p ∈ nw) (hn : NewOff e1.1 e2.1 own new) : NewOff e1.1 e2.1 own ((D, od) :: (tp, ot) :: new) := by
  intro p hp
  rcases List.mem_cons.mp hp with rfl | hp
  · exact ⟨Ne.symm (o1 e1 (.tail _ w1)), Ne.symm (o1 e2 (.tail _ w2)), fun q hq => o1 q (.tail _ (w3 q hq))⟩
  rcases List.mem_cons.mp hp with rfl | hp
  · exact ⟨Ne.symm (o2 e1 w1), Ne.symm (o2 e2 w2), fun q hq => o2 q (w3 q hq)⟩
  exact hn p hp
theorem newOff_nil (r c9 : Addr) (own : List (Addr × Obj)) : NewOff r c9 own [] := fun _ h => (nomatch h)
theorem held_end1 {D tp : Addr} {ot : Obj} {kk : Nat} {nw : List (Addr × Obj)} (F : Fr h₀ L h' m) (g1 : m (Str.ofString "row") = some (.ref e1.1)) (g2 : m (Str.ofString "held") = some (.ref D)) (g3 : m (Str.ofString "deed") = some dv) (g4 : m (Str.ofString "others") = some ov)
    (N : News h₀ L h' ((D, W.listOf us.toArray kk) :: (tp, ot) :: nw)) (w1 : e1 ∈ nw) (w2 : e2 ∈ nw) (w3 : ∀ p ∈ new ++ (rest ++ own), p ∈ nw) (o1 : ∀ p ∈ (tp, ot) :: nw, p.1 ≠ D) (o2 : ∀ p ∈ nw, p.1 ≠ tp)
    (hA : HAre ((tp, ot) :: (new ++ rest)) us its) (hn : NewOff e1.1 e2.1 own new) :
    CutEnd (HeldMid h₀ L s e1 e2 rest own dv ov its) .next { s with heap := h', toks := tk } := by
  rw [heldFr_of g1 g2 g3 g4] at F
  refine ⟨rfl, h', tk, m, D, us, kk, (D, W.listOf us.toArray kk) :: (tp, ot) :: new, rfl, F, fun p hp => N p ?_, .head _, hare_mono (fun p hp => .tail _ hp) hA, newOff_cons o1 o2 w1 w2 (fun p hp => w3 p (List.mem_append.mpr (.inr (List.mem_append.mpr (.inr hp))))) hn⟩
  rcases List.mem_cons.mp hp with rfl | hp
  · exact .tail _ (.tail _ w1)
  rcases List.mem_cons.mp hp with rfl | hp
  · exact .tail _ (.tail _ w2)
  rcases List.mem_cons.mp hp with rfl | hp
  · exact .head _
  rcases List.mem_cons.mp hp with rfl | hp
  · exact .tail _ (.head _)
  exact .tail _ (.tail _ (w3 p hp))
end
theorem news_swap {h₀ h : Heap} {L : Addr} {a b : Addr × Obj} {l : List (Addr × Obj)} (N : News h₀ L h (a :: b :: l)) : News h₀ L h (b :: a :: l) := fun p hp => N p (by
  rcases List.mem_cons.mp hp with rfl | hp
  · exact .tail _ (.head _)
  · rcases List.mem_cons.mp hp with rfl | hp
    · exact .head _
    · exact .tail _ (.tail _ hp))
theorem news_like {h₀ h1 h : Heap} {L r c9 : Addr} {o1 o2 oc : Obj} {R l : List (Addr × Obj)} {vs : List Value} {k : Nat} (_ : News h₀ L h1 ((r, o1) :: (c9, o2) :: R)) (N : News h₀ L h l) (m1 : (r, W.listOf vs.toArray k) ∈ l) (m2 : (c9, oc) ∈ l) (hR : ∀ p ∈ R, p ∈ l) : News h₀ L h ((r, W.listOf vs.toArray k) :: (c9, oc) :: R) := news_of2 N m1 m2 hR
theorem sub_two {e : Addr × Obj} {l l' : List (Addr × Obj)} (h1 : e ∈ l') (h2 : ∀ p ∈ l, p ∈ l') : ∀ p ∈ e :: l, p ∈ l' := fun p hp => by
  rcases List.mem_cons.mp hp with rfl | hp
  · exact h1
  · exact h2 p hp
theorem held_start {h₀ h1 h : Heap} {L r c9 D tp : Addr} {o1 o2 or oc ot : Obj} {rest own l : List (Addr × Obj)} {us : List Value} {kk : Nat} {its : List Item} (_ : News h₀ L h1 ((r, o1) :: (c9, o2) :: (rest ++ own))) (N : News h₀ L h l)
    (o19 : ∀ p ∈ (tp, ot) :: (r, or) :: (c9, oc) :: (rest ++ own), p.1 ≠ D) (o29 : ∀ p ∈ (r, or) :: (c9, oc) :: (rest ++ own), p.1 ≠ tp) (hA : HAre ((tp, ot) :: rest) us its) (m3 : (D, W.listOf us.toArray kk) ∈ l) (m4 : (tp, ot) ∈ l) (m1 : (r, or) ∈ l) (m2 : (c9, oc) ∈ l) (hR : ∀ p ∈ rest ++ own, p ∈ l) :
    ∃ new, News h₀ L h ((r, or) :: (c9, oc) :: (new ++ (rest ++ own))) ∧ (D, W.listOf us.toArray kk) ∈ new ++ rest ∧ HAre (new ++ rest) us its ∧ NewOff r c9 own new :=
  ⟨[(D, W.listOf us.toArray kk), (tp, ot)], news_of4 N m1 m2 m3 m4 hR, .head _, hare_mono (fun p hp => .tail _ hp) hA,
    newOff_cons (e1 := (r, or)) (e2 := (c9, oc)) o19 o29 (.head _) (.tail _ (.head _)) (fun p hp => .tail _ (.tail _ (List.mem_append.mpr (.inr hp)))) (newOff_nil r c9 own)⟩
section
variable {prog : Program} {w : World} {A : Around} {E : Value → Shared → Prop} {s : Shared} {Q : Value → Shared → Prop} {h₀ : Heap} {L a : Addr} {news sub big : List (Addr × Obj)} {us : List Value} {its : List Item} {n : Nat}
theorem item_B {value slice : PySem.Expr} {j : Int} {u : Tok} (k : Nat) (ej : j = (k : Int)) (N : News h₀ L s.heap news) (hm : (a, W.listOf us.toArray n) ∈ news) (hs : HAre sub us its) (hb : ∀ p ∈ sub, p ∈ big) (hk : k < its.length) (hl : its.length ≤ 8)
    (h : ∀ t c1 c2 c3 nt, (t, tup3 (.int (itAt its k).1 c1) (.str (itAt its k).2.1 c2) (.int (itAt its k).2.2 c3) nt) ∈ big → Q (.ref t) s)
    (he : subscripted slice false (.ref a) (.int j u) = operate [.ref a, .int j u] (getItem (.ref a) (.int j u)) := by with_unfolding_all rfl) :
    wpAny (model prog w) A (subscriptTail value slice (.ref a) (.int j u)) Q E s := item_H k ej N hm hs hk hl (fun t c1 c2 c3 nt hmt => h t c1 c2 c3 nt (hb _ hmt)) he
theorem hare_eraseH (h : HAre sub us its) {k : Nat} (hk : 0 < k) : HAre sub (us.take (k - 1) ++ us.drop k) (its.eraseIdx (k - 1)) := by
  have := hare_erase h (k - 1)
  rwa [Nat.sub_add_cancel hk] at this
end
theorem sub_left (a b : List (Addr × Obj)) : ∀ p ∈ a, p ∈ a ++ b := fun p hp => List.mem_append.mpr (.inl hp)
theorem sub_right (a b : List (Addr × Obj)) : ∀ p ∈ b, p ∈ a ++ b := fun p hp => List.mem_append.mpr (.inr hp)
theorem sub_new (a b c : List (Addr × Obj)) : ∀ p ∈ a ++ b, p ∈ a ++ (b ++ c) := fun p hp => by rw [← List.append_assoc]; exact sub_left _ _ p hp
end
section
theorem strip_law (w : World) (mean mg mb) (n : Nat) (p : Item) (hp : Ok n p) (hn : n ≤ 8) (t : Tok) (news) : Does 1 8 w mean mg mb 28 [.str (lineOf p) t] [] news (IsS (nameOf p) news) := by
  have := strip_does w mean mg mb (lineOf p) (by have := hp.le hn; omega) t news
  rw [hp.name hn] at this
  exact this
theorem turn_end {h₀ h' : Heap} {L r c9 hd9 : Addr} {s : Shared} {rest own new all : List (Addr × Obj)} {n tk k kk : Nat} {m' : Str → Option Value} {vs us : List Value} {oc : Obj} {v0 : Option Value} {its : List Item}
    (F : Fr h₀ L h' m') (g1 : m' (Str.ofString "row") = some (.ref r)) (g2 : m' (Str.ofString "held") = some (.ref hd9)) (N : News h₀ L h' all) (w1 : (r, W.listOf vs.toArray k) ∈ all) (w2 : (c9, oc) ∈ all) (w3 : ∀ p ∈ new ++ (rest ++ own), p ∈ all) (hoc : oc.data = .cell v0)
    (hm : (hd9, W.listOf us.toArray kk) ∈ new ++ rest) (hA : HAre (new ++ rest) us its) (hS : StrsAre vs (its.map lineOf)) (hI : Inv n its) (hl : its.length = n) (hn : NewOff r c9 own new) : TurnEnd h₀ L s r c9 rest own n .next { s with heap := h', toks := tk } :=
  ⟨rfl, h', tk, m', vs, us, k, kk, oc, v0, hd9, its, new, rfl, F, news_of2 N w1 w2 w3, hoc, hm, hA, hS, hI, hl, hn, g1, g2⟩
end
section
theorem all4 {e1 e2 e3 e4 : Addr × Obj} {l : List (Addr × Obj)} (h1 : e1 ∈ l) (h2 : e2 ∈ l) (h3 : e3 ∈ l) (h4 : e4 ∈ l) : ∀ p ∈ [e1, e2, e3, e4], p ∈ l := by
  intro p hp
  simp only [List.mem_cons, List.not_mem_nil, or_false] at hp
  rcases hp with rfl | rfl | rfl | rfl <;> assumption
theorem mod_in (l : List Int) : ∀ n ∈ l.map (fun k' => k'.fmod (10 ^ Int.toNat 6)), 0 ≤ n ∧ n < 1000000 := by
  intro n hn
  obtain ⟨k, _, rfl⟩ := List.mem_map.mp hn
  exact ⟨Int.fmod_nonneg_of_pos k (by decide), Int.fmod_lt_of_pos k (by decide)⟩
theorem mod_len (l : List Int) (f : Int → Int) : ((l.take 4 ++ [35640, 349920, 721665, 395855]).map f).length ≤ 8 := by
  rw [List.length_map, List.length_append, List.length_take]
  show min 4 l.length + 4 ≤ 8
  omega
theorem hare_of {h₀ h : Heap} {L : Addr} {l sub : List (Addr × Obj)} {vs : List Value} {its : List Item} (N : News h₀ L h l) (hv : HAre sub vs its) (hs : ∀ p ∈ sub, p ∈ l) : HAre l vs its := hare_mono hs hv
theorem srcAt_more {h₀ : Heap} {ax : Addr} {its : Array Value} {nw : List (Addr × Obj)} {e : Addr × Obj} (h : LCg.SrcAt h₀ ax its nw) : LCg.SrcAt h₀ ax its (e :: nw) := h.elim .inl fun ⟨o, h1, h2⟩ => .inr ⟨o, .tail _ h1, h2⟩
theorem law_holds : Challenge.rw_pg0185_01.Holds := hd (by
  k_with_none
  k_with "ktr_rel" => (first | exact sub_refl _ | assumption | (refine sub_cons ?_; ktr_rel))
  k_with "k_mem" => (first | assumption | exact List.Mem.head _ | (refine List.Mem.tail _ ?_; k_mem))
  k_with "k_all" => (first | assumption | exact off_lt (by assumption) (by omega) | ((rename (_ ∧ _ ∧ AllLt _ _) => hl9); exact off_all hl9.2.2) | exact List.forall_mem_nil _ | (refine List.forall_mem_cons.mpr ⟨by first | assumption | exact Ne.symm (by assumption) | k_ne, ?_⟩; k_all))
  k_with "exec Assign cons ListComp" => (((k_here; (with_reducible show wpAny _ _ (exec (PySem.Stmt.Assign _ (PySem.Expr.ListComp _ [⟨PySem.Expr.Tuple [_, _, _] _ _, _, [], _⟩] _ _) _) _) _ _ _); k_dflt (refine AssignComp3 (F₀ := by k_asm) (by rfl) (by with_unfolding_all rfl) (by with_unfolding_all rfl) (by decide) (by rfl) (by decide) (by rfl) (by rfl) (by rfl) (by decide) (by decide) (by decide) (by rfl) (by rfl) ?_))))
  k_with "eval ListComp" => (((k_here; k_dflt (first | ((with_reducible show wpAny _ _ (eval (PySem.Expr.ListComp _ [⟨PySem.Expr.Name _ _, _, [_], _⟩] _ _) _) _ _ _); refine LCt.ListComp_T (F₀ := by k_asm) (by with_unfolding_all rfl) (by decide) (by rfl) (by decide) (by rfl) ?_) | ((with_reducible show wpAny _ _ (eval (PySem.Expr.ListComp _ [⟨PySem.Expr.Tuple [_, _, _] _ _, _, [], _⟩] _ _) _) _ _ _); refine ListComp3 (F₀ := by k_asm) (by with_unfolding_all rfl) (by decide) (by rfl) (by decide) (by rfl) (by rfl) (by rfl) (by decide) (by decide) (by decide) ?_) | ((with_reducible show wpAny _ _ (eval (PySem.Expr.ListComp (PySem.Expr.Call _ _ _ _) [⟨PySem.Expr.Name _ _, _, [], _⟩] _ _) _) _ _ _); refine LCg.ListComp_U (F₀ := by k_asm) (by with_unfolding_all rfl) (by decide) (by rfl) (by decide) (by rfl) ?_)))))
  k_with "compareOp NotEq ref ref" => ((k_here; (with_reducible show wpAny _ _ (compareOp _ (Value.ref _) (Value.ref _)) _ _ _); k_dflt (first | (refine ne_pair (by k_asm) (by k_mem) (by k_mem) (by rfl) (by rfl) (by ktr_units) ?_) | (refine ne_same (by k_asm) (by k_mem) (by k_mem) (by assumption) (by assumption) (by assumption) (by ktr_units) ?_))))
  k_with "subscriptTail Name Name ref int" => ((k_here; (with_reducible show wpAny _ _ (subscriptTail _ _ (Value.ref _) (Value.int _ _)) _ _ _); k_dflt (refine item_B _ (by first | with_reducible exact rfl | with_reducible assumption) (by k_asm) (by k_mem) (by assumption) (by assumption) (by first | with_reducible assumption | with_reducible exact And.left (by assumption) | with_reducible exact And.right (by assumption) | with_reducible exact Int.ofNat_lt.mp (by assumption) | omega) (by first | with_reducible assumption | with_reducible exact And.left (by assumption) | with_reducible exact And.right (by assumption) | with_reducible exact Int.ofNat_lt.mp (by assumption) | omega) ?_); intro t' c1' c2' c3' nt' hmt'))
  k_with "subscriptTail Name BinOp ref int" => ((k_here; (with_reducible show wpAny _ _ (subscriptTail _ _ (Value.ref _) (Value.int _ _)) _ _ _); k_dflt (refine item_B _ (by first | with_reducible exact rfl | with_reducible assumption) (by k_asm) (by k_mem) (by assumption) (by assumption) (by first | with_reducible assumption | with_reducible exact And.left (by assumption) | with_reducible exact And.right (by assumption) | with_reducible exact Int.ofNat_lt.mp (by assumption) | omega) (by first | with_reducible assumption | with_reducible exact And.left (by assumption) | with_reducible exact And.right (by assumption) | with_reducible exact Int.ofNat_lt.mp (by assumption) | omega) ?_); intro t' c1' c2' c3' nt' hmt'))
  k_with "subscriptTail Name Slice ref ref" => ((k_here; (fail_if_success (with_reducible show wpAny _ _ (subscriptTail _ (PySem.Expr.Slice none (some (PySem.Expr.Constant _ _ _)) none _) _ _) _ _ _)); (with_reducible show wpAny _ _ (subscriptTail _ (PySem.Expr.Slice none (some _) none _) (Value.ref _) (Value.ref _)) _ _ _); k_dflt (refine slice_toI _ (by first | with_reducible exact rfl | with_reducible assumption) (by k_asm) (by k_asm) (by k_mem) (by first | with_reducible assumption | with_reducible exact And.left (by assumption) | with_reducible exact And.right (by assumption) | with_reducible exact Int.ofNat_lt.mp (by assumption) | omega) ?_ (by with_unfolding_all rfl) (by kmk_pure)); intro D' h' F' N' l1; (try k_lt l1); (try k_sweep)))
  k_with "subscriptTail Name Slice ref ref" => ((k_here; (with_reducible show wpAny _ _ (subscriptTail _ (PySem.Expr.Slice (some _) none none _) (Value.ref _) (Value.ref _)) _ _ _); k_dflt (refine slice_froI _ (by first | with_reducible exact rfl | with_reducible exact add_cast _) (by k_asm) (by k_asm) (by k_mem) (by first | with_reducible assumption | with_reducible exact And.left (by assumption) | with_reducible exact And.right (by assumption) | with_reducible exact Int.ofNat_lt.mp (by assumption) | omega) ?_ (by with_unfolding_all rfl) (by kmk_pure)); intro D' h' F' N' l1; (try k_lt l1); (try k_sweep)))
  k_with "CompSrc" => (k_extra "CompSrcX")
  k_with "execs cons" => (k_extra "ExecsX")
  k_with "CompEnd" => (k_extra "CompEndX")
  k_with "compareOp Eq ref ref" => (k_extra "EqX")
  k_go0
  all_goals try k_fold
  k_with "pyIter ref" => (refine stop_in ?_)
  k_steps
  refine stop_out ?_
  (rename Fr _ _ _ _ => lF')
  (rename News _ _ _ _ => lN')
  (with_unfolding_all refine' law_loop ?g1 ?g2 ?g3 ?g4 lF' (cb_drop lN' (all4 ?g5 ?g6 ?g7 ?g8)) ?g9 ?g10 ?g11 ?g12 ?g13 ?g14 ?g15 ?g16 ?gt ?gd)
  case g15 => with_unfolding_all rfl
  case g16 => with_unfolding_all rfl
  case g9 => assumption
  case g1 => with_unfolding_all rfl
  case g2 => assumption
  case g3 => exact mod_in _
  case g4 => exact mod_len _ _
  case g5 => k_dflt k_mem
  case g6 => k_dflt k_mem
  case g7 => k_dflt k_mem
  case g8 => k_dflt k_mem
  case g10 => k_ne
  case g11 => k_ne
  case g12 => k_ne
  case g13 => k_ne
  case g14 => k_ne
  case gd =>
    clear lF' lN'
    intro hdZ vsZ usZ kZ kkZ ocZ v0Z itsZ restZ mZ hZ tkZ hocZ hhdZ hAZ hSZ hInvZ hrZ hcZ hFZ hNZ
    (have hokZ : ∀ p ∈ itsZ, Ok 8 p := fun p hp => (hInvZ.ok p hp).up (mod_len _ _))
    (have hlnZ := hInvZ.len)
    try k_fold
    k_with "CompSrcX" => (refine stop_in ?_)
    k_with "call ref" => (first | ((k_here; (with_reducible show wpAny _ _ (call (Value.ref 109) [Value.str (lineOf _) _] _) _ _ _); k_dflt (refine does_Rgb (by k_asm) (by k_asm) (by k_asm) (by k_asm) (by k_asm) (by first | exact rfl | assumption) (read_law _ _ _ _ _ _ (by assumption) (by first | with_reducible assumption | with_reducible exact And.left (by assumption) | with_reducible exact And.right (by assumption) | with_reducible exact Int.ofNat_lt.mp (by assumption) | omega) _ _) (by ktr_room) (by ktr_units) ?_); intro a9 t1 t2 t3 c9 h9 tk9 F9 N9 o9; (try dsimp only); (try k_fold))) | ((k_here; (with_reducible show wpAny _ _ (call (Value.ref 85) [Value.int _ _] _) _ _ _); k_dflt (refine does_Rgb (by k_asm) (by k_asm) (by k_asm) (by k_asm) (by k_asm) (by first | exact rfl | assumption) (colour_law _ _ _ _ _ _ _) (by ktr_room) (by ktr_units) ?_); intro a9 t1 t2 t3 c9 h9 tk9 F9 N9 o9; (try dsimp only); (try k_fold))))
    k_steps
    refine stop_out ?_
    (rename Fr _ _ _ _ => lF')
    (rename News _ _ _ _ => lN')
    (k_dflt refine' LCg.CompSrc.ledger (by rfl) lF' lN' (by k_mem) (by rw [List.size_toArray, strs_len hSZ, List.length_map, sizeLine_eq]; omega) fun g => rest_linesD rgbD (Ok 8) hSZ hokZ (Or.inr ⟨_, by k_mem, rfl, _, rfl⟩) ?tz1 ?fz1)
    k_with "CompEndX" => (k_dflt refine' rgb_end (by k_asm) (by k_asm) offT (by assumption) (fun o => srcAt_more hST))
    case tz1 =>
      clear lF' lN'
      intro pT tT nwT IT oIT CT oCT DT mT ysT hT tkT ET hgT hsubT hST hCT hxT hFT hNT offT neT
      k_steps
    clear lF' lN'
    intro ysZ nwZ hsubZ hdatZ
    (have hrsZ := fun p hp => hsubZ p (.tail _ (.tail _ hp)))
    (have hmZ := hrsZ _ hhdZ)
    k_with "Src3" => (refine stop_in ?_)
    k_steps
    refine stop_out ?_
    (rename Fr _ _ _ _ => lF')
    (rename News _ _ _ _ => lN')
    (have lAZ := hare_of lN' hAZ (by ((k_dflt (first | ktr_rel | (refine sub_two (by k_mem) (by ktr_rel)))))))
    (k_dflt refine' ⟨_, _, _, _, rfl, by rfl, lF', lN', by k_mem, by rw [sizeLine_eq, hare_len hAZ]; omega, fun g => rest3_dat rgbD (Ok 8) lAZ hokZ (by k_mem) ?tz2 ?fz2⟩)
    k_with "CompEndX" => (k_dflt refine' rgb_end (by k_asm) (by k_asm) offT (by assumption) (fun o => List.Mem.tail _ hST))
    case tz2 =>
      clear lF' lN'
      intro pT t1T t2T t3T nwT IT oIT CT oCT DT mT ysT hT tkT ET hgT hsubT hST hCT hxT hyT hzT hFT hNT offT neT
      k_steps
    clear lF' lN' lAZ
    intro ysW nwW hsubW hdatW
    k_with "EqX" => (refine stop_in ?_)
    k_steps
    refine stop_out ?_
    (rename News _ _ _ _ => lN')
    (k_dflt refine' eq_dat lN' (.tail _ (hsubW _ (.head _))) (.head _) (hdatZ.mono fun p hp => .tail _ (hsubW _ (.tail _ hp))) (hdatW.mono fun p hp => .tail _ hp) (rgb_ok _) ?hu9 ?_)
    case hu9 => ktr_units
    k_steps
  clear lF' lN'
  intro i9 x9 t9 hd9 vs9 us9 k9 kk9 oc9 v9 its9 rest9 own9 m9 h9 tk9 hi9 hx0 hx1 hoc hhd hHA hSt hInv hlen hr9 hc9 hF9 hN9
  (have G1 : Good1 i9 x9 its9 := ⟨hi9, hx0, hx1, hInv.ok, hInv.sort, hlen⟩)
  (have hok := G1.ok); (have hso := G1.sort); (have hok1 := G1.ok1); (have hso1 := G1.sort1); (have hln1 := G1.len1)
  (have hpx : Ok i9 (newI x9) := newI_ok i9 hx0 hx1)
  (have hfig := hueS_le x9)
  (have hlow := low_le x9 its9); (have hhigh := high_le x9 its9)
  (have hIa := itAt_ok hok1 (lowN x9 its9)); (have hIb := itAt_ok hok1 (highN x9 its9 - 1))
  (have hMa := moreI_ok hIa); (have hMb := moreI_ok hIb)
  (have hEa := up_ok (erase_ok hok1 (lowN x9 its9))); (have hEb := up_ok (erase_ok hok1 (highN x9 its9 - 1)))
  (have hSa := erase_sort hso1 (lowN x9 its9)); (have hSb := erase_sort hso1 (highN x9 its9 - 1))
  (have hln8 : (turn1 x9 its9).length ≤ 8 := by omega)
  (have hLa := erase_len_le hln8 (lowN x9 its9)); (have hLb := erase_len_le hln8 (highN x9 its9 - 1))
  (have hlow1 : cntL ((turn1 x9 its9).map nameOf) (hueS x9) ≤ (turn1 x9 its9).length := hlow); (have hhigh1 : cntR ((turn1 x9 its9).map nameOf) (hueS x9) ≤ (turn1 x9 its9).length := hhigh)
  (have hhd1 := sub_left rest9 own9 _ hhd); (have hsub9 := sub_left rest9 own9)
  try k_fold
  k_with "call ref" => (first | ((k_here; (with_reducible show wpAny _ _ (call (Value.ref 104) [Value.int _ _] _) _ _ _); k_dflt (refine does_Told (by k_asm) (by k_asm) (by k_asm) (by k_asm) (by k_asm) (by first | exact rfl | assumption) (told_law _ _ _ _ _ (by assumption) (by assumption) _ _) (by ktr_room) (by ktr_units) ?_); intro a9 t1 t2 k9 h9 tk9 F9 N9 l9; (replace N9 := news_swap N9); (try k_lt l9); (try dsimp only); (try k_fold))) | ((k_here; (with_reducible show wpAny _ _ (call (Value.ref 37) [Value.ref _, Value.str (lineOf _) _] _) _ _ _); k_dflt (refine does_Ins (by k_asm) (by k_asm) (by k_asm) (by k_asm) (by k_asm) (by first | exact rfl | assumption) (insR_law _ _ _ _ _ _ _ _ _ _ _ _ (by k_all) (by assumption) (by assumption) (by first | with_reducible assumption | with_reducible exact And.left (by assumption) | with_reducible exact And.right (by assumption) | with_reducible exact Int.ofNat_lt.mp (by assumption) | omega) (by assumption) (by first | assumption | omega) (by assumption)) (by ktr_room) (by ktr_units) ?_); intro vs9 k9 h9 tk9 F9 N9 s9; (try dsimp only); (try k_fold))) | ((k_here; (with_reducible show wpAny _ _ (call (Value.ref 55) [Value.ref _, Value.str (lineOf _) _] _) _ _ _); k_dflt (refine does_Ins (by k_asm) (by k_asm) (by k_asm) (by k_asm) (by k_asm) (by first | exact rfl | assumption) (insL_law _ _ _ _ _ _ _ _ _ _ _ _ (by k_all) (by assumption) (by assumption) (by first | with_reducible assumption | with_reducible exact And.left (by assumption) | with_reducible exact And.right (by assumption) | with_reducible exact Int.ofNat_lt.mp (by assumption) | omega) (by assumption) (by first | assumption | omega) (by assumption)) (by ktr_room) (by ktr_units) ?_); intro vs9 k9 h9 tk9 F9 N9 s9; (try dsimp only); (try k_fold))) | ((k_here; (with_reducible show wpAny _ _ (call (Value.ref 64) [Value.ref _, Value.str _ _] _) _ _ _); k_dflt (refine does_I (by k_asm) (by k_asm) (by k_asm) (by k_asm) (by k_asm) (by first | exact rfl | assumption) (bisL_law _ _ _ _ _ _ _ _ _ _ _ _ (by k_mem) (by assumption) (by assumption) (by first | with_reducible assumption | with_reducible exact And.left (by assumption) | with_reducible exact And.right (by assumption) | with_reducible exact Int.ofNat_lt.mp (by assumption) | omega) (by assumption) (by first | assumption | omega) (by assumption)) (by ktr_room) (by ktr_units) ?_); intro t9 h9 tk9 F9 N9; (try dsimp only); (try k_fold))) | ((k_here; (with_reducible show wpAny _ _ (call (Value.ref 46) [Value.ref _, Value.str _ _] _) _ _ _); k_dflt (refine does_I (by k_asm) (by k_asm) (by k_asm) (by k_asm) (by k_asm) (by first | exact rfl | assumption) (bisR_law _ _ _ _ _ _ _ _ _ _ _ _ (by k_mem) (by assumption) (by assumption) (by first | with_reducible assumption | with_reducible exact And.left (by assumption) | with_reducible exact And.right (by assumption) | with_reducible exact Int.ofNat_lt.mp (by assumption) | omega) (by assumption) (by first | assumption | omega) (by assumption)) (by ktr_room) (by ktr_units) ?_); intro t9 h9 tk9 F9 N9; (try dsimp only); (try k_fold))) | ((k_here; (with_reducible show wpAny _ _ (call (Value.ref 21) [Value.str (lineOf _) _] _) _ _ _); k_dflt (refine does_S (by k_asm) (by k_asm) (by k_asm) (by k_asm) (by k_asm) (by first | exact rfl | assumption) (comment_law _ _ _ _ _ _ (by assumption) (by first | with_reducible assumption | with_reducible exact And.left (by assumption) | with_reducible exact And.right (by assumption) | with_reducible exact Int.ofNat_lt.mp (by assumption) | omega) _ _) (by ktr_room) (by ktr_units) ?_); intro t9 h9 tk9 F9 N9; (try dsimp only); (try k_fold))) | ((k_here; (with_reducible show wpAny _ _ (call (Value.ref 114) [Value.int _ _] _) _ _ _); k_dflt (refine does_S (by k_asm) (by k_asm) (by k_asm) (by k_asm) (by k_asm) (by first | exact rfl | assumption) (hue_does _ _ _ _ _ _ _) (by ktr_room) (by ktr_units) ?_); intro t9 h9 tk9 F9 N9; (try dsimp only); (try k_fold))) | ((k_here; (with_reducible show wpAny _ _ (call (Value.ref 133) [Value.ref _, Value.int _ _, Value.str _ _, Value.int _ _, Value.bool _] _) _ _ _); k_dflt (refine does_Lay (by k_asm) (by k_asm) (by k_asm) (by k_asm) (by k_asm) (by first | exact rfl | assumption) (lay_law _ _ _ _ _ _ _ _ _ _ _ _ _ _ _ _ _ _ (by k_mem) (by assumption) (by ktr_rel) (by assumption) (by first | with_reducible assumption | with_reducible exact And.left (by assumption) | with_reducible exact And.right (by assumption) | with_reducible exact Int.ofNat_lt.mp (by assumption) | omega) (by first | assumption | omega) (by assumption)) (by ktr_room) (by ktr_units) ?_); intro D9 tp9 us9 kk9 ot9 h9 tk9 F9 N9 hA9 o19 o29; (try dsimp only); (try k_fold))))
  k_with "call builtin:list.pop" => ((k_here; (with_reducible show wpAny _ _ (call (Value.builtin _) [Value.ref _, Value.int _ _]) _ _ _); k_dflt (refine pop_S _ (by first | with_reducible exact rfl | with_reducible assumption) (by k_asm) (by k_asm) (by k_all) (by assumption) (by first | with_reducible assumption | with_reducible exact And.left (by assumption) | with_reducible exact And.right (by assumption) | with_reducible exact Int.ofNat_lt.mp (by assumption) | omega) (by first | with_reducible assumption | with_reducible exact And.left (by assumption) | with_reducible exact And.right (by assumption) | with_reducible exact Int.ofNat_lt.mp (by assumption) | omega) ?_); intro h' t' us' F' N' s9))
  k_with "call builtin:len" => ((k_here; (with_reducible show wpAny _ _ (call (Value.builtin "len") [Value.ref _]) _ _ _); k_dflt (first | (refine len_low (by k_asm) (by k_mem) (by assumption) (by first | with_reducible assumption | with_reducible exact And.left (by assumption) | with_reducible exact And.right (by assumption) | with_reducible exact Int.ofNat_lt.mp (by assumption) | omega) ?_) | (refine len_high (by k_asm) (by k_mem) (by assumption) (by first | with_reducible assumption | with_reducible exact And.left (by assumption) | with_reducible exact And.right (by assumption) | with_reducible exact Int.ofNat_lt.mp (by assumption) | omega) ?_) | (refine len_R (by k_asm) (by k_mem) (by assumption) (by first | with_reducible assumption | with_reducible exact And.left (by assumption) | with_reducible exact And.right (by assumption) | with_reducible exact Int.ofNat_lt.mp (by assumption) | omega) ?_) | (refine len_H (by k_asm) (by k_mem) (by assumption) (by first | with_reducible assumption | with_reducible exact And.left (by assumption) | with_reducible exact And.right (by assumption) | with_reducible exact Int.ofNat_lt.mp (by assumption) | omega) ?_)); intro t' tk'))
  k_with "exec If Compare cons cons" => (k_here; (fail_if_success (with_reducible show wpAny _ _ _ (CutEnd _) _ _)); refine stop_in ?_)
  k_with "exec If BoolOp cons nil" => (k_here; (fail_if_success (with_reducible show wpAny _ _ _ (CutEnd _) _ _)); refine stop_in ?_)
  k_steps
  refine stop_out ?_
  (rename Fr _ _ _ _ => lF')
  (rename News _ _ _ _ => lN')
  (have lC := news_like hN9 lN' (by k_dflt k_mem) (by k_dflt k_mem) (by k_dflt ktr_rel)); clear lN'
  (with_unfolding_all refine' row_cut (turn1 x9 its9) lF' lC ?ca1 ?cb1)
  case ca1 =>
    k_steps
    all_goals first
      | (((refine row_end (by k_asm) (by k_asm) ?_)); rw [turn1_even (by assumption)]; assumption)
      | (((refine row_end (by k_asm) (by k_asm) ?_)); rw [turn1_odd (by assumption)]; assumption)
  clear lF' lC
  intro hA tkA vsA kA hFA hNA hSA
  k_steps
  refine stop_out ?_
  (rename Fr _ _ _ _ => lF')
  (rename News _ _ _ _ => lN')
  (with_unfolding_all refine' row_cut (turn2 x9 its9) lF' lN' ?ca2 ?cb2)
  case ca2 =>
    k_steps
    all_goals first
      | (((refine row_end (by k_asm) (by k_asm) ?_)); rw [turn2_no (by assumption)]; assumption)
      | (((refine row_end (by k_asm) (by k_asm) ?_)); rw [turn2_no2 (by show ¬ cntL _ _ < _; omega)]; assumption)
      | (((refine row_end (by k_asm) (by k_asm) ?_)); rw [turn2_yes (by assumption) (by show cntL _ _ < _; omega)]; unfold redo; assumption)
  clear lF' lN' hSA
  intro hA tkA vsA kA hFA hNA hSA
  k_steps
  refine stop_out ?_
  (rename Fr _ _ _ _ => lF')
  (rename News _ _ _ _ => lN')
  (with_unfolding_all refine' row_cut (turn3 x9 its9) lF' lN' ?ca3 ?cb3)
  case ca3 =>
    k_with "call builtin:list.pop" => (k_here; (with_reducible show wpAny _ _ (call (Value.builtin _) [Value.ref _, Value.int _ _]) _ _ _); (with_reducible rename Fr _ _ _ _ => lF'); (with_reducible rename News _ _ _ _ => lN'); k_dflt (rw [turn2_no (by show ¬ (((x9.fdiv 729).fdiv 192).fmod 6).fdiv 2 = 1; omega)] at hSA; (have hp2 : 0 < cntR ((turn1 x9 its9).map nameOf) (hueS x9) := by omega); (have hlt : cntR ((turn1 x9 its9).map nameOf) (hueS x9) - 1 < (turn1 x9 its9).length := by omega); refine pop_S _ (sub_cast hp2) lF' lN' (by k_all) hSA hlt hln8 ?_); (clear lF' lN'); intro h' t' us' F' N' s9)
    k_steps
    all_goals first
      | (((refine row_end (by k_asm) (by k_asm) ?_)); rw [turn3_no (by assumption)]; assumption)
      | (((refine row_end (by k_asm) (by k_asm) ?_)); rw [turn3_no2 (by show ¬ 0 < cntR _ _; omega)]; assumption)
      | (((refine row_end (by k_asm) (by k_asm) ?_)); rw [turn3_yes (by assumption) (by show 0 < cntR _ _; omega)]; unfold redo; assumption)
  clear lF' lN' hSA
  intro hA tkA vsA kA hFA hNA hSA
  k_with "Src3" => (refine stop_in ?_)
  k_with "CompSrcT" => (refine stop_in ?_)
  k_with "compareOp Lt str str" => ((k_here; (with_reducible show wpAny _ _ (compareOp _ (Value.str _ _) (Value.str _ _)) _ _ _); (refine lt_S ?_)))
  k_with "compareOp LtE str str" => ((k_here; (with_reducible show wpAny _ _ (compareOp _ (Value.str _ _) (Value.str _ _)) _ _ _); (refine le_S ?_)))
  k_with "CompEnd" => ((k_dflt (refine cmp_end (by k_asm) (by k_asm) (by with_unfolding_all assumption) (by first | lcg_src | (show _ ∈ _; k_mem)) ?_)))
  k_with "EltS" => (exact ⟨rfl, _, rfl⟩)
  k_with "call ref" => (first | ((k_here; (with_reducible show wpAny _ _ (call (Value.ref 128) [Value.int _ _, Value.str _ _, Value.int _ _] _) _ _ _); k_dflt (refine does_S (by k_asm) (by k_asm) (by k_asm) (by k_asm) (by k_asm) (by first | exact rfl | assumption) (dueName_does _ _ _ _ _ (by assumption) (by assumption) _ (by assumption) _ (by assumption) (by assumption) _ _ _ _) (by ktr_room) (by ktr_units) ?_); intro t9 h9 tk9 F9 N9; (try dsimp only); (try k_fold))) | ((k_here; (with_reducible show wpAny _ _ (call (Value.ref 121) [Value.int _ _, Value.str _ _, Value.int _ _] _) _ _ _); k_dflt (refine does_S (by k_asm) (by k_asm) (by k_asm) (by k_asm) (by k_asm) (by first | exact rfl | assumption) (dueLine_does _ _ _ _ _ (by assumption) (by assumption) _ (by assumption) _ (by assumption) (by assumption) _ _ _ _) (by ktr_room) (by ktr_units) ?_); intro t9 h9 tk9 F9 N9; (try dsimp only); (try k_fold))))
  k_steps
  refine stop_out ?_
  (rename Fr _ _ _ _ => lF')
  (rename News _ _ _ _ => lN')
  (rename HAre _ _ _ => lA)
  (have lA1 : HAre _ _ (turn1 x9 its9) := lA)
  (have lA2 := hare_of lN' lA1 (by ((k_dflt (first | ktr_rel | (refine sub_two (by k_mem) (by ktr_rel)))))))
  (have hgood1 : ∀ p ∈ turn1 x9 its9, Good p.1 p.2.1 p.2.2 := fun p hp => (hok1 p hp).good (by omega))
  (k_dflt refine' ⟨_, _, _, _, rfl, by rfl, lF', lN', by k_mem, by rw [sizeLine_eq, hare_len lA1]; omega, fun g => rest3_strs dueNameS Good lA2 hgood1 ?tn1 ?fn1⟩)
  case tn1 =>
    clear lF' lN'
    intro iT uT cT t1T t2T t3T IT oIT CT oCT DT mT ysT hT tkT ET hgT hCT hxT hyT hzT hFT hNT offT neT
    obtain ⟨q1, q2, q3, q4, q5⟩ := hgT
    k_steps
  clear lF' lN'
  intro ysB hysB0
  (have hysB : StrsAre ysB ((turn1 x9 its9).map nameOf) := hysB0); clear hysB0
  k_steps
  refine stop_out ?_
  (rename Fr _ _ _ _ => lF')
  (rename News _ _ _ _ => lN')
  (k_dflt refine' LCt.CompSrcT.ledger (by rfl) lF' lN' (by k_mem) (by rw [List.size_toArray, strs_len hysB, List.length_map, sizeLine_eq]; omega) fun g => restT_strs (fun q => ltS q (hueS x9)) hysB (Or.inr ⟨_, by k_mem, rfl, _, rfl⟩) (fun _ => True) (fun _ _ => trivial) (fun _ => rfl) (fun _ => by with_unfolding_all rfl) (by decide) ?tn2 ?fn2)
  case tn2 =>
    clear lF' lN'
    intro qT tT IT oIT CT oCT DT mT ysT hT tkT ET hgT hCT hxT hFT hNT offT neT
    k_steps
    all_goals k_asm
  clear lF' lN'
  intro ysC hysC
  k_steps
  refine stop_out ?_
  (rename Fr _ _ _ _ => lF')
  (rename News _ _ _ _ => lN')
  (k_dflt refine' LCt.CompSrcT.ledger (by rfl) lF' lN' (by k_mem) (by rw [List.size_toArray, strs_len hysB, List.length_map, sizeLine_eq]; omega) fun g => restT_strs (fun q => !ltS (hueS x9) q) hysB (Or.inr ⟨_, by k_mem, rfl, _, rfl⟩) (fun _ => True) (fun _ _ => trivial) (fun _ => rfl) (fun _ => by with_unfolding_all rfl) (by decide) ?tn3 ?fn3)
  case tn3 =>
    clear lF' lN'
    intro qT tT IT oIT CT oCT DT mT ysT hT tkT ET hgT hCT hxT hFT hNT offT neT
    k_steps
    all_goals k_asm
  clear lF' lN'
  intro ysE hysE
  k_steps
  refine stop_out ?_
  (rename Fr _ _ _ _ => lF')
  (rename News _ _ _ _ => lN')
  (obtain ⟨newH, lC, hmH, hAH, hnH⟩ := held_start hN9 lN' (by assumption) (by assumption) lA1 (by k_dflt k_mem) (by k_dflt k_mem) (by k_dflt k_mem) (by k_dflt k_mem) (by k_dflt ktr_rel))
  clear lN' lA2
  (have hmH1 := sub_new _ _ own9 _ hmH); (have hsH := sub_new newH rest9 own9)
  (have hul := hare_len hAH); (have hEH := hare_erase hAH (lowN x9 its9))
  (with_unfolding_all refine' held_cut (turn2 x9 its9) lF' ?ga3 ?ga4 lC ?ha1 ?hb1)
  case ga3 => with_unfolding_all rfl
  case ga4 => with_unfolding_all rfl
  k_with "binaryOp Add ref ref" => ((k_here; (with_reducible show wpAny _ _ (binaryOp _ (Value.ref _) (Value.ref _)) _ _ _); k_dflt (refine add_L (by k_asm) (by k_asm) (by k_mem) (by k_mem) (by (simp only [List.length_append, List.length_take, List.length_drop, List.length_cons, List.length_nil]; omega)) ?_); intro D' h' F' N' l1; (try k_lt l1); (try k_sweep)))
  case ha1 =>
    k_steps
    all_goals first
      | (((refine held_end0 (by k_asm) (by with_unfolding_all rfl) (by with_unfolding_all rfl) (by with_unfolding_all rfl) (by with_unfolding_all rfl) (by k_asm) (by assumption) ?_ (by assumption))); rw [turn2_no (by assumption)]; assumption)
      | (((refine held_end0 (by k_asm) (by with_unfolding_all rfl) (by with_unfolding_all rfl) (by with_unfolding_all rfl) (by with_unfolding_all rfl) (by k_asm) (by assumption) ?_ (by assumption))); rw [turn2_no2 (by omega)]; assumption)
      | (((refine held_end1 (by k_asm) (by with_unfolding_all rfl) (by with_unfolding_all rfl) (by with_unfolding_all rfl) (by with_unfolding_all rfl) (by k_asm) (by k_mem) (by k_mem) (by ktr_rel) (by assumption) (by assumption) ?_ (by assumption))); rw [turn2_yes (by assumption) (by omega)]; assumption)
  clear lF' lC hmH1 hsH hul hEH hmH hAH hnH
  intro hB tkB mB hdB usB kkB newB hFB hNB hmB hAB hnB
  k_steps
  refine stop_out ?_
  (have hmB1 := sub_new _ _ own9 _ hmB); (have hsB := sub_new newB rest9 own9)
  (rename Fr _ _ _ _ => lF')
  (rename News _ _ _ _ => lN')
  (with_unfolding_all refine' held_cut (turn3 x9 its9) lF' ?gb3 ?gb4 lN' ?ha2 ?hb2)
  case gb3 => with_unfolding_all rfl
  case gb4 => with_unfolding_all rfl
  case ha2 =>
    k_with "subscriptTail Name BinOp ref int" => (k_here; (with_reducible show wpAny _ _ (subscriptTail _ _ (Value.ref _) (Value.int _ _)) _ _ _); k_dflt (rw [turn2_no (by show ¬ (((x9.fdiv 729).fdiv 192).fmod 6).fdiv 2 = 1; omega)] at hAB; (have hp2 : 0 < highN x9 its9 := by omega); (have hul := hare_len hAB); (have hEH := hare_eraseH hAB hp2); (have hsc := sub_cast hp2); (have hlt : highN x9 its9 - 1 < (turn1 x9 its9).length := by omega); refine item_B _ hsc (by k_asm) (by k_mem) hAB (by assumption) hlt hln8 ?_); intro t' c1' c2' c3' nt' hmt')
    k_steps
    all_goals first
      | (((refine held_end0 (by k_asm) (by with_unfolding_all rfl) (by with_unfolding_all rfl) (by with_unfolding_all rfl) (by with_unfolding_all rfl) (by k_asm) (by assumption) ?_ (by assumption))); rw [turn3_no (by assumption)]; assumption)
      | (((refine held_end0 (by k_asm) (by with_unfolding_all rfl) (by with_unfolding_all rfl) (by with_unfolding_all rfl) (by with_unfolding_all rfl) (by k_asm) (by assumption) ?_ (by assumption))); rw [turn3_no2 (by omega)]; assumption)
      | (((refine held_end1 (by k_asm) (by with_unfolding_all rfl) (by with_unfolding_all rfl) (by with_unfolding_all rfl) (by with_unfolding_all rfl) (by k_asm) (by k_mem) (by k_mem) (by ktr_rel) (by assumption) (by assumption) ?_ (by assumption))); rw [turn3_yes (by assumption) (by omega)]; assumption)
  clear lF' lN' hmB1 hsB hmB hAB hnB
  intro hB tkB mB hdB usB kkB newB hFB hNB hmB hAB hnB
  (have hok3 := G1.ok3); (have hln3 := G1.len3); (have hin3 := G1.inv)
  (have hgood3 : ∀ p ∈ turn3 x9 its9, Good p.1 p.2.1 p.2.2 := fun p hp => (hok3 p hp).good (by omega))
  (have hLok : ∀ y ∈ (turn3 x9 its9).map lineOf, PyData.strOk y = true := fun y hy => by obtain ⟨p, hp, rfl⟩ := List.mem_map.mp hy; exact (hok3 p hp).lineOk (by omega))
  (have hNok : ∀ y ∈ (turn3 x9 its9).map nameOf, PyData.strOk y = true := fun y hy => by obtain ⟨p, hp, rfl⟩ := List.mem_map.mp hy; exact (hok3 p hp).nameOk (by omega))
  (have hmB1 := sub_new _ _ own9 _ hmB); (have hsB := sub_new newB rest9 own9); (have hrB := sub_refl (newB ++ (rest9 ++ own9)))
  k_with "CompSrcX" => (refine stop_in ?_)
  k_with "call ref" => ((k_here; (with_reducible show wpAny _ _ (call (Value.ref 28) [Value.str (lineOf _) _] _) _ _ _); k_dflt (refine does_S (by k_asm) (by k_asm) (by k_asm) (by k_asm) (by k_asm) (by first | exact rfl | assumption) (strip_law _ _ _ _ _ _ (by assumption) (by first | with_reducible assumption | with_reducible exact And.left (by assumption) | with_reducible exact And.right (by assumption) | with_reducible exact Int.ofNat_lt.mp (by assumption) | omega) _ _) (by ktr_room) (by ktr_units) ?_); intro t9 h9 tk9 F9 N9; (try dsimp only); (try k_fold)))
  k_steps
  refine stop_out ?_
  (rename Fr _ _ _ _ => lF')
  (rename News _ _ _ _ => lN')
  (have lA3 := hare_of lN' hAB (by ((k_dflt (first | ktr_rel | (refine sub_two (by k_mem) (by ktr_rel)))))))
  (k_dflt refine' ⟨_, _, _, _, rfl, by rfl, lF', lN', by k_mem, by rw [sizeLine_eq, hare_len hAB]; omega, fun g => rest3_strs dueLineS Good lA3 hgood3 ?tn4 ?fn4⟩)
  case tn4 =>
    clear lF' lN'
    intro iT uT cT t1T t2T t3T IT oIT CT oCT DT mT ysT hT tkT ET hgT hCT hxT hyT hzT hFT hNT offT neT
    obtain ⟨q1, q2, q3, q4, q5⟩ := hgT
    k_steps
  clear lF' lN' lA3
  intro ysF hysF0
  (have hysF : StrsAre ysF ((turn3 x9 its9).map lineOf) := hysF0); clear hysF0
  k_steps
  refine stop_out ?_
  (rename Fr _ _ _ _ => lF')
  (rename News _ _ _ _ => lN')
  (k_dflt refine' LCg.CompSrc.ledger (by rfl) lF' lN' (by k_mem) (by rw [List.size_toArray, strs_len hSA, List.length_map, sizeLine_eq]; omega) fun g => rest_lines nameOf (Ok (i9 + 1)) hSA hok3 ?tn5 ?fn5)
  case tn5 =>
    clear lF' lN'
    intro pT tT IT oIT CT oCT DT mT ysT hT tkT ET hgT hCT hxT hFT hNT offT neT
    k_steps
  clear lF' lN'
  intro ysG hysG
  k_steps
  refine stop_out ?_
  (rename Fr _ _ _ _ => lF')
  (rename News _ _ _ _ => lN')
  (have lA4 := hare_of lN' hAB (by ((k_dflt (first | ktr_rel | (refine sub_two (by k_mem) (by ktr_rel)))))))
  (k_dflt refine' ⟨_, _, _, _, rfl, by rfl, lF', lN', by k_mem, by rw [sizeLine_eq, hare_len hAB]; omega, fun g => rest3_strs dueNameS Good lA4 hgood3 ?tn6 ?fn6⟩)
  case tn6 =>
    clear lF' lN'
    intro iT uT cT t1T t2T t3T IT oIT CT oCT DT mT ysT hT tkT ET hgT hCT hxT hyT hzT hFT hNT offT neT
    obtain ⟨q1, q2, q3, q4, q5⟩ := hgT
    k_steps
  clear lF' lN' lA4
  intro ysI hysI0
  (have hysI : StrsAre ysI ((turn3 x9 its9).map nameOf) := hysI0); clear hysI0
  k_steps
  (refine' turn_end ?z1 ?z2 ?z3 ?z4 ?z5 ?z6 ?z7 ?z8 hmB hAB hSA hin3 hln3 hnB)
  case z1 => k_asm
  case z4 => k_asm
  case z2 => with_unfolding_all rfl
  case z3 => with_unfolding_all rfl
  case z5 => k_mem
  case z6 => k_mem
  case z7 => ktr_rel
  case z8 => assumption)
end
end Mine
theorem PySem.Challenge.cw_pg0185_01_holds : PySem.Challenge.rw_pg0185_01.Holds :=
  Mine.law_holds
