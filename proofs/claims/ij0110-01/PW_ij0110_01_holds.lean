import PyProof.Rows.All
import Wide.All
import OpenK.AllK
import Wide.FinOn
import PySem.Challenge.RW_ij0110_01
/-! The law is walked def by def: each def of the text has a contract (Claim), shown once by the library's walk (k_steps); loops by rules of our own
(range_loop, list_loop, my_while2, my_comp); what the walk computes is spoken of over lists of code points (S l is the text of l): strip_word, splitOk_dot, splitOk_plain, split_step, taken_is. -/
set_option Elab.async false
section
open PySem PySem.W PyProof.Rows
namespace Mine
set_option maxRecDepth 100000 in
set_option maxHeartbeats 8000000 in
open_top hd for PySem.Challenge.rw_ij0110_01
end Mine
end
section
open PySem PySem.W PySem.Calls PyProof.Rows
set_option maxRecDepth 100000
namespace Mine
section
variable {prog : Program} {w : World} {A : Around} {E : Value → Shared → Prop} {s : Shared} {Q : Value → Shared → Prop}
theorem meta_str : typeOf (.type "str") = pure (.type "type") := by
  first | rfl | decide +kernel | (unfold typeOf; rfl)
theorem sub_str : isSubtype (.type "str") (.type "str") = pure true := by
  rw [isSubtype_type]; kernel_rfl
theorem isub_one {k : Value} {dep : Int} {tk : Tok} {Q : Fin → Shared → Prop} (hk : k = .int dep tk) (hq : Q (.done (.ret (.bool true))) s) :
    wpAny (model prog w) A (Builtin.«issubclass.nested» ⟨[.type "str", .type "str", k], []⟩) Q E s := by
  subst hk
  have hm := meta_str
  have hself := sub_str
  repeat (any_goals (first | assumption | (rw [if_pos hm]) | (rw [hself]) | wp_step))
theorem isub_nested_kind : builtinKind "issubclass.nested" = none := by decide +kernel
theorem isub_nested_plain : plainId "issubclass.nested" = true := by decide +kernel
theorem isub_args3 (a b c : Value) : argsOk "issubclass.nested" ⟨[a, b, c], []⟩ := by unfold argsOk; kernel_rfl
theorem isub_meets (dep : Int) (tk : Tok) : Meets (Builtin.«issubclass.nested» ⟨[.type "str", .type "str", .int dep tk], []⟩) (fun _ R s => R (.ok (.ret (.bool true))) s) :=
  fun _ _ _ _ _ hs => isub_one rfl hs
theorem isub_tuple {tp : Addr} {dd : Option Addr} {r its : List Value} {n : Nat} {sl : Array (Option Value)} (e : its = Value.type "str" :: r) (tk : Tok) :
    Meets (Builtin.«issubclass.nested» ⟨[.type "str", .ref tp, .int 0 tk], []⟩)
      (fun _ R s => s.heap.get? tp = some ⟨.type "tuple", dd, .seq its.toArray n, sl⟩ ∧ R (.ok (.ret (.bool true))) s) := by
  intro prog w A R s hs
  obtain ⟨h, g, d, tt, os⟩ := s
  obtain ⟨htp, hq⟩ := hs
  have hT2 : (⟨h, g, d, tt, os⟩ : Shared).TypeIs (.ref tp) "tuple" := ⟨_, htp, rfl⟩
  have f1 := F.isi_sub_tuple
  unfold Builtin.«issubclass.nested»
  repeat (any_goals (first | assumption | wp_step))
  refine wpAny_arrayLoop ?_
  simp only [Option.getD_some, List.toList_toArray]
  subst e
  rw [List.forIn_cons]
  refine wpAny_bind (wpAny_bind (call_function_meets isub_nested_kind isub_nested_plain F.entry_issubclass_nested (isub_args3 _ _ _) (isub_meets _ _) ?_))
  show wpAny _ _ (truthy (.bool true) >>= _) _ _ _
  refine wpAny_bind (m := truthy (.bool true)) (wpAny_pure ?_)
  refine wpAny_bind (wpAny_pure (wpAny_pure (wpAny_pure ?_)))
  first | exact hq | exact wpAny_pure hq
theorem isub_call {h₀ : Heap} {L tp : Addr} {news : List (Addr × Obj)} {r : List Value} {n : Nat} (N : News h₀ L s.heap news) (hm : (tp, ({ cls := .type "tuple", data := .seq (Value.type "str" :: r).toArray n } : Obj)) ∈ news) (h : Q (.bool true) s) :
    wpAny (model prog w) A (call (.builtin "issubclass") [.type "str", .ref tp]) Q E s :=
  call_issubclass (S := fun _ R s => s.heap.get? tp = some ⟨.type "tuple", none, .seq (Value.type "str" :: r).toArray n, #[]⟩ ∧ R (.ok (.ret (.bool true))) s)
    (fun prog w A R s hs => issubclass_outer (isub_tuple rfl _ prog w A R s hs)) ⟨(N _ hm).1, h⟩
end
local macro_rules | `(tactic| walk_at "call builtin:issubclass") => `(tactic| (k_here; (with_reducible show wpAny _ _ (call (Value.builtin "issubclass") [Value.type _, Value.ref _]) _ _ _); k_dflt (refine' isub_call ?k1 ?k2 ?_; (case k1 => k_asm); (case k2 => k_mem); k_whole)))
def Claim (prog : Program) (w : World) (K : Frag) (p : Program) (loose : List Str) (mean : ExcName → Option Value) (mg mb : Str → Option Value) (f : Addr) (vs : List Value) (d u : Nat)
    (Ret : (Value → Shared → Prop) → Heap → Addr → (Str → Option Value) → List (Addr × Obj) → Shared → Prop) : Prop :=
  ∀ (news : List (Addr × Obj)) (dp un : Nat) (gd : Option (List Code)) (cn : Str) (cs : Scope) (a : Addr) (ccd : Value) (cl : List (Str × Addr)) (outer : List Env) (A₀ : Around) (base h₀ : Heap) (L : Addr) (m : Str → Option Value) (s : Shared) (Q E : Value → Shared → Prop),
    Below A₀ base outer h₀ → Fr h₀ L s.heap m → K.In h₀ → News h₀ L s.heap news → Top p loose mean mg mb h₀ → cs.kind = .function →
    dp + d < recursionLimit → un + u < cLine → Ret Q h₀ L m news s →
      wpAny (model prog w) (ktrTop dp un gd cn cs L a ccd cl outer) (call (.ref f) vs) Q E s
def RetStr (V : Str) (Q : Value → Shared → Prop) (h₀ : Heap) (L : Addr) (m : Str → Option Value) (news : List (Addr × Obj)) (s : Shared) : Prop :=
  ∀ (t : Tok) (h' : Heap) (tk' : Nat), Fr h₀ L h' m → News h₀ L h' news → Q (.str V t) { s with heap := h', toks := tk' }
theorem Claim.use {prog : Program} {w : World} {K : Frag} {p : Program} {loose : List Str} {mean : ExcName → Option Value} {mg mb : Str → Option Value} {f : Addr} {vs : List Value} {d u : Nat}
    {Ret : (Value → Shared → Prop) → Heap → Addr → (Str → Option Value) → List (Addr × Obj) → Shared → Prop} {news : List (Addr × Obj)} {dp un : Nat} {gd : Option (List Code)} {cn : Str} {cs : Scope} {a : Addr} {ccd : Value} {cl : List (Str × Addr)} {outer : List Env} {A₀ : Around} {base h₀ : Heap} {L : Addr} {m : Str → Option Value} {s : Shared} {Q E : Value → Shared → Prop}
    (C : Claim prog w K p loose mean mg mb f vs d u Ret) (B : Below A₀ base outer h₀) (F : Fr h₀ L s.heap m) (X : K.In h₀) (N : News h₀ L s.heap news) (T : Top p loose mean mg mb h₀) (hk : cs.kind = .function)
    (hd : dp + d < recursionLimit) (hu : un + u < cLine) (ret : Ret Q h₀ L m news s) : wpAny (model prog w) (ktrTop dp un gd cn cs L a ccd cl outer) (call (.ref f) vs) Q E s :=
  C _ _ _ _ _ _ _ _ _ _ _ _ _ _ _ _ _ _ B F X N T hk hd hu ret
theorem News.drop {h₀ h : Heap} {L : Addr} {news news' : List (Addr × Obj)} (N : News h₀ L h news') (hs : ∀ p ∈ news, p ∈ news') : News h₀ L h news := fun p hp => N p (hs p hp)
set_option maxHeartbeats 4000000 in
theorem fspath_tells (w : World) (mean : ExcName → Option Value) (mg mb : Str → Option Value) (V : Str) (T : Tok) :
    Claim PySem.Challenge.rw_ij0110_01.row.prog w (hd.heap_39 w.params) hd.view_39 (looseW hd.view_39 []) mean mg mb 101 [.str V T] 1 8 (RetStr V) := by
  w_top off
  k_fill
  unfold Claim
  intro news dp un gd cn cs a ccd cl outer A₀ base h₀ L m s Q E B F X N Tp hk hdp hun hret
  refine wpAny_call ?_
  k_dflt cell_enter
  k_steps
  all_goals exact hret _ _ _ (by assumption) (News.drop (by assumption) (by kcj_all))

section
open PySem.Builtin PySem.Builtin.Str
def find4 (x y : Str) (i j : Int) : Int := match occurrences x y (fromIndex x.length i) (min (fromIndex x.length j) x.length) 1 with | k :: _ => (k : Int) | [] => -1
def rfind4 (x y : Str) (i j : Int) : Int := match lastOccurrence x y (fromIndex x.length i) (min (fromIndex x.length j) x.length) with | some k => (k : Int) | none => -1
theorem gives_find4 (x y : Str) (i j : Int) (t u v z : Tok) : Gives («str.find» ⟨[.str x t, .str y u, .int i v, .int j z], []⟩) (.int (find4 x y i j)) := by
  show Gives (match occurrences x y (fromIndex x.length i) (min (fromIndex x.length j) x.length) 1 with | k :: _ => retInt k | [] => (do rule "str.find.not-found"; retInt (-1))) _
  unfold find4
  cases occurrences x y (fromIndex x.length i) (min (fromIndex x.length j) x.length) 1 with
  | nil => exact .rule (.of_eq rfl)
  | cons k _ => exact .of_eq rfl
theorem gives_rfind4 (x y : Str) (i j : Int) (t u v z : Tok) : Gives («str.rfind» ⟨[.str x t, .str y u, .int i v, .int j z], []⟩) (.int (rfind4 x y i j)) := by
  show Gives (match lastOccurrence x y (fromIndex x.length i) (min (fromIndex x.length j) x.length) with | some k => retInt k | none => (do rule "str.rfind.not-found"; retInt (-1))) _
  unfold rfind4
  cases lastOccurrence x y (fromIndex x.length i) (min (fromIndex x.length j) x.length) with
  | none => exact .rule (.of_eq rfl)
  | some k => exact .of_eq rfl
end
section
variable {prog : Program} {w : World} {A : Around} {E : Value → Shared → Prop} {s : Shared} {x y : Str} {t u v z : Tok} {i j : Int} {Q : Value → Shared → Prop}
theorem call_find4 (hq : Q (.int (find4 x y i j) s.toks) { s with toks := s.toks + 1 }) : wpAny (model prog w) A (call (.builtin "str.find") [.str x t, .str y u, .int i v, .int j z]) Q E s :=
  call_gives F.slot_str_find (typeIs_str _ _ _) F.entry_str_find (F.args_str_find_4 _ _ _ _) (gives_find4 x y i j t u v z) hq
theorem call_rfind4 (hq : Q (.int (rfind4 x y i j) s.toks) { s with toks := s.toks + 1 }) : wpAny (model prog w) A (call (.builtin "str.rfind") [.str x t, .str y u, .int i v, .int j z]) Q E s :=
  call_gives F.slot_str_rfind (typeIs_str _ _ _) F.entry_str_rfind (F.args_str_rfind_4 _ _ _ _) (gives_rfind4 x y i j t u v z) hq
end
set_option maxHeartbeats 4000000 in
theorem get_sep_tells (w : World) (mean : ExcName → Option Value) (mg mb : Str → Option Value) (V : Str) (T : Tok) :
    Claim PySem.Challenge.rw_ij0110_01.row.prog w (hd.heap_39 w.params) hd.view_39 (looseW hd.view_39 []) mean mg mb 115 [.str V T] 1 8 (RetStr (Str.ofString "/")) := by
  w_top off
  k_fill
  unfold Claim
  intro news dp un gd cn cs a ccd cl outer A₀ base h₀ L m s Q E B F X N Tp hk hdp hun hret
  refine wpAny_call ?_
  k_dflt cell_enter
  k_steps
  all_goals exact hret _ _ _ (by assumption) (News.drop (by assumption) (by kcj_all))
end Mine
end
section
open PySem PySem.W PySem.Calls PyProof.Rows
set_option maxRecDepth 100000
namespace Mine
local macro_rules | `(tactic| walk_at "call builtin:str.find") => `(tactic| (k_here; (with_reducible show wpAny _ _ (call (Value.builtin "str.find") [Value.str _ _, Value.str _ _, Value.int _ _, Value.int _ _]) _ _ _); refine call_find4 ?_))
local macro_rules | `(tactic| walk_at "call builtin:str.rfind") => `(tactic| (k_here; (with_reducible show wpAny _ _ (call (Value.builtin "str.rfind") [Value.str _ _, Value.str _ _, Value.int _ _, Value.int _ _]) _ _ _); refine call_rfind4 ?_))
local macro_rules | `(tactic| walk_at "call ref") => `(tactic| (k_here; (with_reducible show wpAny _ _ (call (Value.ref _) _) _ _ _); k_dflt (refine' Claim.use (fspath_tells _ _ _ _ _ _ ) ?k1 ?k2 ?k3 ?k4 ?k5 ?kK ?kd ?ku ?_; (case k1 => k_asm); (case k2 => k_asm); (case k3 => k_asm); (case k4 => k_asm); (case k5 => k_asm); (case kK => first | exact rfl | assumption); (case kd => ktr_room); (case ku => ktr_units); k_whole); intro t9 h9 tk9 F9 N9; (try dsimp only); (try k_fold)))
local macro_rules | `(tactic| walk_at "call ref") => `(tactic| (k_here; (with_reducible show wpAny _ _ (call (Value.ref _) _) _ _ _); k_dflt (refine' Claim.use (get_sep_tells _ _ _ _ _ _ ) ?k1 ?k2 ?k3 ?k4 ?k5 ?kK ?kd ?ku ?_; (case k1 => k_asm); (case k2 => k_asm); (case k3 => k_asm); (case k4 => k_asm); (case k5 => k_asm); (case kK => first | exact rfl | assumption); (case kd => ktr_room); (case ku => ktr_units); k_whole); intro t9 h9 tk9 F9 N9; (try dsimp only); (try k_fold)))

def RetPair (P : Str → Str → Prop) (Q : Value → Shared → Prop) (h₀ : Heap) (L : Addr) (m : Str → Option Value) (news : List (Addr × Obj)) (s : Shared) : Prop :=
  ∀ (A B : Str) (D : Addr) (ta tb : Tok) (h' : Heap) (tk' : Nat), P A B → Fr h₀ L h' m → News h₀ L h' ((D, ({ cls := .type "tuple", data := .seq #[.str A ta, .str B tb] } : Obj)) :: news) → (∀ p ∈ news, p.1 < D) → Q (.ref D) { s with heap := h', toks := tk' }
def SplitOk (V A B : Str) : Prop :=
  (∃ n : Int, 0 ≤ n ∧ Txt.rfind V (Str.ofString "/") + 1 + 1 * n < Txt.rfind V (Str.ofString ".") ∧
    (Txt.slice V (some (Txt.rfind V (Str.ofString "/") + 1 + 1 * n)) (some (Txt.rfind V (Str.ofString "/") + 1 + 1 * n + 1)) != Str.ofString ".") = true ∧
    A = Txt.slice V none (some (Txt.rfind V (Str.ofString "."))) ∧ B = Txt.slice V (some (Txt.rfind V (Str.ofString "."))) none) ∨
  ((Txt.rfind V (Str.ofString "/") < Txt.rfind V (Str.ofString ".") → ∀ n : Int, 0 ≤ n → Txt.rfind V (Str.ofString "/") + 1 + 1 * n < Txt.rfind V (Str.ofString ".") →
    Txt.slice V (some (Txt.rfind V (Str.ofString "/") + 1 + 1 * n)) (some (Txt.rfind V (Str.ofString "/") + 1 + 1 * n + 1)) = Str.ofString ".") ∧
    A = V ∧ B = Txt.slice V none (some 0))
theorem passed_all {V : Str} {n : Int} (hP : Passed (fun j => decide (Txt.rfind V (Str.ofString "/") + 1 + 1 * j < Txt.rfind V (Str.ofString ".")))
    (fun j => if (Txt.slice V (some (Txt.rfind V (Str.ofString "/") + 1 + 1 * j)) (some (Txt.rfind V (Str.ofString "/") + 1 + 1 * j + 1)) != Str.ofString ".") = true then true else false) n)
    (he : Txt.rfind V (Str.ofString ".") ≤ Txt.rfind V (Str.ofString "/") + 1 + 1 * n) : ∀ k : Int, 0 ≤ k → Txt.rfind V (Str.ofString "/") + 1 + 1 * k < Txt.rfind V (Str.ofString ".") →
    Txt.slice V (some (Txt.rfind V (Str.ofString "/") + 1 + 1 * k)) (some (Txt.rfind V (Str.ofString "/") + 1 + 1 * k + 1)) = Str.ofString "." := by
  intro k h0 h1
  have := (hP k h0 (by omega)).2
  dsimp only at this
  split at this
  · cases this
  · rename_i h
    simpa using h
def stripE (V : Str) : Int := if 0 ≤ Txt.find V (Str.ofString "\n") then Txt.find V (Str.ofString "\n") else V.length
def stripF (V : Str) : Int := if 0 ≤ find4 V (Str.ofString ":") 0 (stripE V) then find4 V (Str.ofString ":") 0 (stripE V) else stripE V
def stripB (V : Str) : Int := if 0 ≤ rfind4 V (Str.ofString ".") 0 (stripF V) then rfind4 V (Str.ofString ".") 0 (stripF V) + 1 else 0
def stripS (V : Str) : Str := Txt.slice V (some (stripB V)) (some (stripF V))
theorem stripE_of {V : Str} {r : Int} (h : 0 ≤ Txt.find V (Str.ofString "\n") ∧ r = Txt.find V (Str.ofString "\n") ∨ ¬0 ≤ Txt.find V (Str.ofString "\n") ∧ r = ↑V.length) : r = stripE V := by
  unfold stripE
  split <;> omega
set_option maxHeartbeats 4000000 in
theorem base_tells (w : World) (mean : ExcName → Option Value) (mg mb : Str → Option Value) (V : Str) (T : Tok) (hV : V.length ≤ 1048576) :
    Claim PySem.Challenge.rw_ij0110_01.row.prog w (hd.heap_39 w.params) hd.view_39 (looseW hd.view_39 []) mean mg mb 132 [.str V T] 2 16 (RetStr (Txt.slice V (some (Txt.rfind V (Str.ofString "/") + 1)) none)) := by
  w_top off
  k_fill
  unfold Claim
  intro news dp un gd cn cs a ccd cl outer A₀ base h₀ L m s Q E B F X N Tp hk hdp hun hret
  refine wpAny_call ?_
  k_dflt cell_enter
  k_steps
  all_goals exact hret _ _ _ (by assumption) (News.drop (by assumption) (by kcj_all))
set_option maxHeartbeats 4000000 in
theorem strip_tells (w : World) (mean : ExcName → Option Value) (mg mb : Str → Option Value) (V : Str) (T : Tok) (hV : V.length ≤ 1048576) :
    Claim PySem.Challenge.rw_ij0110_01.row.prog w (hd.heap_39 w.params) hd.view_39 (looseW hd.view_39 []) mean mg mb 139 [.str V T] 1 8 (RetStr (stripS V)) := by
  w_top off
  k_fill
  unfold Claim
  intro news dp un gd cn cs a ccd cl outer A₀ base h₀ L m s Q E B F X N Tp hk hdp hun hret
  refine wpAny_call ?_
  k_dflt cell_enter
  k_steps
  all_goals (
    have hE := stripE_of (by assumption)
    subst hE
    rw [show stripS V = Txt.slice V (some (stripB V)) (some (stripF V)) from rfl] at hret
    simp only [RetStr, stripB, stripF, *, if_true, if_false] at hret
    exact hret _ _ _ (by assumption) (News.drop (by assumption) (by kcj_all)))
set_option maxHeartbeats 4000000 in
theorem psplit_tells (w : World) (mean : ExcName → Option Value) (mg mb : Str → Option Value) (V : Str) (T t1 t2 : Tok) (hV : V.length ≤ 1048576) :
    Claim PySem.Challenge.rw_ij0110_01.row.prog w (hd.heap_39 w.params) hd.view_39 (looseW hd.view_39 []) mean mg mb 108 [.str V T, .str (Str.ofString "/") t1, .none, .str (Str.ofString ".") t2] 1 8 (RetPair (SplitOk V)) := by
  w_top off
  k_fill
  unfold Claim
  intro news dp un gd cn cs a ccd cl outer A₀ base h₀ L m s Q E B F X N Tp hk hdp hun hret
  refine wpAny_call ?_
  k_dflt cell_enter
  k_steps
  · exact hret _ _ _ _ _ _ _ (.inl ⟨_, by assumption, by assumption, by assumption, rfl, rfl⟩) (by assumption) (by assumption) (by assumption)
  · exact hret _ _ _ _ _ _ _ (.inr ⟨fun _ => passed_all (by assumption) (by assumption), rfl, rfl⟩) (by assumption) (by assumption) (by assumption)
  · exact hret _ _ _ _ _ _ _ (.inr ⟨fun h => absurd h (by assumption), rfl, rfl⟩) (by assumption) (by assumption) (by assumption)
local macro_rules | `(tactic| walk_at "call ref") => `(tactic| (k_here; (with_reducible show wpAny _ _ (call (Value.ref _) _) _ _ _); k_dflt (refine' Claim.use (psplit_tells _ _ _ _ _ _ _ _ ?kp0) ?k1 ?k2 ?k3 ?k4 ?k5 ?kK ?kd ?ku ?_; (case k1 => k_asm); (case k2 => k_asm); (case k3 => k_asm); (case k4 => k_asm); (case k5 => k_asm); (case kK => first | exact rfl | assumption); (case kd => ktr_room); (case ku => ktr_units); (case kp0 => law_fin); k_whole); intro A9 B9 D9 ta9 tb9 h9 tk9 hP9 F9 N9 l9; (try dsimp only); (try k_fold)))
set_option maxHeartbeats 4000000 in
theorem splitext_tells (w : World) (mean : ExcName → Option Value) (mg mb : Str → Option Value) (V : Str) (T : Tok) (hV : V.length ≤ 1048576) :
    Claim PySem.Challenge.rw_ij0110_01.row.prog w (hd.heap_39 w.params) hd.view_39 (looseW hd.view_39 []) mean mg mb 122 [.str V T] 2 16 (RetPair (SplitOk V)) := by
  w_top off
  k_fill
  unfold Claim
  intro news dp un gd cn cs a ccd cl outer A₀ base h₀ L m s Q E B F X N Tp hk hdp hun hret
  refine wpAny_call ?_
  k_dflt cell_enter
  k_steps
  all_goals exact hret _ _ _ _ _ _ _ (by assumption) (by assumption) (by assumption) (by assumption)
end Mine
end
section
open PySem PySem.W PySem.Calls PyProof.Rows PySem.Spec
set_option maxRecDepth 100000
namespace Mine
section
variable {prog : Program} {w : World} {A : Around} {E : Value → Shared → Prop} {s : Shared} {env : Env} {h₀ : Heap} {x : Str} {body : List Stmt} {Q : Flow → Shared → Prop}
def TurnEnd {σ : Type} (h₀ : Heap) (L : Addr) (Led : σ → List (Addr × Obj)) (ps : σ → List (Str × Value)) (P : σ → Prop) (I : Addr) (oI : Obj) (s₁ s₂ : Shared) : Prop :=
  ∃ h' tk m' c, s₂ = { s₁ with heap := h', toks := tk } ∧ Fr h₀ L h' m' ∧ News h₀ L h' (Led c) ∧ h'.get? I = some oI ∧ (∀ p ∈ Led c, p.1 ≠ I) ∧ (∀ p ∈ ps c, m' p.1 = some p.2) ∧ P c
def TurnPost {σ : Type} (h₀ : Heap) (L : Addr) (Led : σ → List (Addr × Obj)) (ps : σ → List (Str × Value)) (P : σ → Prop) (I : Addr) (oI : Obj) (s₁ : Shared) (Q : Flow → Shared → Prop) (f : Flow) (s₂ : Shared) : Prop :=
  match f with
  | .ret v => Q (.ret v) s₂
  | .brk => Q .next s₂
  | _ => TurnEnd h₀ L Led ps P I oI s₁ s₂
theorem TurnEnd.intro {σ : Type} {L : Addr} {Led : σ → List (Addr × Obj)} {ps : σ → List (Str × Value)} {P : σ → Prop} {I : Addr} {oI : Obj} {s₁ : Shared} {h' : Heap} {tk : Nat} {m' : Str → Option Value} {news' : List (Addr × Obj)} (c : σ)
    (F : Fr h₀ L h' m') (N : News h₀ L h' news') (hI : (I, oI) ∈ news') (hn : ∀ p ∈ Led c, p ∈ news') (ho : ∀ p ∈ Led c, p.1 ≠ I) (hm : ∀ p ∈ ps c, m' p.1 = some p.2) (hp : P c) :
    TurnEnd h₀ L Led ps P I oI s₁ { s₁ with heap := h', toks := tk } :=
  ⟨h', tk, m', c, rfl, F, fun p hp => N p (hn p hp), (N _ hI).1, ho, hm, hp⟩
theorem fr_pts {L : Addr} {h : Heap} {ps : List (Str × Value)} {m : Str → Option Value} (h1 : ∀ p ∈ ps, m p.1 = some p.2) (F : Fr h₀ L h m) : Fr h₀ L h (kstB m ps) := by
  have em : kstB m ps = m := by
    funext y
    exact kstB_eq h1 fun _ => rfl
  rw [em]; exact F
theorem fr_pts1 {L : Addr} {h : Heap} {ps : List (Str × Value)} {m : Str → Option Value} {v : Value} (h1 : ∀ p ∈ ps, m p.1 = some p.2) (F : Fr h₀ L h (fun y => if y = x then some v else m y)) : Fr h₀ L h (fun y => if y = x then some v else kstB m ps y) := by
  have em : kstB m ps = m := by
    funext y
    exact kstB_eq h1 fun _ => rfl
  rw [em]; exact F
theorem range_loop {σ : Type} {r : Addr} {a₀ b₀ : Int} {t₀ u₀ v₀ : Tok} {n : Nat} {m₀ : Str → Option Value} {news : List (Addr × Obj)} (Led : σ → List (Addr × Obj)) (ps : σ → List (Str × Value)) (P : Nat → σ → Prop) (c₀ : σ)
    (hh : A.handled = none) (hr : IsRange s.heap r a₀ b₀ 1 t₀ u₀ v₀) (hsmall : Builtin.Range.small a₀ b₀ 1 = true) (hn : Builtin.Range.rangeSize a₀ b₀ 1 = (n : Int))
    (F : Fr h₀ env.locals s.heap m₀) (N : News h₀ env.locals s.heap news) (hl : ∀ p ∈ Led c₀, p ∈ news) (hm : ∀ p ∈ ps c₀, m₀ p.1 = some p.2) (hp : P 0 c₀)
    (turn : ∀ (c : σ) (i : Nat) t (u : Str → Option Value) h tk I oI, i < n → P i c → (∀ p ∈ Led c, p.1 ≠ I) →
      Fr h₀ env.locals h (fun y => if y = x then some (.int (a₀ + i) t) else kstB u (ps c) y) → News h₀ env.locals h ((I, oI) :: Led c) →
      wpAny (model prog w) A (execs body env) (TurnPost h₀ env.locals Led ps (P (i + 1)) I oI { s with heap := h, toks := tk } Q) E { s with heap := h, toks := tk })
    (done : ∀ (c : σ) (u : Str → Option Value) h tk, P n c → Fr h₀ env.locals h (kstB u (ps c)) → News h₀ env.locals h (Led c) → Q .next { s with heap := h, toks := tk }) :
    wpAny (model prog w) A (pyIter (.ref r)) (fun it s₂ => LoopAtV prog w A h₀ env x body Q E it s₂) E s := by
  refine wpAny_pyIter_range hr hsmall ?_
  have W : Walks prog w A s.heap.objs.size [s.heap.objs.size] [s.heap.objs.size] n (fun i v => i < n ∧ ∃ t, v = .int (a₀ + i * 1) t)
      (fun i h => IsRangeIter h s.heap.objs.size (a₀ + (i : Nat) * 1) ((n : Int) - (i : Nat)) 1) := (Walks.range hh _ a₀ 1 n).bound
  let J : Nat → (Str → Option Value) → List (Addr × Obj) → Prop := fun i m nx => ∃ c, nx = Led c ∧ (∀ p ∈ ps c, m p.1 = some p.2) ∧ P i c
  have hnew : ∀ p ∈ Led c₀, p.1 ≠ s.heap.objs.size := fun p hp => Nat.ne_of_lt (Heap.lt_size (N p (hl p hp)).1)
  refine ⟨_, _, _, n, _, _, m₀, Led c₀, J, rfl, W, ?_, ?_, ?_, ?_, F.push _, ?_, ⟨c₀, rfl, hm, hp⟩, ?_, ?_⟩
  · intro hm'
    exact absurd F.ns.lt ((List.mem_singleton.mp hm') ▸ Nat.lt_irrefl _)
  · intro b hb
    rw [List.mem_singleton.mp hb]
    exact next_is_new F
  · intro p hp' hI
    exact hnew p hp' (List.mem_singleton.mp hI)
  · show IsRangeIter _ _ _ _ _
    rw [hn]
    simpa using Heap.get?_push_size _ rfl
  · intro p hp'
    exact ⟨Heap.get?_push_of_some _ (N p (hl p hp')).1, (N p (hl p hp')).2⟩
  · rintro i v m₁ news₁ s₁ own ⟨hh', tk', rfl⟩ hin ⟨_, t, rfl⟩ ⟨c, rfl, hm', hp'⟩ hoff hown hown2 hall hst F₁ N₁
    have e1 : a₀ + (i : Int) * 1 = a₀ + (i : Int) := by omega
    rw [e1] at F₁
    have hoff' : ∀ p ∈ Led c, p.1 ≠ s.heap.objs.size := fun p hp e => hoff p hp (List.mem_singleton.mpr e)
    obtain ⟨oI, hIo⟩ : ∃ oI, (s.heap.objs.size, oI) ∈ own := ⟨_, hall s.heap.objs.size (.head _) (next_is_new F) _ hst⟩
    have N₂ : News h₀ env.locals hh' ((s.heap.objs.size, oI) :: Led c) := fun p hp => by
      rcases List.mem_cons.mp hp with rfl | hp
      · exact N₁ _ (List.mem_append_left _ hIo)
      · exact N₁ p (List.mem_append_right _ hp)
    refine wpAny_mono (turn c i t m₁ hh' tk' _ _ hin hp' hoff' (fr_pts1 hm' F₁) N₂) (fun f s₂ p => ?_) fun _ _ e => e
    have fin : TurnEnd h₀ env.locals Led ps (P (i + 1)) s.heap.objs.size oI { s with heap := hh', toks := tk' } s₂ → LoopStepU h₀ env.locals [s.heap.objs.size] own (J (i + 1)) { s with heap := hh', toks := tk' } .next s₂ := by
      rintro ⟨h', tk, m', c', e, F', N', hI', ho', hm2, hp2⟩
      refine ⟨rfl, h', tk, m', Led c', e, F', fun p hp => ?_, fun p hp hq => ho' p hp (List.mem_singleton.mp hq), c', rfl, hm2, hp2⟩
      rcases List.mem_append.mp hp with h1 | h1
      · have e2 := List.mem_singleton.mp (hown p h1)
        have e3 := hown2 p h1
        have q := N₁ p (List.mem_append_left _ h1)
        refine ⟨?_, q.2⟩
        rw [e2] at e3 ⊢
        have e4 := (N₂ _ (.head _)).1
        rw [hI', ← e3, e4]
      · exact N' p h1
    cases f with
    | ret v => exact .ret p
    | brk => exact .brk p
    | next => exact .next (fin p)
    | cont => exact .cont (fin p)
  · rintro h' tk m' news' F' N' _ ⟨c, rfl, hm', hp'⟩
    exact done c m' h' tk hp' (fr_pts hm' F') N'
end
end Mine
end
section
open PySem PySem.W PySem.Calls PyProof.Rows
set_option maxRecDepth 100000
namespace Mine
def S (l : List Nat) : Str := ⟨l.toArray⟩
theorem S_len (l : List Nat) : (S l).length = l.length := by simp [S, Str.length]
theorem S_list (l : List Nat) : (S l).cps.toList = l := rfl
theorem S_app (a b : List Nat) : S a ++ S b = S (a ++ b) := Str.ext' (by simp [S, Str.cps_append])
theorem S_inj {a b : List Nat} (h : S a = S b) : a = b := by
  have := congrArg (fun x : Str => x.cps.toList) h
  exact this
theorem S_of (x : Str) : x = S x.cps.toList := rfl

section
open PySem.Builtin PySem.Builtin.Str PySem.StrLaws
/-- the first place that occurrences names, below any end -/
theorem occ_head_hi (x y : Str) (lo hi limit : Nat) (hl : 1 ≤ limit) :
    (occurrences x y lo hi limit = [] ∧ ∀ i, lo ≤ i → ¬ At x y hi i) ∨
    ∃ i r, occurrences x y lo hi limit = i :: r ∧ lo ≤ i ∧ At x y hi i ∧ ∀ k, lo ≤ k → k < i → ¬ At x y hi k := by
  have key := occ_first x y hi limit hl (List.range' lo (hi + 1 - lo)) lo (by intro i h; exact (List.mem_range'_1.mp h).1)
  have within : ∀ i, lo ≤ i → At x y hi i → i ∈ List.range' lo (hi + 1 - lo) := by
    intro i h1 h2
    have h3 : i ≤ hi := Nat.le_trans (Nat.le_add_right _ _) h2.1
    exact List.mem_range'_1.mpr ⟨h1, by omega⟩
  rw [occ_eq]
  generalize (forIn (List.range' lo (hi + 1 - lo)) ((#[] : Array Nat), lo) (occBody x y hi limit)).run.fst = found at key ⊢
  rcases key with ⟨h, none⟩ | ⟨pre, a, post, e, h, here, none⟩
  · subst h
    exact .inl ⟨rfl, fun i h1 h2 => none i (within i h1 h2) h2⟩
  · obtain ⟨h1, h2⟩ := range'_split_from e
    obtain ⟨l⟩ := found
    cases l with
    | nil => simp at h
    | cons b t =>
      have hb : b = a := by simpa using h
      exact .inr ⟨a, t, by rw [hb], h1, here, fun k k1 k2 => none k (h2 k k1 k2)⟩
/-- the last place below any end -/
theorem last_hi (x y : Str) (hi : Nat) : (lastOccurrence x y 0 hi = none ∧ ∀ i, ¬ At x y hi i) ∨ ∃ i, lastOccurrence x y 0 hi = some i ∧ At x y hi i ∧ ∀ k, i < k → ¬ At x y hi k := by
  have sorted : (List.range' 0 (hi + 1)).Pairwise (· < ·) := List.pairwise_lt_range'
  have key := last_run x y hi (List.range' 0 (hi + 1)) [] none (by intro i h; cases h) (by intro i h; cases h) sorted
  have within : ∀ i, At x y hi i → i ∈ [] ++ List.range' 0 (hi + 1) := by
    intro i h
    have h3 : i ≤ hi := Nat.le_trans (Nat.le_add_right _ _) h.1
    exact List.mem_range'_1.mpr ⟨Nat.zero_le _, by omega⟩
  rw [← Nat.sub_zero (hi + 1), ← last_eq] at key
  revert key
  cases lastOccurrence x y 0 hi with
  | none => exact fun key => .inl ⟨rfl, fun i h => key i (within i h) h⟩
  | some a => exact fun key => .inr ⟨a, rfl, key.1, fun k h1 h2 => key.2 k (within k h2) h1 h2⟩
theorem at_one {l : List Nat} {c hi i : Nat} (hh : hi ≤ l.length) : At (S l) (S [c]) hi i ↔ i < hi ∧ l[i]? = some c := by
  have h := subAt_one (S l) c i
  unfold At
  have e1 : (S [c]).length = 1 := rfl
  constructor
  · rintro ⟨a, b⟩
    rw [e1] at a
    exact ⟨by omega, h.mp ⟨by show i + 1 ≤ _; rw [S_len]; omega, b⟩⟩
  · rintro ⟨a, b⟩
    exact ⟨by rw [e1]; omega, (h.mpr b).2⟩
theorem fromIndex_nat {n e : Nat} : fromIndex n (e : Int) = e := by
  unfold fromIndex
  rw [if_neg (by omega)]
  omega
theorem find4_cases {l : List Nat} {c e : Nat} (he : e ≤ l.length) :
    (find4 (S l) (S [c]) 0 e = -1 ∧ ∀ i, i < e → l[i]? ≠ some c) ∨ ∃ k : Nat, find4 (S l) (S [c]) 0 e = k ∧ k < e ∧ l[k]? = some c ∧ ∀ i, i < k → l[i]? ≠ some c := by
  unfold find4
  rw [S_len, fromIndex_nat, Nat.min_eq_left he, show fromIndex l.length (0 : Int) = 0 from fromIndex_nat (e := 0)]
  rcases occ_head_hi (S l) (S [c]) 0 e 1 (Nat.le_refl 1) with ⟨h0, hn⟩ | ⟨k, r, h0, _, hk, hn⟩
  · rw [h0]
    exact .inl ⟨rfl, fun i hi hc => hn i (Nat.zero_le _) ((at_one he).mpr ⟨hi, hc⟩)⟩
  · rw [h0]
    have hk' := (at_one he).mp hk
    exact .inr ⟨k, rfl, hk'.1, hk'.2, fun i hi hc => hn i (Nat.zero_le _) hi ((at_one he).mpr ⟨by omega, hc⟩)⟩
theorem rfind4_cases {l : List Nat} {c e : Nat} (he : e ≤ l.length) :
    (rfind4 (S l) (S [c]) 0 e = -1 ∧ ∀ i, i < e → l[i]? ≠ some c) ∨ ∃ k : Nat, rfind4 (S l) (S [c]) 0 e = k ∧ k < e ∧ l[k]? = some c ∧ ∀ i, k < i → i < e → l[i]? ≠ some c := by
  unfold rfind4
  rw [S_len, fromIndex_nat, Nat.min_eq_left he, show fromIndex l.length (0 : Int) = 0 from fromIndex_nat (e := 0)]
  rcases last_hi (S l) (S [c]) e with ⟨h0, hn⟩ | ⟨k, h0, hk, hn⟩
  · rw [h0]
    exact .inl ⟨rfl, fun i hi hc => hn i ((at_one he).mpr ⟨hi, hc⟩)⟩
  · rw [h0]
    have hk' := (at_one he).mp hk
    exact .inr ⟨k, rfl, hk'.1, hk'.2, fun i h1 h2 hc => hn i h1 ((at_one he).mpr ⟨h2, hc⟩)⟩
theorem find_eq (x y : Str) : Txt.find x y = find4 x y 0 x.length := by
  unfold find4 Txt.find
  rw [fromIndex_nat, Nat.min_self, show fromIndex x.length (0 : Int) = 0 from fromIndex_nat (e := 0)]
  rfl
theorem rfind_eq (x y : Str) : Txt.rfind x y = rfind4 x y 0 x.length := by
  unfold rfind4 Txt.rfind
  rw [fromIndex_nat, Nat.min_self, show fromIndex x.length (0 : Int) = 0 from fromIndex_nat (e := 0)]
  rfl
theorem get_mem {l : List Nat} {c i : Nat} (h : l[i]? = some c) : c ∈ l := List.mem_of_getElem? h
theorem not_get {l : List Nat} {c : Nat} (h : c ∉ l) (i : Nat) : l[i]? ≠ some c := fun e => h (get_mem e)
/-- behind a place of the last one -/
theorem after_last {pre w : List Nat} {c i : Nat} (h : c ∉ w) (hi : pre.length < i) : (pre ++ c :: w)[i]? ≠ some c := by
  rw [List.getElem?_append_right (by omega)]
  obtain ⟨k, hk⟩ : ∃ k, i - pre.length = k + 1 := ⟨i - pre.length - 1, by omega⟩
  rw [hk, List.getElem?_cons_succ]
  exact not_get h k
theorem at_last {pre w : List Nat} {c : Nat} : (pre ++ c :: w)[pre.length]? = some c := by
  rw [List.getElem?_append_right (Nat.le_refl _), Nat.sub_self]; rfl
theorem rfind_none {l : List Nat} {c : Nat} (h : c ∉ l) : Txt.rfind (S l) (S [c]) = -1 := by
  rw [rfind_eq, S_len]
  rcases rfind4_cases (l := l) (c := c) (Nat.le_refl l.length) with ⟨h0, _⟩ | ⟨k, _, _, hk, _⟩
  · exact h0
  · exact absurd hk (not_get h k)
theorem rfind_at {pre w : List Nat} {c : Nat} (h : c ∉ w) : Txt.rfind (S (pre ++ c :: w)) (S [c]) = pre.length := by
  rw [rfind_eq, S_len]
  rcases rfind4_cases (l := pre ++ c :: w) (c := c) (Nat.le_refl _) with ⟨_, hn⟩ | ⟨k, h0, hk, hc, hn⟩
  · exact absurd at_last (hn pre.length (by simp))
  · rw [h0]
    have h1 : ¬ pre.length < k := fun q => after_last h q hc
    have h2 : ¬ k < pre.length := fun q => hn pre.length q (by simp) at_last
    omega
theorem rfind4_pre {l det : List Nat} {c : Nat} : rfind4 (S (l ++ det)) (S [c]) 0 l.length = Txt.rfind (S l) (S [c]) := by
  rw [rfind_eq, S_len]
  have hle : l.length ≤ (l ++ det).length := by simp
  have hg : ∀ i, i < l.length → (l ++ det)[i]? = l[i]? := fun i hi => List.getElem?_append_left hi
  rcases rfind4_cases (l := l ++ det) (c := c) hle with ⟨h0, hn⟩ | ⟨k, h0, hk, hc, hn⟩
  · rcases rfind4_cases (l := l) (c := c) (Nat.le_refl l.length) with ⟨h0', _⟩ | ⟨k', h0', hk', hc', _⟩
    · rw [h0, h0']
    · exact absurd ((hg k' hk').trans hc') (hn k' hk')
  · rcases rfind4_cases (l := l) (c := c) (Nat.le_refl l.length) with ⟨_, hn'⟩ | ⟨k', h0', hk', hc', hn'⟩
    · exact absurd ((hg k hk).symm.trans hc) (hn' k hk)
    · rw [h0, h0']
      have h1 : ¬ k < k' := fun q => hn k' q hk' ((hg k' hk').trans hc')
      have h2 : ¬ k' < k := fun q => hn' k q hk ((hg k hk).symm.trans hc)
      omega
theorem slice_ss {l : List Nat} {a b : Nat} (hab : a ≤ b) (hb : b ≤ l.length) : Txt.slice (S l) (some (a : Int)) (some (b : Int)) = S ((l.drop a).take (b - a)) :=
  StrLaws.sliceText_nat (S l) hab (by rw [S_len]; exact hb)
theorem slice_ns {l : List Nat} {b : Nat} (hb : b ≤ l.length) : Txt.slice (S l) none (some (b : Int)) = S (l.take b) := by
  have := StrLaws.sliceText_to (x := S l) (j := (b : Int)) ⟨by omega, by rw [S_list]; omega⟩
  refine Eq.trans this ?_
  simp [S]
theorem slice_sn {l : List Nat} {a : Nat} (ha : a ≤ l.length) : Txt.slice (S l) (some (a : Int)) none = S (l.drop a) := by
  have := StrLaws.sliceText_from (x := S l) (i := (a : Int)) ⟨by omega, by rw [S_list]; omega⟩
  refine Eq.trans this ?_
  rw [S_list]
  show S _ = S _
  congr 1
  rw [List.take_of_length_le]
  · simp
  · simp
end

/-- the words that a sign parts -/
def splitL (c : Nat) : List Nat → List (List Nat)
  | [] => [[]]
  | x :: r => if x = c then [] :: splitL c r else match splitL c r with
    | [] => [[x]]
    | w :: ws => (x :: w) :: ws
def joinL (c : Nat) : List (List Nat) → List Nat
  | [] => []
  | [w] => w
  | w :: v :: r => w ++ c :: joinL c (v :: r)
theorem splitL_ne (c : Nat) : ∀ l, splitL c l ≠ []
  | [] => by simp [splitL]
  | x :: r => by
    unfold splitL
    split
    · simp
    · split <;> simp
theorem splitL_free {c : Nat} : ∀ {l : List Nat}, c ∉ l → splitL c l = [l]
  | [], _ => rfl
  | x :: r, h => by
    have h1 : x ≠ c := fun e => h (e ▸ List.mem_cons_self ..)
    have h2 : c ∉ r := fun e => h (List.mem_cons_of_mem _ e)
    unfold splitL
    rw [if_neg h1, splitL_free h2]
theorem splitL_snoc {c : Nat} {w : List Nat} (hw : c ∉ w) : ∀ pre : List Nat, splitL c (pre ++ c :: w) = splitL c pre ++ [w]
  | [] => by
    show splitL c (c :: w) = [[]] ++ [w]
    rw [splitL, if_pos rfl, splitL_free hw]
    rfl
  | x :: r => by
    show splitL c (x :: (r ++ c :: w)) = splitL c (x :: r) ++ [w]
    rw [splitL, splitL, splitL_snoc hw r]
    split
    · rfl
    · cases h : splitL c r with
      | nil => exact absurd h (splitL_ne c r)
      | cons a t => rfl
theorem joinL_cons {c : Nat} {w : List Nat} {ws : List (List Nat)} (h : ws ≠ []) : joinL c (w :: ws) = w ++ c :: joinL c ws := by
  cases ws with
  | nil => exact absurd rfl h
  | cons a t => rfl
theorem joinL_split (c : Nat) : ∀ l, joinL c (splitL c l) = l
  | [] => rfl
  | x :: r => by
    have ih := joinL_split c r
    unfold splitL
    split
    · rename_i h
      rw [joinL_cons (splitL_ne c r), ih, h]
      rfl
    · split
      · rename_i h
        exact absurd h (splitL_ne c r)
      · rename_i w ws h
        rw [h] at ih
        cases ws with
        | nil =>
          show x :: w = x :: r
          rw [← ih]; rfl
        | cons a t =>
          show x :: (w ++ c :: joinL c (a :: t)) = x :: r
          rw [← ih]; rfl
theorem splitL_mem {c : Nat} : ∀ {l w : List Nat}, w ∈ splitL c l → c ∉ w
  | [], w, h => by
    rw [splitL, List.mem_singleton] at h
    rw [h]; simp
  | x :: r, w, h => by
    unfold splitL at h
    split at h
    · rcases List.mem_cons.mp h with rfl | h
      · simp
      · exact splitL_mem h
    · rename_i hx
      split at h
      · rename_i e
        exact absurd e (splitL_ne c r)
      · rename_i a t e
        rcases List.mem_cons.mp h with rfl | h
        · intro hc
          rcases List.mem_cons.mp hc with rfl | hc
          · exact hx rfl
          · exact splitL_mem (l := r) (by rw [e]; exact List.mem_cons_self ..) hc
        · exact splitL_mem (l := r) (by rw [e]; exact List.mem_cons_of_mem _ h)
theorem split_app {c : Nat} {w : List Nat} (hw : c ∉ w) (r : List Nat) : splitL c (w ++ c :: r) = w :: splitL c r := by
  induction w with
  | nil => show splitL c (c :: r) = _; rw [splitL, if_pos rfl]
  | cons x t ih =>
    have h1 : x ≠ c := fun e => hw (e ▸ List.mem_cons_self ..)
    have h2 : c ∉ t := fun e => hw (List.mem_cons_of_mem _ e)
    show splitL c (x :: (t ++ c :: r)) = _
    rw [splitL, if_neg h1, ih h2]
theorem split_join {c : Nat} : ∀ {ws : List (List Nat)}, ws ≠ [] → (∀ w ∈ ws, c ∉ w) → splitL c (joinL c ws) = ws
  | [], h, _ => absurd rfl h
  | [w], _, hf => splitL_free (hf w (List.mem_cons_self ..))
  | w :: v :: r, _, hf => by
    rw [joinL_cons (by simp), split_app (hf w (List.mem_cons_self ..)), split_join (by simp) fun u hu => hf u (List.mem_cons_of_mem _ hu)]
theorem join_S (c : Nat) : ∀ ws : List (List Nat), Str.join (S [c]) (ws.map S) = S (joinL c ws)
  | [] => rfl
  | [w] => rfl
  | w :: v :: r => by
    have ih := join_S c (v :: r)
    rw [joinL_cons (by simp)]
    show S w ++ S [c] ++ Str.join (S [c]) ((v :: r).map S) = _
    rw [ih, S_app, S_app, List.append_assoc]
    rfl
theorem map_S (ps : List Str) : ps = (ps.map fun p => p.cps.toList).map S := by
  rw [List.map_map]
  conv => lhs; rw [← List.map_id ps]
  rfl
theorem split_ne (x : Str) (c : Nat) : Txt.split x (S [c]) ≠ [] := by
  intro h
  have hj := StrLaws.join_split x (S [c])
  unfold Txt.split at h
  split at h
  · cases h
  · split at h
    · cases h
    · rw [StrLaws.partsBetween_eq] at h
      obtain ⟨p, r, e⟩ := StrLaws.partsFrom_ne x (S [c]).length 0 (Builtin.Str.occurrences x (S [c]) 0 x.length (x.length + 1))
      rw [e] at h
      cases h
theorem split_S (l : List Nat) (c : Nat) : Txt.split (S l) (S [c]) = (splitL c l).map S := by
  have hj := StrLaws.join_split (S l) (S [c])
  have hf := StrLaws.split_free (S l) c
  have hn := split_ne (S l) c
  change ∀ p ∈ Txt.split (S l) (S [c]), _ at hf
  generalize Txt.split (S l) (S [c]) = ps at hj hf hn
  have e := map_S ps
  generalize hws : (ps.map fun p => p.cps.toList) = ws at e
  have hfree : ∀ w ∈ ws, c ∉ w := by
    intro w hw
    rw [← hws] at hw
    obtain ⟨p, hp, rfl⟩ := List.mem_map.mp hw
    exact hf p hp
  have hne : ws ≠ [] := by
    intro q
    rw [q] at e
    exact hn e
  rw [e, join_S] at hj
  rw [e, ← S_inj hj, split_join hne hfree]
end Mine
end
section
open PySem PySem.W PySem.Calls PyProof.Rows
set_option maxRecDepth 100000
namespace Mine
theorem last_cut (c : Nat) : ∀ l : List Nat, c ∉ l ∨ ∃ pre w, l = pre ++ c :: w ∧ c ∉ w
  | [] => .inl (by simp)
  | x :: r => by
    rcases last_cut c r with h | ⟨pre, w, e, h⟩
    · by_cases hx : x = c
      · exact .inr ⟨[], r, by rw [hx]; rfl, h⟩
      · exact .inl fun hc => by
          rcases List.mem_cons.mp hc with e | hc
          · exact hx e.symm
          · exact h hc
    · exact .inr ⟨x :: pre, w, by rw [e]; rfl, h⟩
def Word (d w : List Nat) : Prop := 46 ∉ w ∧ (d = w ∨ ∃ pre, d = pre ++ 46 :: w)
theorem word_ex (d : List Nat) : ∃ w, Word d w := by
  rcases last_cut 46 d with h | ⟨pre, w, e, h⟩
  · exact ⟨d, h, .inl rfl⟩
  · exact ⟨w, h, .inr ⟨pre, e⟩⟩
def Behind (det : List Nat) : Prop := det = [] ∨ (∃ r, det = 58 :: r) ∨ ∃ r, det = 10 :: r
theorem lit_nl : Str.ofString "\n" = S [10] := by decide +kernel
theorem lit_colon : Str.ofString ":" = S [58] := by decide +kernel
theorem lit_dot : Str.ofString "." = S [46] := by decide +kernel
theorem lit_slash : Str.ofString "/" = S [47] := by decide +kernel
theorem lit_empty : Str.ofString "" = S [] := by decide +kernel
theorem get_pre {d det : List Nat} {c k : Nat} (h : c ∉ d) (hk : (d ++ det)[k]? = some c) : d.length ≤ k := by
  refine Nat.le_of_not_lt fun hlt => ?_
  rw [List.getElem?_append_left hlt] at hk
  exact not_get h k hk
theorem stripF_is {d det : List Nat} (h1 : 58 ∉ d) (h2 : 10 ∉ d) (hd : Behind det) : stripF (S (d ++ det)) = (d.length : Int) := by
  have hlen : (d ++ det).length = d.length + det.length := List.length_append
  have hE : ∃ E : Nat, stripE (S (d ++ det)) = E ∧ E ≤ (d ++ det).length ∧ (det = [] ∨ (∃ r, det = 10 :: r) → E = d.length) ∧ ((∃ r, det = 58 :: r) → d.length < E) := by
    unfold stripE
    rw [find_eq, lit_nl, S_len]
    rcases find4_cases (l := d ++ det) (c := 10) (Nat.le_refl _) with ⟨h0, hn⟩ | ⟨k, h0, hk, hc, hn⟩
    · rw [h0, if_neg (by decide)]
      refine ⟨_, rfl, Nat.le_refl _, ?_, ?_⟩
      · rintro (rfl | ⟨r, rfl⟩)
        · simp
        · exact absurd at_last (hn d.length (by simp))
      · rintro ⟨r, rfl⟩
        simp
    · rw [h0, if_pos (by omega)]
      have hge := get_pre h2 hc
      refine ⟨k, rfl, by omega, ?_, ?_⟩
      · rintro (rfl | ⟨r, rfl⟩)
        · simp at hk; omega
        · have : ¬ d.length < k := fun q => hn _ q at_last
          omega
      · rintro ⟨r, rfl⟩
        have : k ≠ d.length := by
          rintro rfl
          rw [at_last] at hc
          cases hc
        omega
  obtain ⟨E, hE, hle, hA, hB⟩ := hE
  unfold stripF
  rw [hE, lit_colon]
  rcases find4_cases (l := d ++ det) (c := 58) hle with ⟨h0, hn⟩ | ⟨k, h0, hk, hc, hn⟩
  · rw [h0, if_neg (by decide)]
    rcases hd with rfl | ⟨r, rfl⟩ | ⟨r, rfl⟩
    · rw [hA (.inl rfl)]
    · exact absurd at_last (hn _ (hB ⟨_, rfl⟩))
    · rw [hA (.inr ⟨_, rfl⟩)]
  · rw [h0, if_pos (by omega)]
    have hge := get_pre h1 hc
    rcases hd with rfl | ⟨r, rfl⟩ | ⟨r, rfl⟩
    · have := hA (.inl rfl); omega
    · have : ¬ d.length < k := fun q => hn _ q at_last
      omega
    · have := hA (.inr ⟨_, rfl⟩); omega
theorem strip_word {d det w : List Nat} (h1 : 58 ∉ d) (h2 : 10 ∉ d) (hd : Behind det) (hw : Word d w) : stripS (S (d ++ det)) = S w := by
  have hF := stripF_is h1 h2 hd
  have hlen : (d ++ det).length = d.length + det.length := List.length_append
  unfold stripS stripB
  rw [hF, lit_dot, rfind4_pre]
  obtain ⟨hw, rfl | ⟨pre, rfl⟩⟩ := hw
  · rw [rfind_none hw, if_neg (by decide)]
    have := slice_ss (l := d ++ det) (a := 0) (b := d.length) (Nat.zero_le _) (by omega)
    rw [show ((0 : Nat) : Int) = 0 from rfl] at this
    rw [this]
    simp
  · rw [rfind_at hw, if_pos (by omega)]
    have := slice_ss (l := (pre ++ 46 :: w) ++ det) (a := pre.length + 1) (b := (pre ++ 46 :: w).length) (by simp <;> omega) (by rw [hlen]; omega)
    rw [show ((pre.length + 1 : Nat) : Int) = (pre.length : Int) + 1 from rfl] at this
    rw [this]
    congr 1
    have e : (pre ++ 46 :: w) ++ det = (pre ++ [46]) ++ (w ++ det) := by simp
    rw [e, List.drop_left' (by simp), List.take_left' (by simp <;> omega)]

def Fold (fold : List Nat) : Prop := fold = [] ∨ ∃ p, fold = p ++ [47]
theorem rfind_fold {fold rest : List Nat} (hf : Fold fold) (h : 47 ∉ rest) : Txt.rfind (S (fold ++ rest)) (S [47]) = (fold.length : Int) - 1 := by
  rcases hf with rfl | ⟨p, rfl⟩
  · rw [List.nil_append, rfind_none h]; rfl
  · rw [List.append_assoc, List.singleton_append, rfind_at h]
    simp
theorem splitOk_dot {fold pre w : List Nat} {A B : Str} (hf : Fold fold) (h47 : 47 ∉ pre) (hw47 : 47 ∉ w) (hw : 46 ∉ w) (hx : ∃ x ∈ pre, x ≠ 46)
    (h : SplitOk (S (fold ++ (pre ++ 46 :: w))) A B) : A = S (fold ++ pre) ∧ B = S (46 :: w) := by
  have e1 : Txt.rfind (S (fold ++ (pre ++ 46 :: w))) (Str.ofString "/") = (fold.length : Int) - 1 := by
    rw [lit_slash]
    refine rfind_fold hf fun hc => ?_
    rcases List.mem_append.mp hc with hc | hc
    · exact h47 hc
    · rcases List.mem_cons.mp hc with hc | hc
      · cases hc
      · exact hw47 hc
  have e2 : Txt.rfind (S (fold ++ (pre ++ 46 :: w))) (Str.ofString ".") = ((fold.length + pre.length : Nat) : Int) := by
    rw [lit_dot, ← List.append_assoc, rfind_at hw, List.length_append]
  unfold SplitOk at h
  rw [e1, e2] at h
  rcases h with ⟨n, _, _, _, rfl, rfl⟩ | ⟨hn, _, _⟩
  · rw [slice_ns (by simp <;> omega), slice_sn (by simp <;> omega), ← List.append_assoc]
    exact ⟨by rw [List.take_left' (by simp)], by rw [List.drop_left' (by simp)]⟩
  · exfalso
    obtain ⟨x, hx, hne⟩ := hx
    obtain ⟨n, hn', hget⟩ := List.getElem_of_mem hx
    have := hn (by omega) (n : Int) (by omega) (by omega)
    rw [show (fold.length : Int) - 1 + 1 + 1 * (n : Int) = ((fold.length + n : Nat) : Int) by omega, show ((fold.length + n : Nat) : Int) + 1 = ((fold.length + n + 1 : Nat) : Int) by omega,
      slice_ss (by omega) (by simp <;> omega), lit_dot] at this
    have h2 := S_inj this
    rw [show fold.length + n + 1 - (fold.length + n) = 1 by omega] at h2
    have h3 : (fold ++ (pre ++ 46 :: w))[fold.length + n]? = some 46 := by
      rw [← StrLaws.take1_drop, h2]; rfl
    rw [List.getElem?_append_right (by omega), show fold.length + n - fold.length = n by omega, List.getElem?_append_left hn', List.getElem?_eq_getElem hn', hget] at h3
    exact hne (Option.some.inj h3)
theorem splitOk_plain {fold w : List Nat} {k : Nat} {A B : Str} (hf : Fold fold) (hw47 : 47 ∉ w) (hw : 46 ∉ w)
    (h : SplitOk (S (fold ++ (List.replicate k 46 ++ w))) A B) : A = S (fold ++ (List.replicate k 46 ++ w)) ∧ B = S [] := by
  have e1 : Txt.rfind (S (fold ++ (List.replicate k 46 ++ w))) (Str.ofString "/") = (fold.length : Int) - 1 := by
    rw [lit_slash]
    refine rfind_fold hf fun hc => ?_
    rcases List.mem_append.mp hc with hc | hc
    · have := (List.mem_replicate.mp hc).2
      cases this
    · exact hw47 hc
  unfold SplitOk at h
  rw [e1, lit_dot] at h
  rcases h with ⟨n, h0, h1, h2, _, _⟩ | ⟨_, rfl, rfl⟩
  · exfalso
    rw [rfind_eq, S_len] at h1
    rcases rfind4_cases (l := fold ++ (List.replicate k 46 ++ w)) (c := 46) (Nat.le_refl _) with ⟨q, _⟩ | ⟨j, q, hj, hc, _⟩
    · rw [q] at h1; omega
    · rw [q] at h1
      obtain ⟨n, rfl⟩ := Int.eq_ofNat_of_zero_le h0
      have hjk : j - fold.length < k := by
        refine Nat.lt_of_not_le fun hle => ?_
        rw [List.getElem?_append_right (by omega), List.getElem?_append_right (by simp <;> omega)] at hc
        exact not_get hw _ hc
      have hV : (fold ++ (List.replicate k 46 ++ w))[fold.length + n]? = some 46 := by
        rw [List.getElem?_append_right (by omega), show fold.length + n - fold.length = n by omega, List.getElem?_append_left (by simp <;> omega), List.getElem?_replicate, if_pos (by omega)]
      rw [show (fold.length : Int) - 1 + 1 + 1 * (n : Int) = ((fold.length + n : Nat) : Int) by omega, show ((fold.length + n : Nat) : Int) + 1 = ((fold.length + n + 1 : Nat) : Int) by omega,
        slice_ss (by omega) (by omega), show fold.length + n + 1 - (fold.length + n) = 1 by omega] at h2
      have h3 := StrLaws.take1_drop.mpr hV
      rw [beq_iff_eq.mp h3] at h2
      simp at h2
  · refine ⟨rfl, ?_⟩
    have := slice_ns (l := fold ++ (List.replicate k 46 ++ w)) (b := 0) (Nat.zero_le _)
    rw [show ((0 : Nat) : Int) = 0 from rfl] at this
    rw [this]; rfl
theorem base_is {fold name : List Nat} (hf : Fold fold) (h : 47 ∉ name) : Txt.slice (S (fold ++ name)) (some (Txt.rfind (S (fold ++ name)) (Str.ofString "/") + 1)) none = S name := by
  rw [lit_slash, rfind_fold hf h, show (fold.length : Int) - 1 + 1 = ((fold.length : Nat) : Int) by omega, slice_sn (by simp)]
  rw [List.drop_left' rfl]
theorem fold_cut (f : List Nat) : ∃ fold name, f = fold ++ name ∧ 47 ∉ name ∧ Fold fold ∧ (splitL 47 f).getLast? = some name := by
  rcases last_cut 47 f with h | ⟨pre, w, rfl, h⟩
  · exact ⟨[], f, rfl, h, .inl rfl, by rw [splitL_free h]; rfl⟩
  · exact ⟨pre ++ [47], w, by simp, h, .inr ⟨pre, rfl⟩, by rw [splitL_snoc h]; simp⟩
end Mine
end
section
open PySem PySem.W PySem.Calls PyProof.Rows
set_option maxRecDepth 100000
namespace Mine
theorem joinL_snoc {c : Nat} {w : List Nat} : ∀ {ws : List (List Nat)}, ws ≠ [] → joinL c (ws ++ [w]) = joinL c ws ++ c :: w
  | [], h => absurd rfl h
  | [v], _ => rfl
  | v :: u :: r, _ => by
    have ih := joinL_snoc (c := c) (w := w) (ws := u :: r) (by simp)
    refine (joinL_cons (c := c) (w := v) (ws := u :: r ++ [w]) (by simp)).trans ?_
    rw [ih, joinL_cons (c := c) (w := v) (ws := u :: r) (by simp)]
    simp
theorem joinL_take_len {c : Nat} : ∀ (ws : List (List Nat)) (m : Nat), (joinL c (ws.take m)).length ≤ (joinL c ws).length
  | [], m => by simp
  | [w], 0 => by simp [joinL]
  | [w], m + 1 => by simp
  | w :: v :: r, 0 => by simp [joinL]
  | w :: v :: r, 1 => by
    show (joinL c [w]).length ≤ _
    rw [joinL_cons (w := w) (ws := v :: r) (by simp)]
    simp [joinL]
  | w :: v :: r, m + 2 => by
    have ih := joinL_take_len (c := c) (v :: r) (m + 1)
    show (joinL c (w :: v :: r.take m)).length ≤ _
    rw [joinL_cons (w := w) (by simp), joinL_cons (w := w) (by simp)]
    simp only [List.length_append, List.length_cons]
    have e : (v :: r).take (m + 1) = v :: r.take m := rfl
    rw [e] at ih
    omega
theorem joinL_len {c : Nat} : ∀ ws : List (List Nat), ws.length ≤ (joinL c ws).length + 1
  | [] => by simp
  | [w] => by simp
  | w :: v :: r => by
    have ih := joinL_len (c := c) (v :: r)
    rw [joinL_cons (by simp), List.length_append, List.length_cons]
    simp only [List.length_cons] at ih ⊢
    omega
theorem joinL_mem {c x : Nat} {w : List Nat} : ∀ {ws : List (List Nat)}, w ∈ ws → x ∈ w → x ∈ joinL c ws
  | [], h, _ => nomatch h
  | [v], h, hx => by rw [List.mem_singleton.mp h] at hx; exact hx
  | v :: u :: r, h, hx => by
    rw [joinL_cons (by simp)]
    rcases List.mem_cons.mp h with rfl | h
    · exact List.mem_append_left _ hx
    · exact List.mem_append_right _ (List.mem_cons_of_mem _ (joinL_mem h hx))
theorem joinL_not {c x : Nat} (hxc : x ≠ c) : ∀ {ws : List (List Nat)}, (∀ w ∈ ws, x ∉ w) → x ∉ joinL c ws
  | [], _ => by simp [joinL]
  | [v], h => h v (List.mem_cons_self ..)
  | v :: u :: r, h => by
    rw [joinL_cons (by simp)]
    intro hc
    rcases List.mem_append.mp hc with hc | hc
    · exact h v (List.mem_cons_self ..) hc
    · rcases List.mem_cons.mp hc with hc | hc
      · exact hxc hc
      · exact joinL_not hxc (fun w hw => h w (List.mem_cons_of_mem _ hw)) hc
theorem joinL_dots {w : List Nat} : ∀ k : Nat, joinL 46 (List.replicate k [] ++ [w]) = List.replicate k 46 ++ w
  | 0 => rfl
  | k + 1 => by
    rw [List.replicate_succ, List.cons_append, joinL_cons (by simp), joinL_dots k]
    rfl
theorem take_snoc {ws : List (List Nat)} {m : Nat} {w : List Nat} (h : ws[m]? = some w) : ws.take (m + 1) = ws.take m ++ [w] := by
  rw [List.take_add_one, h]; rfl
theorem take_blank {ws : List (List Nat)} : ∀ {k : Nat}, (∀ i, i < k → ws[i]? = some []) → ws.take k = List.replicate k []
  | 0, _ => rfl
  | k + 1, h => by
    rw [take_snoc (h k (Nat.lt_succ_self _)), take_blank fun i hi => h i (Nat.lt_succ_of_lt hi), List.replicate_succ']
def Lead (ws : List (List Nat)) (k : Nat) : Prop := k < ws.length ∧ (∀ i, i < k → ws[i]? = some []) ∧ (k + 1 = ws.length ∨ ∃ w, ws[k]? = some w ∧ w ≠ [])
def Plain (ws : List (List Nat)) : Prop := ∀ w ∈ ws, 46 ∉ w ∧ 47 ∉ w
theorem split_step {fold : List Nat} {ws : List (List Nat)} {k m : Nat} {A B : Str} (hf : Fold fold) (hp : Plain ws) (hl : Lead ws k) (hk : k + 1 ≤ m) (hm : m ≤ ws.length)
    (h : SplitOk (S (fold ++ joinL 46 (ws.take m))) A B) :
    (m = k + 1 ∧ A = S (fold ++ joinL 46 (ws.take (k + 1))) ∧ B = S []) ∨ (k + 1 ≤ m - 1 ∧ 1 ≤ m ∧ A = S (fold ++ joinL 46 (ws.take (m - 1))) ∧ ∃ w, ws[m - 1]? = some w ∧ B = S (46 :: w)) := by
  have mem : ∀ {i : Nat} {w : List Nat}, ws[i]? = some w → w ∈ ws := fun e => List.mem_of_getElem? e
  by_cases hmk : m = k + 1
  · subst hmk
    obtain ⟨w, hw⟩ : ∃ w, ws[k]? = some w := ⟨ws[k], List.getElem?_eq_getElem (by omega)⟩
    have e : joinL 46 (ws.take (k + 1)) = List.replicate k 46 ++ w := by rw [take_snoc hw, take_blank hl.2.1, joinL_dots]
    rw [e] at h ⊢
    obtain ⟨h1, h2⟩ := splitOk_plain hf (hp w (mem hw)).2 (hp w (mem hw)).1 h
    exact .inl ⟨rfl, h1, h2⟩
  · obtain ⟨m, rfl⟩ : ∃ n, m = n + 1 := ⟨m - 1, by omega⟩
    simp only [Nat.add_sub_cancel]
    obtain ⟨w, hw⟩ : ∃ w, ws[m]? = some w := ⟨ws[m], List.getElem?_eq_getElem (by omega)⟩
    have hne : ws.take m ≠ [] := by
      intro q
      have := congrArg List.length q
      simp only [List.length_take, List.length_nil] at this
      omega
    have e : joinL 46 (ws.take (m + 1)) = joinL 46 (ws.take m) ++ 46 :: w := by rw [take_snoc hw, joinL_snoc hne]
    rw [e] at h
    have hv : ∃ v, ws[k]? = some v ∧ v ≠ [] := by
      rcases hl.2.2 with q | q
      · omega
      · exact q
    obtain ⟨v, hv, hvn⟩ := hv
    have hvt : v ∈ ws.take m := List.mem_of_getElem? (i := k) (by rw [List.getElem?_take_of_lt (by omega)]; exact hv)
    have hx : ∃ x ∈ joinL 46 (ws.take m), x ≠ 46 := by
      cases v with
      | nil => exact absurd rfl hvn
      | cons x r => exact ⟨x, joinL_mem hvt (List.mem_cons_self ..), fun q => (hp _ (mem hv)).1 (q ▸ List.mem_cons_self ..)⟩
    obtain ⟨h1, h2⟩ := splitOk_dot hf (joinL_not (by decide) fun u hu => (hp u (List.mem_of_mem_take hu)).2) (hp w (mem hw)).2 (hp w (mem hw)).1 hx h
    exact .inr ⟨by omega, by omega, h1, w, hw, h2⟩
end Mine
end
section
open PySem PySem.W PySem.Calls PyProof.Rows
set_option maxRecDepth 100000
namespace Mine
open PySem.Spec
local macro_rules | `(tactic| walk_at "call builtin:str.find") => `(tactic| (k_here; (with_reducible show wpAny _ _ (call (Value.builtin "str.find") [Value.str _ _, Value.str _ _, Value.int _ _, Value.int _ _]) _ _ _); refine call_find4 ?_))
local macro_rules | `(tactic| walk_at "call builtin:str.rfind") => `(tactic| (k_here; (with_reducible show wpAny _ _ (call (Value.builtin "str.rfind") [Value.str _ _, Value.str _ _, Value.int _ _, Value.int _ _]) _ _ _); refine call_rfind4 ?_))

def Lts (D : Addr) (news : List (Addr × Obj)) : Prop := ∀ p ∈ news, p.1 < D
def Stop (P : Prop) : Prop := P
theorem stopMark {P : Prop} (h : Stop P) : P := h
def RetStrs (ws : List Str) (Q : Value → Shared → Prop) (h₀ : Heap) (L : Addr) (m : Str → Option Value) (news : List (Addr × Obj)) (s : Shared) : Prop :=
  ∀ (l : List (Str × Tok)) (D : Addr) (c : Nat) (h' : Heap) (tk' : Nat), l.map (·.1) = ws → Fr h₀ L h' m → News h₀ L h' ((D, listOf (strValues l).toArray c) :: news) → Lts D news → Q (.ref D) { s with heap := h', toks := tk' }
section
variable {M : Model} {prog : Program} {w : World} {A : Around} {E : Value → Shared → Prop} {s : Shared} {h₀ : Heap} {L a b : Addr} {m : Str → Option Value} {news : List (Addr × Obj)} {Q : Value → Shared → Prop}
theorem add_strs1 {x : Str} {t : Tok} {lb : List (Str × Tok)} {ca cb : Nat} (F : Fr h₀ L s.heap m) (N : News h₀ L s.heap news) (ha : (a, listOf #[.str x t] ca) ∈ news) (hb : (b, listOf (strValues lb).toArray cb) ∈ news) (hz : lb.length ≤ 1000000)
    (h : ∀ D h', Fr h₀ L h' m → News h₀ L h' ((D, listOf (strValues ((x, t) :: lb)).toArray 0) :: news) → Lts D news → Q (.ref D) { s with heap := h' }) :
    wpAny (model prog w) A (binaryOp .Add (.ref a) (.ref b)) Q E s := by
  refine kmk_add_lit (its := #[.str x t]) (its2 := (strValues lb).toArray) (zs := strValues ((x, t) :: lb)) F N (N.isList ha) (N.isList hb) (by simp [strValues]) h ?_
  simp [strValues, sizeLine_eq]; omega
end
theorem strip2_tells (w : World) (mean : ExcName → Option Value) (mg mb : Str → Option Value) (d det wd : List Nat) (T : Tok) (h1 : 58 ∉ d ∧ 10 ∉ d) (hb : Behind det) (hw : Word d wd) (hV : d.length + det.length ≤ 1048576) :
    Claim PySem.Challenge.rw_ij0110_01.row.prog w (hd.heap_39 w.params) hd.view_39 (looseW hd.view_39 []) mean mg mb 139 [.str (S d ++ S det) T] 1 8 (RetStr (S wd)) := by
  have h := strip_tells w mean mg mb (S (d ++ det)) T (by rw [S_len, List.length_append]; exact hV)
  rw [strip_word h1.1 h1.2 hb hw] at h
  rw [S_app]
  exact h
theorem word_len {d w : List Nat} (h : Word d w) : w.length ≤ d.length := by
  obtain ⟨_, rfl | ⟨p, rfl⟩⟩ := h
  · exact Nat.le_refl _
  · simp; omega
local macro_rules | `(tactic| walk_at "call ref") => `(tactic| k_extra "my call")
local macro_rules | `(tactic| walk_at "pyIter ref") => `(tactic| (k_here; (with_reducible show wpAny _ _ (pyIter (Value.ref _)) (fun it s₂ => LoopAtV _ _ _ _ _ _ _ _ _ it s₂) _ _); refine stopMark ?_))
local macro_rules | `(tactic| walk_at "binaryOp Add ref ref") => `(tactic| (k_here; (with_reducible show wpAny _ _ (binaryOp _ (Value.ref _) (Value.ref _)) _ _ _); k_dflt (refine' add_strs1 ?qF ?qN ?qa ?qb ?qz ?_; (case qF => k_asm); (case qN => k_asm); (case qa => k_mem); (case qb => k_mem); (case qz => assumption)); intro D9 h9 F9 N9 l9; (try k_sweep)))
local macro_rules | `(tactic| walk_at "TurnPost") => `(tactic| dsimp only [TurnPost])

structure PSt where
  d : List Nat
  td : Tok
  l : List (Str × Tok)
  D : Addr
  c : Nat
def PLed (news : List (Addr × Obj)) (c : PSt) : List (Addr × Obj) := (c.D, listOf (strValues c.l).toArray c.c) :: news
def PPs (det : List Nat) (T2 : Tok) (c : PSt) : List (Str × Value) := [(Str.ofString "dotted", .str (S c.d) c.td), (Str.ofString "bare", .ref c.D), (Str.ofString "detail", .str (S det) T2)]
def PInv (d0 : List Nat) (i : Nat) (c : PSt) : Prop := c.d.length + i ≤ d0.length ∧ c.l.length = i ∧ (58 ∉ c.d ∧ 10 ∉ c.d) ∧ (splitL 46 c.d).map S ++ c.l.map (·.1) = (splitL 46 d0).map S
set_option maxHeartbeats 4000000 in
theorem peeled_tells (w : World) (mean : ExcName → Option Value) (mg mb : Str → Option Value) (d0 det : List Nat) (T1 T2 : Tok) (h1 : d0.length ≤ 1000) (h2 : det.length ≤ 1000) (hn : 58 ∉ d0 ∧ 10 ∉ d0) (hdet : Behind det) :
    Claim PySem.Challenge.rw_ij0110_01.row.prog w (hd.heap_39 w.params) hd.view_39 (looseW hd.view_39 []) mean mg mb 153 [.str (S d0) T1, .str (S det) T2] 2 16 (RetStrs ((splitL 46 d0).map S)) := by
  w_top off
  k_fill
  k_with_none
  have h1' : (S d0).length ≤ 1000 := by rw [S_len]; exact h1
  have h2' : (S det).length ≤ 1000 := by rw [S_len]; exact h2
  k_with "my call" => (k_here; (with_reducible show wpAny _ _ (call (Value.ref _) _) _ _ _); k_dflt (refine' Claim.use (strip2_tells _ _ _ _ _ _ _ _ ?kp0 ?kp1 ?kp2 ?kp3) ?k1 ?k2 ?k3 ?k4 ?k5 ?kK ?kd ?ku ?_; (case k1 => k_asm); (case k2 => k_asm); (case k3 => k_asm); (case k4 => k_asm); (case k5 => k_asm); (case kK => first | exact rfl | assumption); (case kd => ktr_room); (case ku => ktr_units); (case kp0 => assumption); (case kp1 => assumption); (case kp2 => assumption); (case kp3 => omega); k_whole); intro t9 h9 tk9 F9 N9; (try dsimp only); (try k_fold))
  unfold Claim
  intro news dp un gd cn cs a ccd cl outer A₀ base h₀ L m s Q E B F X N Tp hk hdp hun hret
  refine wpAny_call ?_
  k_dflt cell_enter
  k_steps
  unfold Stop
  rename IsRange _ _ _ _ _ _ _ _ => rgX
  rename Fr _ _ _ _ => lF
  rename News _ _ _ _ => lN
  with_unfolding_all refine' range_loop (σ := PSt) (PLed news) (PPs det T2) (PInv d0) ⟨d0, T1, [], _, 0⟩ ?hh rgX ?hs (rangeSize_nat _ _) lF lN ?hl ?hm ?hp ?turn ?done
  case hh => rfl
  case hs => exact small_one (by l_bnd) (by l_bnd) (by l_bnd) (by l_bnd)
  case hl =>
    dsimp only [PLed]
    kcj_all
  case hm =>
    intro p hp
    simp only [PPs, List.mem_cons, List.not_mem_nil, or_false] at hp
    rcases hp with rfl | rfl | rfl <;> rfl
  case hp => exact ⟨Nat.le_refl _, rfl, hn, by simp⟩
  case done =>
    intro c u h tk hp F1 N1
    exfalso
    have q := hp.1
    rw [S_len] at q
    omega
  case turn =>
    intro c i t u h tk I oI hi hp hne F1 N1
    clear lF lN
    obtain ⟨p1, p2, p3, p4⟩ := hp
    obtain ⟨wd, hwd⟩ := word_ex c.d
    have hcd : c.d.length ≤ 1000 := by omega
    have hd' : (S c.d).length ≤ 1000 := by rw [S_len]; omega
    have hwl := word_len hwd
    have hwd' : (S wd).length ≤ 1000 := by rw [S_len]; omega
    have hl : c.l.length ≤ 1000000 := by omega
    dsimp only [PLed, PPs, kstB] at F1 N1
    (with_reducible show wpAny _ _ _ _ _ _)
    k_fold
    k_steps
    · have e : wd = c.d := S_inj (beq_iff_eq.mp (by assumption))
      refine hret ((S wd, _) :: c.l) _ _ _ _ ?_ (by assumption) (News.drop (by assumption) (by kcj_all)) ?_
      · rw [← p4, splitL_free (show 46 ∉ c.d from e ▸ hwd.1), e]; rfl
      · rename Lts _ _ => l9
        exact fun p hp => l9 p (.tail _ (.tail _ (.tail _ hp)))
    · have hne' : S wd ≠ S c.d := by
        intro q
        have : (S wd == S c.d) = false := by assumption
        rw [q] at this
        simp at this
      obtain ⟨hw46, rfl | ⟨pre, hpre⟩⟩ := hwd
      · exact absurd rfl hne'
      · have e : Txt.slice (S c.d) none (some (((S c.d).length : Int) - (S wd).length - 1)) = S pre := by
          have hl1 : c.d.length = pre.length + 1 + wd.length := by rw [hpre]; simp; omega
          rw [S_len, S_len, show ((c.d.length : Int) - wd.length - 1) = ((pre.length : Nat) : Int) by omega, slice_ns (by omega), hpre, List.take_left' rfl]
        rename Fr _ _ _ _ => F9
        rw [e] at F9
        rename Lts _ _ => l9
        refine' TurnEnd.intro ⟨pre, _, (S wd, _) :: c.l, _, 0⟩ ?yF ?yN ?yI ?yn ?yo ?ym ?yp
        case yF => exact F9
        case yN => assumption
        case yI => k_mem
        case yn => exact List.forall_mem_cons.mpr ⟨by k_mem, by kcj_all⟩
        case yo => exact List.forall_mem_cons.mpr ⟨Nat.ne_of_gt (l9 _ (.tail _ (.head _))), fun p hp => hne p (.tail _ hp)⟩
        case ym =>
          intro p hp
          simp only [PPs, List.mem_cons, List.not_mem_nil, or_false] at hp
          rcases hp with rfl | rfl | rfl <;> rfl
        case yp =>
          refine ⟨?_, ?_, ?_, ?_⟩
          · show pre.length + (i + 1) ≤ _
            have : c.d.length = pre.length + 1 + wd.length := by rw [hpre]; simp; omega
            omega
          · show (_ :: c.l).length = _
            simp [p2]
          · rw [hpre] at p3
            exact ⟨fun q => p3.1 (List.mem_append_left _ q), fun q => p3.2 (List.mem_append_left _ q)⟩
          · rw [← p4, hpre, splitL_snoc hw46]
            simp
end Mine
end
section
open PySem PySem.W PySem.Calls PyProof.Rows
set_option maxRecDepth 100000
namespace Mine
open PySem.Spec
local macro_rules | `(tactic| walk_at "call builtin:str.find") => `(tactic| (k_here; (with_reducible show wpAny _ _ (call (Value.builtin "str.find") [Value.str _ _, Value.str _ _, Value.int _ _, Value.int _ _]) _ _ _); refine call_find4 ?_))
local macro_rules | `(tactic| walk_at "call builtin:str.rfind") => `(tactic| (k_here; (with_reducible show wpAny _ _ (call (Value.builtin "str.rfind") [Value.str _ _, Value.str _ _, Value.int _ _, Value.int _ _]) _ _ _); refine call_rfind4 ?_))
local macro_rules | `(tactic| walk_at "call ref") => `(tactic| k_extra "my call")
local macro_rules | `(tactic| walk_at "pyIter ref") => `(tactic| (k_here; (with_reducible show wpAny _ _ (pyIter (Value.ref _)) (fun it s₂ => LoopAtV _ _ _ _ _ _ _ _ _ it s₂) _ _); refine stopMark ?_))
local macro_rules | `(tactic| walk_at "binaryOp Add ref ref") => `(tactic| (k_here; (with_reducible show wpAny _ _ (binaryOp _ (Value.ref _) (Value.ref _)) _ _ _); k_dflt (refine' add_strs1 ?qF ?qN ?qa ?qb ?qz ?_; (case qF => k_asm); (case qN => k_asm); (case qa => k_mem); (case qb => k_mem); (case qz => assumption)); intro D9 h9 F9 N9 l9; (try k_sweep)))
local macro_rules | `(tactic| walk_at "TurnPost") => `(tactic| dsimp only [TurnPost])

def takenS (fold : List Nat) (ws : List (List Nat)) (k : Nat) : List Str := S (fold ++ joinL 46 (ws.take (k + 1))) :: (ws.drop (k + 1)).map fun w => S (46 :: w)
structure TSt where
  m : Nat
  td : Tok
  l : List (Str × Tok)
  D : Addr
  c : Nat
def TLed (news : List (Addr × Obj)) (c : TSt) : List (Addr × Obj) := (c.D, listOf (strValues c.l).toArray c.c) :: news
def TPs (fold : List Nat) (ws : List (List Nat)) (c : TSt) : List (Str × Value) := [(Str.ofString "path", .str (S (fold ++ joinL 46 (ws.take c.m))) c.td), (Str.ofString "endings", .ref c.D)]
def TInv (ws : List (List Nat)) (k : Nat) (i : Nat) (c : TSt) : Prop := c.m + i = ws.length ∧ k + 1 ≤ c.m ∧ c.l.map (·.1) = (ws.drop c.m).map fun w => S (46 :: w)
theorem splitext2_tells (w : World) (mean : ExcName → Option Value) (mg mb : Str → Option Value) (fold : List Nat) (ws : List (List Nat)) (k m : Nat) (T : Tok) (hf : Fold fold) (hp : Plain ws) (hl : Lead ws k) (hk : k + 1 ≤ m) (hm : m ≤ ws.length)
    (hV : (fold ++ joinL 46 ws).length ≤ 1048576) :
    Claim PySem.Challenge.rw_ij0110_01.row.prog w (hd.heap_39 w.params) hd.view_39 (looseW hd.view_39 []) mean mg mb 122 [.str (S (fold ++ joinL 46 (ws.take m))) T] 2 16
      (RetPair fun A B => (m = k + 1 ∧ A = S (fold ++ joinL 46 (ws.take (k + 1))) ∧ B = S []) ∨ (k + 1 ≤ m - 1 ∧ 1 ≤ m ∧ A = S (fold ++ joinL 46 (ws.take (m - 1))) ∧ ∃ w, ws[m - 1]? = some w ∧ B = S (46 :: w))) := by
  have hV' : (S (fold ++ joinL 46 (ws.take m))).length ≤ 1048576 := by
    rw [S_len, List.length_append]
    rw [List.length_append] at hV
    have := joinL_take_len (c := 46) ws m
    omega
  have h := splitext_tells w mean mg mb (S (fold ++ joinL 46 (ws.take m))) T hV'
  intro news dp un gd cn cs a ccd cl outer A₀ base h₀ L mm s Q E B F X N Tp hk1 hdp hun hret
  exact h news dp un gd cn cs a ccd cl outer A₀ base h₀ L mm s Q E B F X N Tp hk1 hdp hun fun A B D ta tb h' tk' hAB => hret A B D ta tb h' tk' (split_step hf hp hl hk hm hAB)
set_option maxHeartbeats 4000000 in
theorem taken_tells (w : World) (mean : ExcName → Option Value) (mg mb : Str → Option Value) (fold : List Nat) (ws : List (List Nat)) (k : Nat) (T : Tok) (hf : Fold fold) (hpl : Plain ws) (hld : Lead ws k) (hV : (fold ++ joinL 46 ws).length ≤ 1000) :
    Claim PySem.Challenge.rw_ij0110_01.row.prog w (hd.heap_39 w.params) hd.view_39 (looseW hd.view_39 []) mean mg mb 160 [.str (S (fold ++ joinL 46 ws)) T] 3 24 (RetStrs (takenS fold ws k)) := by
  w_top off
  k_fill
  k_with_none
  have h1' : (S (fold ++ joinL 46 ws)).length ≤ 1000 := by rw [S_len]; exact hV
  have hV2 : (fold ++ joinL 46 ws).length ≤ 1048576 := by omega
  have hwl : ws.length ≤ (fold ++ joinL 46 ws).length + 1 := by
    have := joinL_len (c := 46) ws
    rw [List.length_append]
    omega
  k_with "my call" => (k_here; (with_reducible show wpAny _ _ (call (Value.ref _) _) _ _ _); k_dflt (refine' Claim.use (splitext2_tells _ _ _ _ _ _ _ _ _ ?kp0 ?kp1 ?kp2 ?kp3 ?kp4 ?kp5) ?k1 ?k2 ?k3 ?k4 ?k5 ?kK ?kd ?ku ?_; (case k1 => k_asm); (case k2 => k_asm); (case k3 => k_asm); (case k4 => k_asm); (case k5 => k_asm); (case kK => first | exact rfl | assumption); (case kd => ktr_room); (case ku => ktr_units); (case kp0 => assumption); (case kp1 => assumption); (case kp2 => assumption); (case kp3 => assumption); (case kp4 => omega); (case kp5 => assumption); k_whole); intro A9 B9 D9 ta9 tb9 h9 tk9 hP9 F9 N9 l9; (try dsimp only); (try k_fold))
  unfold Claim
  intro news dp un gd cn cs a ccd cl outer A₀ base h₀ L m s Q E B F X N Tp hk hdp hun hret
  refine wpAny_call ?_
  k_dflt cell_enter
  k_steps
  unfold Stop
  rename IsRange _ _ _ _ _ _ _ _ => rgX
  rename Fr _ _ _ _ => lF
  rename News _ _ _ _ => lN
  with_unfolding_all refine' range_loop (σ := TSt) (TLed news) (TPs fold ws) (TInv ws k) ⟨ws.length, T, [], _, 0⟩ ?hh rgX ?hs (rangeSize_nat _ _) lF lN ?hl ?hm ?hp ?turn ?done
  case hh => rfl
  case hs => exact small_one (by l_bnd) (by l_bnd) (by l_bnd) (by l_bnd)
  case hl =>
    dsimp only [TLed]
    kcj_all
  case hm =>
    intro p hp
    simp only [TPs, List.mem_cons, List.not_mem_nil, or_false] at hp
    rw [List.take_length] at hp
    rcases hp with rfl | rfl <;> rfl
  case hp => exact ⟨Nat.add_zero _, hld.1, by simp⟩
  case done =>
    intro c u h tk hp F1 N1
    exfalso
    obtain ⟨q1, q2, _⟩ := hp
    rw [S_len] at q1
    omega
  case turn =>
    intro c i t u h tk I oI hi hp hne F1 N1
    clear lF lN
    obtain ⟨p1, p2, p3⟩ := hp
    have hl : c.l.length ≤ 1000000 := by
      have := congrArg List.length p3
      simp only [List.length_map, List.length_drop] at this
      omega
    dsimp only [TLed, TPs, kstB] at F1 N1
    (with_reducible show wpAny _ _ _ _ _ _)
    k_fold
    k_steps
    · have hB : B9 = S [] := (beq_iff_eq.mp (by assumption)).trans lit_empty
      rename Lts _ _ => l9
      refine hret ((A9, _) :: c.l) _ _ _ _ ?_ (by assumption) (News.drop (by assumption) (by kcj_all)) fun p hp => l9 p (.tail _ (.tail _ (.tail _ (.tail _ hp))))
      rcases hP9 with ⟨e1, e2, _⟩ | ⟨_, _, _, w9, _, e2⟩
      · show A9 :: c.l.map (·.1) = _
        rw [p3, e1, e2]; rfl
      · rw [hB] at e2
        exact absurd (S_inj e2) (by simp)
    · have hB : B9 ≠ S [] := by
        intro q
        have : (B9 == Str.ofString "") = false := by assumption
        rw [q, lit_empty] at this
        simp at this
      rcases hP9 with ⟨_, _, e2⟩ | ⟨q1, q2, e1, w9, hw9, e2⟩
      · exact absurd e2 hB
      · rename Fr _ _ _ _ => F9
        rw [e1] at F9
        rename Lts _ _ => l9
        refine' TurnEnd.intro ⟨c.m - 1, _, (B9, _) :: c.l, _, 0⟩ ?yF ?yN ?yI ?yn ?yo ?ym ?yp
        case yF => exact F9
        case yN => assumption
        case yI => k_mem
        case yn => exact List.forall_mem_cons.mpr ⟨by k_mem, by kcj_all⟩
        case yo => exact List.forall_mem_cons.mpr ⟨Nat.ne_of_gt (l9 _ (.tail _ (.tail _ (.head _)))), fun p hp => hne p (.tail _ hp)⟩
        case ym =>
          intro p hp
          simp only [TPs, List.mem_cons, List.not_mem_nil, or_false] at hp
          rcases hp with rfl | rfl <;> rfl
        case yp =>
          refine ⟨?_, q1, ?_⟩
          · show c.m - 1 + (i + 1) = _
            omega
          · show B9 :: c.l.map (·.1) = (ws.drop (c.m - 1)).map _
            obtain ⟨hlt, hget⟩ := List.getElem?_eq_some_iff.mp hw9
            rw [List.drop_eq_getElem_cons hlt, hget, p3, e2, show c.m - 1 + 1 = c.m by omega]
            rfl
end Mine
end
section
open PySem PySem.W PySem.Calls PyProof.Rows PyProof.V PySem.Spec
set_option maxRecDepth 100000
namespace Mine
structure TextsAre (q : List (Str × Tok)) (ss : List Str) : Prop where
  eq : q.map (·.1) = ss
theorem TextsAre.len {q : List (Str × Tok)} {ss : List Str} (h : TextsAre q ss) : q.length = ss.length := by rw [← h.eq, List.length_map]
theorem word_le {c : Nat} {w : List Nat} : ∀ {ws : List (List Nat)}, w ∈ ws → w.length ≤ (joinL c ws).length
  | [], h => nomatch h
  | [v], h => by rw [List.mem_singleton.mp h]; exact Nat.le_refl _
  | v :: u :: r, h => by
    rw [joinL_cons (w := v) (ws := u :: r) (by simp), List.length_append, List.length_cons]
    rcases List.mem_cons.mp h with rfl | h
    · omega
    · have := word_le (c := c) h
      omega
theorem mem_joinL {c x : Nat} : ∀ {ws : List (List Nat)}, x ∈ joinL c ws → x = c ∨ ∃ w ∈ ws, x ∈ w
  | [], h => nomatch h
  | [v], h => .inr ⟨v, List.mem_cons_self .., h⟩
  | v :: u :: r, h => by
    rw [joinL_cons (w := v) (ws := u :: r) (by simp)] at h
    rcases List.mem_append.mp h with h | h
    · exact .inr ⟨v, List.mem_cons_self .., h⟩
    · rcases List.mem_cons.mp h with h | h
      · exact .inl h
      · rcases mem_joinL h with h | ⟨w, hw, h⟩
        · exact .inl h
        · exact .inr ⟨w, List.mem_cons_of_mem _ hw, h⟩
theorem joinL_sum (c : Nat) : ∀ ws : List (List Nat), (ws.map (·.length)).sum ≤ (joinL c ws).length
  | [] => by simp
  | [w] => by simp [joinL]
  | w :: v :: r => by
    have ih := joinL_sum c (v :: r)
    rw [joinL_cons (w := w) (ws := v :: r) (by simp), List.map_cons, List.sum_cons, List.length_append, List.length_cons]
    omega
section
variable {prog : Program} {w : World} {A : Around} {E : Value → Shared → Prop} {s : Shared} {h₀ : Heap} {L D D2 : Addr} {m : Str → Option Value} {news : List (Addr × Obj)} {q q2 : List (Str × Tok)} {ss ss2 : List Str} {c c2 : Nat} {Q : Value → Shared → Prop}
theorem w_split {l : List Nat} {y : Str} {k : Nat} {t u : Tok} (hy : y = S [k]) (F : Fr h₀ L s.heap m) (N : News h₀ L s.heap news) (hz : (S l).length ≤ 1000000)
    (h : ∀ D q h' k', TextsAre q ((splitL k l).map S) → Fr h₀ L h' m → News h₀ L h' ((D, listOf (strValues q).toArray 0) :: news) → Lts D news → Q (.ref D) { s with heap := h', toks := k' }) :
    wpAny (model prog w) A (call (.builtin "str.split") [.str (S l) t, .str y u]) Q E s := by
  subst hy
  refine KSpl.split1 F N rfl (fun D q h' k' e _ F' N' l1 => h D q h' k' ⟨by rw [e, split_S]⟩ F' N' l1) ?_
  rw [sizeLine_eq]; omega
theorem w_item {value slice : Expr} {k : Int} {u : Tok} {x : Str} (N : News h₀ L s.heap news) (hD : (D, listOf (strValues q).toArray c) ∈ news) (hq : TextsAre q ss) (h0 : 0 ≤ k) (hfit : k < 2 ^ 63) (hx : ss[k.toNat]? = some x) (h : ∀ t, Q (.str x t) s)
    (hs : subscripted slice false (.ref D) (.int k u) = operate [.ref D, .int k u] (getItem (.ref D) (.int k u))) :
    wpAny (model prog w) A (subscriptTail value slice (.ref D) (.int k u)) Q E s := by
  have hlt : k.toNat < ss.length := (List.getElem?_eq_some_iff.mp hx).1
  refine item_strsT (N.isList hD) h0 (by rw [hq.len]; omega) hfit (fun y t' e => ?_) hs
  rw [hq.eq, hx] at e
  cases e
  exact h t'
theorem w_item_last {value slice : Expr} {u : Tok} {x : Str} (N : News h₀ L s.heap news) (hD : (D, listOf (strValues q).toArray c) ∈ news) (hq : TextsAre q ss) (hx : ss.getLast? = some x) (h : ∀ t, Q (.str x t) s)
    (hs : subscripted slice false (.ref D) (.int (-1) u) = operate [.ref D, .int (-1) u] (getItem (.ref D) (.int (-1) u))) :
    wpAny (model prog w) A (subscriptTail value slice (.ref D) (.int (-1) u)) Q E s := by
  have hne : ss ≠ [] := by intro e; rw [e] at hx; cases hx
  have hlt : 0 < ss.length := List.length_pos_iff.mpr hne
  refine item_strsTneg (N.isList hD) (by decide) (by rw [hq.len]; omega) (by decide) (fun y t' e => ?_) hs
  rw [hq.eq, hq.len, show ((-1 : Int) + (ss.length : Int)).toNat = ss.length - 1 by omega, ← List.getLast?_eq_getElem?, hx] at e
  cases e
  exact h t'
theorem w_len (N : News h₀ L s.heap news) (hD : (D, listOf (strValues q).toArray c) ∈ news) (hq : TextsAre q ss) (hz : ss.length ≤ 1000000)
    (h : Q (.int ss.length (s.toks + 1)) { s with toks := s.toks + 1 + 1 }) : wpAny (model prog w) A (call (.builtin "len") [.ref D]) Q E s :=
  len_strs (N.isList hD) (by rw [hq.len]; omega) (by rw [hq.len]; exact h)
theorem carried_strs : ∀ q : List (Str × Tok), CarriedAll (strValues q) ((q.map (·.1)).map PyData.str)
  | [] => .nil
  | p :: r => .cons (.str p.1 p.2) (carried_strs r)
def Oks (ss : List Str) : Prop := ∀ x ∈ ss, PyData.strOk x = true
theorem canLay_strs : ∀ {ss : List Str}, Oks ss → PyData.canLayAll0 (ss.map PyData.str) = true
  | [], _ => rfl
  | x :: r, h => by simp [PyData.canLayAll0, PyData.canLay0, canLay_strs (ss := r) fun y hy => h y (.tail _ hy), h x (.head _)]
theorem depth_strs : ∀ ss : List Str, PyData.depthAll (ss.map PyData.str) = 0
  | [] => rfl
  | _ :: r => by simp [PyData.depthAll, PyData.depth, depth_strs r]
theorem shaped_strs {ss : List Str} (h : Oks ss) : SeqAt.shaped (.list (ss.map PyData.str)) = true := by
  simp [SeqAt.shaped, PyData.canLay0, PyData.depth, canLay_strs h, depth_strs]
theorem sameAll_strs : ∀ a b : List Str, PySem.Spec.sameAll (a.map PyData.str) (b.map PyData.str) = decide (a = b)
  | [], [] => by simp [PySem.Spec.sameAll]
  | [], _ :: _ => by simp [PySem.Spec.sameAll]
  | _ :: _, [] => by simp [PySem.Spec.sameAll]
  | a :: r, b :: t => by
    simp only [List.map_cons, PySem.Spec.sameAll, PySem.Spec.same, sameAll_strs r t]
    by_cases h : a = b <;> by_cases h' : r = t <;> simp [h, h']
theorem same_strs (a b : List Str) : PySem.Spec.same (.list (a.map PyData.str)) (.list (b.map PyData.str)) = decide (a = b) := by
  simp only [PySem.Spec.same]; exact sameAll_strs a b
theorem w_eq (N : News h₀ L s.heap news) (hD : (D, listOf (strValues q).toArray c) ∈ news) (hD2 : (D2, listOf (strValues q2).toArray c2) ∈ news) (hq : TextsAre q ss) (hq2 : TextsAre q2 ss2) (hok : Oks ss) (hok2 : Oks ss2) (hu : A.units + 64 < cLine) (h : Q (.bool (decide (ss = ss2))) s) :
    wpAny (model prog w) A (compareOp .Eq (.ref D) (.ref D2)) Q E s := by
  have r1 := reads_newData (N.isList hD) (carried_strs q)
  have r2 := reads_newData (N.isList hD2) (carried_strs q2)
  rw [hq.eq] at r1
  rw [hq2.eq] at r2
  exact eq_dataH_same r1 r2 (shaped_strs hok) (shaped_strs hok2) hu (SeqAt.noMix_of_shape (.list .str) rfl _ _ (list_map_has fun _ => rfl) (list_map_has fun _ => rfl)) (by rw [same_strs]; exact h)
theorem w_ne (N : News h₀ L s.heap news) (hD : (D, listOf (strValues q).toArray c) ∈ news) (hD2 : (D2, listOf (strValues q2).toArray c2) ∈ news) (hq : TextsAre q ss) (hq2 : TextsAre q2 ss2) (hok : Oks ss) (hok2 : Oks ss2) (hu : A.units + 64 < cLine) (h : Q (.bool (!decide (ss = ss2))) s) :
    wpAny (model prog w) A (compareOp .NotEq (.ref D) (.ref D2)) Q E s := by
  have r1 := reads_newData (N.isList hD) (carried_strs q)
  have r2 := reads_newData (N.isList hD2) (carried_strs q2)
  rw [hq.eq] at r1
  rw [hq2.eq] at r2
  exact ne_dataH_same r1 r2 (shaped_strs hok) (shaped_strs hok2) hu (SeqAt.noMix_of_shape (.list .str) rfl _ _ (list_map_has fun _ => rfl) (list_map_has fun _ => rfl)) (by rw [same_strs]; exact h)
theorem w_eq_true (N : News h₀ L s.heap news) (hD : (D, listOf (strValues q).toArray c) ∈ news) (hD2 : (D2, listOf (strValues q2).toArray c2) ∈ news) (hq : TextsAre q ss) (hq2 : TextsAre q2 ss2) (hok : Oks ss) (hok2 : Oks ss2) (he : ss = ss2) (hu : A.units + 64 < cLine) (h : Q (.bool true) s) :
    wpAny (model prog w) A (compareOp .Eq (.ref D) (.ref D2)) Q E s := w_eq N hD hD2 hq hq2 hok hok2 hu (by rw [decide_eq_true he]; exact h)
theorem w_ne_false (N : News h₀ L s.heap news) (hD : (D, listOf (strValues q).toArray c) ∈ news) (hD2 : (D2, listOf (strValues q2).toArray c2) ∈ news) (hq : TextsAre q ss) (hq2 : TextsAre q2 ss2) (hok : Oks ss) (hok2 : Oks ss2) (he : ss = ss2) (hu : A.units + 64 < cLine) (h : Q (.bool false) s) :
    wpAny (model prog w) A (compareOp .NotEq (.ref D) (.ref D2)) Q E s := w_ne N hD hD2 hq hq2 hok hok2 hu (by rw [decide_eq_true he]; exact h)
theorem pick_hi (q : List (Str × Tok)) {y : Int} (hy : 0 ≤ y) : kms_pick (strValues q).toArray.toList none (some y) = strValues (q.take y.toNat) := by
  unfold kms_pick kms_lo kms_hi
  dsimp only
  rw [if_neg (by omega), List.drop_zero, Nat.sub_zero, kmk_take_min]
  simp [strValues, List.map_take]
theorem pick_lo (q : List (Str × Tok)) {x : Int} (hx : 0 ≤ x) : kms_pick (strValues q).toArray.toList (some x) none = strValues (q.drop x.toNat) := by
  unfold kms_pick kms_lo kms_hi
  dsimp only
  rw [if_neg (by omega), kmk_drop_min, List.take_of_length_le (by rw [List.length_drop]; omega)]
  simp [strValues, List.map_drop]
theorem w_slice_hi {value slice : Expr} {y : Int} {vu : Value} (F : Fr h₀ L s.heap m) (N : News h₀ L s.heap news) (hD : (D, listOf (strValues q).toArray c) ∈ news) (hq : TextsAre q ss) (pu : IsPart vu (some y)) (hy : 0 ≤ y) (hz : ss.length ≤ 1000000)
    (hs : subscripted slice false (.ref D) (.ref s.heap.objs.size) = operate [.ref s.heap.objs.size, .ref D] (getItem (.ref D) (.ref s.heap.objs.size))) (ht : ∀ r, letTemporaryGo value (.ref D) r = pure ())
    (h : ∀ D' q' h', TextsAre q' (ss.take y.toNat) → Fr h₀ L h' m → News h₀ L h' ((D', listOf (strValues q').toArray 0) :: news) → Lts D' news → Q (.ref D') { s with heap := h' }) :
    wpAny (model prog w) A (subscriptTail value slice (.ref D) (.ref s.heap.objs.size)) Q E { s with heap := s.heap.push { cls := .type "slice", data := .fields #[.none, vu, .none] } } :=
  kms_slice_lit F N (N.isList hD) IsPart.none pu (pick_hi q hy) (fun D' h' F' N' l1 => h D' (q.take y.toNat) h' ⟨by rw [List.map_take, hq.eq]⟩ F' N' l1) hs ht (by
    have := hq.len
    simp [strValues, sizeLine_eq]; omega)
theorem w_slice_lo {value slice : Expr} {x : Int} {vl : Value} (F : Fr h₀ L s.heap m) (N : News h₀ L s.heap news) (hD : (D, listOf (strValues q).toArray c) ∈ news) (hq : TextsAre q ss) (pl : IsPart vl (some x)) (hx : 0 ≤ x) (hz : ss.length ≤ 1000000)
    (hs : subscripted slice false (.ref D) (.ref s.heap.objs.size) = operate [.ref s.heap.objs.size, .ref D] (getItem (.ref D) (.ref s.heap.objs.size))) (ht : ∀ r, letTemporaryGo value (.ref D) r = pure ())
    (h : ∀ D' q' h', TextsAre q' (ss.drop x.toNat) → Fr h₀ L h' m → News h₀ L h' ((D', listOf (strValues q').toArray 0) :: news) → Lts D' news → Q (.ref D') { s with heap := h' }) :
    wpAny (model prog w) A (subscriptTail value slice (.ref D) (.ref s.heap.objs.size)) Q E { s with heap := s.heap.push { cls := .type "slice", data := .fields #[vl, .none, .none] } } :=
  kms_slice_lit F N (N.isList hD) pl IsPart.none (pick_lo q hx) (fun D' h' F' N' l1 => h D' (q.drop x.toNat) h' ⟨by rw [List.map_drop, hq.eq]⟩ F' N' l1) hs ht (by
    have := hq.len
    simp [strValues, sizeLine_eq]; omega)
theorem w_join {ws : List (List Nat)} {y : Str} {k : Nat} {t : Tok} (hy : y = S [k]) (N : News h₀ L s.heap news) (hD : (D, listOf (strValues q).toArray c) ∈ news) (hq : TextsAre q (ws.map S)) (hz : (joinL k ws).length ≤ 1000000)
    (h : ∀ t' k', Q (.str (S (joinL k ws)) t') { s with toks := k' }) : wpAny (model prog w) A (call (.builtin "str.join") [.str y t, .ref D]) Q E s := by
  subst hy
  refine join_list (ys := ws.map S) (N.isList hD) (by have := strsAre_of_values q; rw [hq.eq] at this; simpa using this) ?_ fun t' k' => ?_
  · have h1 := joinL_sum k ws
    have e : ((ws.map S).map (·.length)).sum = (ws.map (·.length)).sum := by
      rw [List.map_map]
      exact congrArg List.sum (List.map_congr_left fun x _ => S_len x)
    rw [e, List.length_map, show (S [k]).length = 1 from rfl]
    have := joinL_len (c := k) ws
    omega
  · have e : Txt.join (S [k]) (ws.map S) = S (joinL k ws) := by
      rw [← join_S]
      exact StrLaws.glued_eq_join _ _
    rw [e]
    exact h t' k'
end
section
variable {prog : Program} {w : World} {A : Around} {E : Value → Shared → Prop} {Q : Flow → Shared → Prop} {s : Shared} {env : Env} {h₀ : Heap} {L : Addr}
theorem my_while {σ : Type} {news : List (Addr × Obj)} {test : Expr} {body : List Stmt} {pos : Pos} {m₀ : Str → Option Value} (ps : σ → List (Str × Value)) (stored : List Str) (P : σ → Prop) (μ : σ → Nat) (c₀ : σ)
    (F : Fr h₀ L s.heap m₀) (N : News h₀ L s.heap news) (hk : ∀ p ∈ ps c₀, m₀ p.1 = some p.2) (hp : P c₀)
    (turn : ∀ (c : σ) (u : Str → Option Value) h tk, P c → Fr h₀ L h (kstB (fun z => if stored.contains z then u z else m₀ z) (ps c)) → News h₀ L h news →
      wpAny (model prog w) A (isTrue test env (eval test env)) (fun b s₂ =>
        if b = true then wpAny (model prog w) A (execs body env) (KswPost h₀ L s (fun _ => news) ps (fun _ => True) stored m₀ P μ Q c) E s₂ else Q .next s₂) E { s with heap := h, toks := tk })
    (hE : PassesOwn (model prog w) A env E) :
    wpAny (model prog w) A (exec (.While test body [] pos) env) Q E s :=
  ksw_while (fun _ => news) ps (fun _ => True) stored P μ c₀ F N trivial hk hp (fun c u h tk _ => turn c u h tk) hE
end
section
variable {prog : Program} {w : World} {A : Around} {E : Value → Shared → Prop} {Q : Flow → Shared → Prop} {s : Shared} {env : Env} {h₀ : Heap} {L : Addr}
def WDone {σ : Type} (h₀ : Heap) (L : Addr) (s : Shared) (news : List (Addr × Obj)) (ps : σ → List (Str × Value)) (stored : List Str) (m₀ : Str → Option Value) (P' : σ → Prop) (s₂ : Shared) : Prop :=
  ∃ (c : σ) (h' : Heap) (tk : Nat) (u : Str → Option Value), s₂ = { s with heap := h', toks := tk } ∧ Fr h₀ L h' (kstB (fun z => if stored.contains z then u z else m₀ z) (ps c)) ∧ News h₀ L h' news ∧ P' c
theorem WDone.intro {σ : Type} {news : List (Addr × Obj)} {ps : σ → List (Str × Value)} {stored : List Str} {m₀ : Str → Option Value} {P' : σ → Prop} {h' : Heap} {tk : Nat} {u : Str → Option Value} (c : σ)
    (F : Fr h₀ L h' (kstB (fun z => if stored.contains z then u z else m₀ z) (ps c))) (N : News h₀ L h' news) (hp : P' c) : WDone h₀ L s news ps stored m₀ P' { s with heap := h', toks := tk } := ⟨c, h', tk, u, rfl, F, N, hp⟩
theorem my_while2 {σ : Type} {news : List (Addr × Obj)} {test : Expr} {body : List Stmt} {pos : Pos} {m₀ : Str → Option Value} (ps : σ → List (Str × Value)) (stored : List Str) (P P' : σ → Prop) (μ : σ → Nat) (c₀ : σ)
    (F : Fr h₀ L s.heap m₀) (N : News h₀ L s.heap news) (hk : ∀ p ∈ ps c₀, m₀ p.1 = some p.2) (hp : P c₀)
    (turn : ∀ (c : σ) (u : Str → Option Value) h tk, P c → Fr h₀ L h (kstB (fun z => if stored.contains z then u z else m₀ z) (ps c)) → News h₀ L h news →
      wpAny (model prog w) A (isTrue test env (eval test env)) (fun b s₂ =>
        if b = true then wpAny (model prog w) A (execs body env) (KswPost h₀ L s (fun _ => news) ps (fun _ => True) stored m₀ P μ Q c) E s₂ else WDone h₀ L s news ps stored m₀ P' s₂) E { s with heap := h, toks := tk })
    (done : ∀ (c : σ) (u : Str → Option Value) h tk, P' c → Fr h₀ L h (kstB (fun z => if stored.contains z then u z else m₀ z) (ps c)) → News h₀ L h news → Q .next { s with heap := h, toks := tk })
    (hE : PassesOwn (model prog w) A env E) :
    wpAny (model prog w) A (exec (.While test body [] pos) env) Q E s :=
  my_while ps stored P μ c₀ F N hk hp (fun c u h tk hP F1 N1 => wpAny_mono (turn c u h tk hP F1 N1) (fun b s₂ hb => by
    cases b with
    | true => exact hb
    | false =>
      obtain ⟨c', h', tk', u', rfl, F', N', hp'⟩ := hb
      exact done c' u' h' tk' hp' F' N') fun _ _ e => e) hE
end
section
variable {prog : Program} {w : World} {A : Around} {h₀ : Heap} {L : Addr} {m : Str → Option Value} {env : Env} {elt : Expr} {x : Str} {scope : Scope} {cl : List (Str × Addr)} {s : Shared} {Sx : List (Addr × Obj) → Prop} {P : Nat → Value → Prop} {Fin : List Value → List (Addr × Obj) → Prop} {news : List (Addr × Obj)}
def ElIs (news : List (Addr × Obj)) (r : Str) (y : Value) (news' : List (Addr × Obj)) : Prop := news' = news ∧ ∃ t : Tok, y = .str r t
theorem my_rest {n : Nat} {ks : List Str} (g : Str → Str) (hks : ks.length = n) (hP : ∀ i v, i < n → P i v → ∃ k t, ks[i]? = some k ∧ v = .str k t)
    (turn : ∀ k t I oI C oC D m₂ ys h tk (E' : Value → Shared → Prop), k ∈ ks → LCg.NsObj oC m₂ → m₂ x = some (.str k t) → Fr h₀ L h m → News h₀ L h ((I, oI) :: (C, oC) :: (D, LCg.lst ys) :: news) → LCg.Off3 I C D news → ((@Ne Nat I C) ∧ (@Ne Nat I D) ∧ (@Ne Nat C D)) →
      wpAny (model prog w) A (eval elt (compEnvC scope cl C env)) (LCg.CompEnd h₀ L m { s with heap := h, toks := tk } I oI C oC D (LCg.lst ys) Sx (fun y news' => ElIs news (g k) y news')) E' { s with heap := h, toks := tk })
    (fin : ∀ q, TextsAre q (ks.map g) → Fin (strValues q) news) : LCg.CompRest prog w A h₀ L m env elt x scope cl s Sx P Fin n 0 [] news := by
  have all : ∀ (rest front : List Str) (q : List (Str × Tok)), front ++ rest = ks → TextsAre q (front.map g) → LCg.CompRest prog w A h₀ L m env elt x scope cl s Sx P Fin rest.length front.length (strValues q) news := by
    intro rest
    induction rest with
    | nil =>
      intro front q e hq
      rw [List.append_nil] at e
      exact LCg.CompRest.zero (fin q (e ▸ hq))
    | cons k rest ih =>
      intro front q e hq
      have here : ks[front.length]? = some k := by rw [← e]; simp
      have more : front.length < n := by rw [← hks, ← e]; simp
      refine LCg.CompRest.succ fun v I oI C oC D m₂ h tk E' hv hC hx F N off ne => ?_
      obtain ⟨k', t, hk, rfl⟩ := hP _ v more hv
      obtain rfl : k = k' := Option.some.inj (here.symm.trans hk)
      refine wpAny_mono (turn k t I oI C oC D m₂ (strValues q) h tk E' (List.mem_of_getElem? here) hC hx F N off ne) ?_ fun _ _ z => z
      rintro y s₂ ⟨h', tk', nw, e₂, F', N', off', hS, rfl, t', rfl⟩
      have step := ih (front ++ [k]) (q ++ [(g k, t')]) (by rw [List.append_assoc]; exact e) ⟨by rw [List.map_append, List.map_append, hq.eq]; rfl⟩
      rw [show strValues (q ++ [(g k, t')]) = strValues q ++ [.str (g k) t'] by simp [strValues], List.length_append] at step
      exact ⟨h', tk', _, e₂, F', N', off', hS, step⟩
  have whole := all ks [] [] rfl ⟨rfl⟩
  rw [hks] at whole
  exact whole
theorem my_comp {FinS : Shared → List Value → List (Addr × Obj) → Prop} {ax : Addr} {q : List (Str × Tok)} {ss : List Str} {c : Nat} (g : Str → Str)
    (hh : A.handled = none) (F : Fr h₀ L s.heap m) (N : News h₀ L s.heap news) (hm : (ax, listOf (strValues q).toArray c) ∈ news) (hq : TextsAre q ss) (hz : ss.length ≤ 1000000)
    (turn : ∀ g' k t I oI C oC D m₂ ys h tk (E' : Value → Shared → Prop), k ∈ ss → LCg.NsObj oC m₂ → m₂ x = some (.str k t) → Fr h₀ L h m → News h₀ L h ((I, oI) :: (C, oC) :: (D, LCg.lst ys) :: news) → LCg.Off3 I C D news → ((@Ne Nat I C) ∧ (@Ne Nat I D) ∧ (@Ne Nat C D)) →
      wpAny (model prog w) A (eval elt (compEnvC scope cl C env)) (LCg.CompEnd h₀ L m { ({ s with heap := g' } : Shared) with heap := h, toks := tk } I oI C oC D (LCg.lst ys) (LCg.SrcAt h₀ ax (strValues q).toArray) (fun y news' => ElIs news (g k) y news')) E' { ({ s with heap := g' } : Shared) with heap := h, toks := tk })
    (fin : ∀ g' q', TextsAre q' (ss.map g) → FinS { s with heap := g' } (strValues q') news) : LCg.CompSrc prog w A h₀ L m env elt x scope cl FinS (.ref ax) s := by
  refine LCg.CompSrc.ledger (its := (strValues q).toArray) (k := c) hh F N hm (by have := hq.len; simp [strValues, sizeLine_eq]; omega) fun g' => ?_
  refine my_rest (ks := ss) g (by rw [← hq.len]; simp [strValues]) (fun i v hi hv => ?_) (fun k t I oI C oC D m₂ ys h tk E' => turn g' k t I oI C oC D m₂ ys h tk E') (fin g')
  have e := hq.eq
  have hlt : i < q.length := by simpa [strValues] using hi
  refine ⟨q[i].1, q[i].2, ?_, ?_⟩
  · rw [← e, List.getElem?_map, List.getElem?_eq_getElem hlt]; rfl
  · have : (strValues q).toArray[i]? = some (.str q[i].1 q[i].2) := by simp [strValues, hlt]
    rw [this] at hv
    exact (Option.some.inj hv).symm
end
theorem lead_end {ws : List (List Nat)} {k : Nat} (h1 : k < ws.length) (h2 : ∀ i, i < k → ws[i]? = some []) (h3 : ¬ (k : Int) < ((ws.map S).length : Int) - 1) : Lead ws k :=
  ⟨h1, h2, .inl (by rw [List.length_map] at h3; omega)⟩
theorem lead_word {ws : List (List Nat)} {k : Nat} {wl : List Nat} (h1 : k < ws.length) (h2 : ∀ i, i < k → ws[i]? = some []) (hg : ws[k]? = some wl) (hb : (S wl == Str.ofString "") = false) : Lead ws k :=
  ⟨h1, h2, .inr ⟨wl, hg, fun e => by rw [e, lit_empty] at hb; simp at hb⟩⟩
structure LSt where
  lead : Nat
  t : Tok
def LPs (c : LSt) : List (Str × Value) := [(Str.ofString "lead", .int (c.lead : Int) c.t)]
def LInv (ws : List (List Nat)) (c : LSt) : Prop := c.lead < ws.length ∧ ∀ i, i < c.lead → ws[i]? = some []
theorem oks_of {ws : List (List Nat)} (h : ∀ w ∈ ws, ∀ c ∈ w, c < 1114112) : Oks (ws.map S) := by
  intro x hx
  obtain ⟨w, hw, rfl⟩ := List.mem_map.mp hx
  show (S w).cps.all (· < 0x110000) = true
  rw [← Array.all_toList, S_list, List.all_eq_true]
  intro c hc
  simpa using h w hw c hc
theorem takenS_map (fold : List Nat) (ws : List (List Nat)) (k : Nat) : takenS fold ws k = ((fold ++ joinL 46 (ws.take (k + 1))) :: (ws.drop (k + 1)).map fun w => 46 :: w).map S := by
  unfold takenS
  rw [List.map_cons, List.map_map]
  rfl
theorem oks_taken {fold : List Nat} {ws : List (List Nat)} {k : Nat} (h1 : ∀ c ∈ fold, c < 1114112) (h2 : ∀ w ∈ ws, ∀ c ∈ w, c < 1114112) : Oks (takenS fold ws k) := by
  rw [takenS_map]
  refine oks_of fun w hw c hc => ?_
  rcases List.mem_cons.mp hw with rfl | hw
  · rcases List.mem_append.mp hc with hc | hc
    · exact h1 c hc
    · rcases mem_joinL hc with rfl | ⟨v, hv, hc⟩
      · decide
      · exact h2 v (List.mem_of_mem_take hv) c hc
  · obtain ⟨v, hv, rfl⟩ := List.mem_map.mp hw
    rcases List.mem_cons.mp hc with rfl | hc
    · decide
    · exact h2 v (List.mem_of_mem_drop hv) c hc
theorem taken_is {fold : List Nat} {ws : List (List Nat)} {k : Nat} {X : Str} (hX : X = S fold) : takenS fold ws k = (X ++ S (joinL 46 (ws.take (k + 1)))) :: ((ws.map S).drop (k + 1)).map (fun x => Str.ofString "." ++ x) := by
  subst hX
  unfold takenS
  rw [S_app, ← List.map_drop, List.map_map]
  congr 1
  refine List.map_congr_left fun w _ => ?_
  show S (46 :: w) = Str.ofString "." ++ S w
  rw [lit_dot, S_app]; rfl
theorem first_cut (c : Nat) : ∀ l : List Nat, c ∉ l ∨ ∃ pre r, l = pre ++ c :: r ∧ c ∉ pre
  | [] => .inl (by simp)
  | x :: r => by
    by_cases hx : x = c
    · exact .inr ⟨[], r, by rw [hx]; rfl, by simp⟩
    · rcases first_cut c r with h | ⟨pre, t, e, h⟩
      · exact .inl fun hc => by
          rcases List.mem_cons.mp hc with e | hc
          · exact hx e.symm
          · exact h hc
      · exact .inr ⟨x :: pre, t, by rw [e]; rfl, fun hc => by
          rcases List.mem_cons.mp hc with e | hc
          · exact hx e.symm
          · exact h hc⟩
theorem front_cut (l : List Nat) : ∃ d10 r1 f r2 det, splitL 10 l = d10 :: r1 ∧ splitL 58 d10 = f :: r2 ∧ l = f ++ det ∧ Behind det ∧ 58 ∉ f ∧ 10 ∉ f := by
  rcases first_cut 10 l with h | ⟨pre, r, rfl, h⟩
  · rcases first_cut 58 l with h2 | ⟨p, r2, rfl, h2⟩
    · exact ⟨l, [], l, [], [], splitL_free h, splitL_free h2, by simp, .inl rfl, h2, h⟩
    · exact ⟨_, [], p, _, _, splitL_free h, split_app h2 r2, rfl, .inr (.inl ⟨_, rfl⟩), h2, fun q => h (List.mem_append_left _ q)⟩
  · rcases first_cut 58 pre with h2 | ⟨p, r2, rfl, h2⟩
    · exact ⟨pre, _, pre, [], _, split_app h r, splitL_free h2, rfl, .inr (.inr ⟨_, rfl⟩), h2, h⟩
    · exact ⟨_, _, p, _, 58 :: (r2 ++ 10 :: r), split_app h r, split_app h2 r2, by simp, .inr (.inl ⟨_, rfl⟩), h2, fun q => h (List.mem_append_left _ q)⟩
def RetBool (b : Bool) (Q : Value → Shared → Prop) (h₀ : Heap) (L : Addr) (m : Str → Option Value) (news : List (Addr × Obj)) (s : Shared) : Prop :=
  ∀ (h' : Heap) (tk' : Nat), Fr h₀ L h' m → News h₀ L h' news → Q (.bool b) { s with heap := h', toks := tk' }
def RetTexts (ss : List Str) (Q : Value → Shared → Prop) (h₀ : Heap) (L : Addr) (m : Str → Option Value) (news : List (Addr × Obj)) (s : Shared) : Prop :=
  ∀ (q : List (Str × Tok)) (D : Addr) (c : Nat) (h' : Heap) (tk' : Nat), TextsAre q ss → Fr h₀ L h' m → News h₀ L h' ((D, listOf (strValues q).toArray c) :: news) → Lts D news → Q (.ref D) { s with heap := h', toks := tk' }
theorem base2_tells (w : World) (mean : ExcName → Option Value) (mg mb : Str → Option Value) (f fold name : List Nat) (T : Tok) (hf : f = fold ++ name) (hF : Fold fold) (hn : 47 ∉ name) (hV : f.length ≤ 1048576) :
    Claim PySem.Challenge.rw_ij0110_01.row.prog w (hd.heap_39 w.params) hd.view_39 (looseW hd.view_39 []) mean mg mb 132 [.str (S f) T] 2 16 (RetStr (S name)) := by
  have h := base_tells w mean mg mb (S f) T (by rw [S_len]; exact hV)
  rw [hf, base_is hF hn] at h
  rw [hf]
  exact h
theorem Claim.mono {prog : Program} {w : World} {K : Frag} {p : Program} {loose : List Str} {mean : ExcName → Option Value} {mg mb : Str → Option Value} {f : Addr} {vs : List Value} {d u : Nat}
    {Ret Ret' : (Value → Shared → Prop) → Heap → Addr → (Str → Option Value) → List (Addr × Obj) → Shared → Prop} (C : Claim prog w K p loose mean mg mb f vs d u Ret) (h : ∀ Q h₀ L m news s, Ret' Q h₀ L m news s → Ret Q h₀ L m news s) :
    Claim prog w K p loose mean mg mb f vs d u Ret' :=
  fun news dp un gd cn cs a ccd cl outer A₀ base h₀ L m s Q E B F X N T hk hd hu ret => C news dp un gd cn cs a ccd cl outer A₀ base h₀ L m s Q E B F X N T hk hd hu (h _ _ _ _ _ _ ret)
theorem peeled2_tells (w : World) (mean : ExcName → Option Value) (mg mb : Str → Option Value) (d0 det : List Nat) (X : Str) (T1 T2 : Tok) (hX : X = S det) (h1 : d0.length ≤ 1000) (h2 : det.length ≤ 1000) (hn : 58 ∉ d0 ∧ 10 ∉ d0) (hdet : Behind det) :
    Claim PySem.Challenge.rw_ij0110_01.row.prog w (hd.heap_39 w.params) hd.view_39 (looseW hd.view_39 []) mean mg mb 153 [.str (S d0) T1, .str X T2] 2 16 (RetTexts ((splitL 46 d0).map S)) := by
  subst hX
  exact (peeled_tells w mean mg mb d0 det T1 T2 h1 h2 hn hdet).mono fun Q h₀ L m news s ret l D c h' tk' e => ret l D c h' tk' ⟨e⟩
theorem taken2_tells (w : World) (mean : ExcName → Option Value) (mg mb : Str → Option Value) (f fold : List Nat) (ws : List (List Nat)) (k : Nat) (T : Tok) (hfw : f = fold ++ joinL 46 ws) (hf : Fold fold) (hpl : Plain ws) (hld : Lead ws k) (hV : f.length ≤ 1000) :
    Claim PySem.Challenge.rw_ij0110_01.row.prog w (hd.heap_39 w.params) hd.view_39 (looseW hd.view_39 []) mean mg mb 160 [.str (S f) T] 3 24 (RetTexts (takenS fold ws k)) := by
  subst hfw
  exact (taken_tells w mean mg mb fold ws k T hf hpl hld hV).mono fun Q h₀ L m news s ret l D c h' tk' e => ret l D c h' tk' ⟨e⟩
end Mine
end
section
open PySem PySem.W PySem.Calls PyProof.Rows
set_option maxRecDepth 100000
namespace Mine
open PySem.Spec
local macro_rules | `(tactic| walk_at "call builtin:str.find") => `(tactic| (k_here; (with_reducible show wpAny _ _ (call (Value.builtin "str.find") [Value.str _ _, Value.str _ _, Value.int _ _, Value.int _ _]) _ _ _); refine call_find4 ?_))
local macro_rules | `(tactic| walk_at "call builtin:str.rfind") => `(tactic| (k_here; (with_reducible show wpAny _ _ (call (Value.builtin "str.rfind") [Value.str _ _, Value.str _ _, Value.int _ _, Value.int _ _]) _ _ _); refine call_rfind4 ?_))
local macro_rules | `(tactic| walk_at "call ref") => `(tactic| k_extra "my call")
local macro_rules | `(tactic| walk_at "pyIter ref") => `(tactic| (k_here; (with_reducible show wpAny _ _ (pyIter (Value.ref _)) (fun it s₂ => LoopAtV _ _ _ _ _ _ _ _ _ it s₂) _ _); refine stopMark ?_))
local macro_rules | `(tactic| walk_at "binaryOp Add ref ref") => `(tactic| (k_here; (with_reducible show wpAny _ _ (binaryOp _ (Value.ref _) (Value.ref _)) _ _ _); k_dflt (refine' add_strs1 ?qF ?qN ?qa ?qb ?qz ?_; (case qF => k_asm); (case qN => k_asm); (case qa => k_mem); (case qb => k_mem); (case qz => assumption)); intro D9 h9 F9 N9 l9; (try k_sweep)))
local macro_rules | `(tactic| walk_at "TurnPost") => `(tactic| dsimp only [TurnPost])
local macro_rules | `(tactic| walk_at "call builtin:str.split") => `(tactic| k_extra "my split")
local macro_rules | `(tactic| walk_at "subscriptTail") => `(tactic| (k_here; (with_reducible show wpAny _ _ (subscriptTail _ _ (Value.ref _) _) _ _ _); k_extra "my item"))
local macro_rules | `(tactic| walk_at "compareOp Eq ref ref") => `(tactic| (refine stopMark ?_))
local macro_rules | `(tactic| walk_at "CompSrc") => `(tactic| (refine stopMark ?_))
local macro_rules | `(tactic| walk_at "compareOp NotEq ref ref") => `(tactic| k_extra "my ne")
local macro_rules | `(tactic| walk_at "call builtin:len") => `(tactic| (k_here; (with_reducible show wpAny _ _ (call (Value.builtin "len") [Value.ref _]) _ _ _); k_extra "my len"))
local macro_rules | `(tactic| walk_at "call builtin:str.join") => `(tactic| k_extra "my join")
local macro_rules | `(tactic| walk_at "exec While") => `(tactic| (k_here; (with_reducible show wpAny _ _ (exec (Stmt.While _ _ _ _) _) _ _ _); refine stopMark ?_))
local macro_rules | `(tactic| walk_at "KswEnd") => `(tactic| (refine stopMark ?_))
local macro_rules | `(tactic| walk_at "eval ListComp") => `(tactic| (k_here; (with_reducible show wpAny _ _ (eval (Expr.ListComp _ _ _ _) _) _ _ _); refine stopMark ?_))
set_option maxHeartbeats 4000000 in
theorem holds_tells (w : World) (mean : ExcName → Option Value) (mg mb : Str → Option Value) (l : List Nat) (T : Tok) (hV : l.length ≤ 400) (hcp : ∀ c ∈ l, c < 1114112) :
    Claim PySem.Challenge.rw_ij0110_01.row.prog w (hd.heap_39 w.params) hd.view_39 (looseW hd.view_39 []) mean mg mb 165 [.str (S l) T] 4 100 (RetBool true) := by
  w_top off
  k_fill
  k_with_none
  have h1' : (S l).length ≤ 1000 := by rw [S_len]; omega
  obtain ⟨d10, r1, f, r2, det, h10, h58, hl, hdet, hnf⟩ := front_cut l
  obtain ⟨fold, name, hf, hn47, hF, hlast⟩ := fold_cut f
  have hfl : f.length ≤ 400 := by rw [hl, List.length_append] at hV; omega
  have hdl : det.length ≤ 400 := by rw [hl, List.length_append] at hV; omega
  have hnl : name.length ≤ 400 := by rw [hf, List.length_append] at hfl; omega
  have hd10 : d10.length ≤ 400 := by
    have := joinL_split 10 l
    rw [h10] at this
    have q := joinL_take_len (c := 10) (d10 :: r1) 1
    rw [this] at q
    exact Nat.le_trans q hV
  have hnn : 58 ∉ name ∧ 10 ∉ name := by
    rw [hf] at hnf
    exact ⟨fun q => hnf.1 (List.mem_append_right _ q), fun q => hnf.2 (List.mem_append_right _ q)⟩
  have hSf : (S f).length ≤ 1000 := by rw [S_len]; omega
  have hSn : (S name).length ≤ 1000 := by rw [S_len]; omega
  have hwmem : ∀ w ∈ splitL 46 name, ∀ c ∈ w, c ∈ name := fun w hw c hc => by
    have := joinL_mem (c := 46) hw hc
    rwa [joinL_split] at this
  have hok : Oks ((splitL 46 name).map S) := oks_of fun w hw c hc => hcp c (by
    rw [hl, hf]
    exact List.mem_append_left _ (List.mem_append_right _ (hwmem w hw c hc)))
  have hwsl : (splitL 46 name).length ≤ 1000000 := by
    have := joinL_len (c := 46) (splitL 46 name)
    rw [joinL_split] at this
    omega
  have hdrop : Txt.slice (S l) (some ((S f).length : Int)) none = S det := by
    rw [S_len, slice_sn (by rw [hl]; simp), hl, List.drop_left' rfl]
  k_with "my split" => (k_dflt (refine' w_split ?qy ?qF ?qN ?qz ?_; (case qy => first | exact lit_nl | exact lit_colon | exact lit_slash | exact lit_dot); (case qF => k_asm); (case qN => k_asm); (case qz => (rw [S_len]; omega)); k_whole); intro D9 q9 h9 tk9 hq9 F9 N9 l9; (try k_sweep))
  k_with "my item" => ((with_reducible show wpAny _ _ (subscriptTail _ _ (Value.ref _) (Value.int _ _)) _ _ _); (fail_if_success (with_reducible show wpAny _ _ (subscriptTail _ (PySem.Expr.UnaryOp _ _ _) (Value.ref _) (Value.int _ _)) _ _ _)); k_dflt (refine' w_item ?qN ?qm ?qq ?q0 ?q1 ?qx ?_ ?qs; (case qN => k_asm); (case qm => k_mem); (case qq => assumption); (case q0 => omega); (case q1 => omega); (case qx => first | exact hget | (rw [h10]; exact rfl) | (rw [h58]; exact rfl)); (case qs => with_unfolding_all rfl); k_whole); intro t9)
  k_with "my item" => ((with_reducible show wpAny _ _ (subscriptTail _ (PySem.Expr.UnaryOp _ _ _) (Value.ref _) (Value.int _ _)) _ _ _); k_dflt (refine' w_item_last ?qN ?qm ?qq ?qx ?_ ?qs; (case qN => k_asm); (case qm => k_mem); (case qq => assumption); (case qx => (rw [List.getLast?_map, hlast]; exact rfl)); (case qs => with_unfolding_all rfl); k_whole); intro t9)
  k_with "my item" => ((with_reducible show wpAny _ _ (subscriptTail _ (PySem.Expr.Slice none (some _) none _) (Value.ref _) (Value.ref _)) _ _ _); k_dflt (refine' w_slice_hi ?qF ?qN ?qm ?qq ?qp ?q0 ?qz ?qs ?qt ?_; (case qF => k_asm); (case qN => k_asm); (case qm => k_mem); (case qq => assumption); (case qp => exact IsPart.int _ _); (case q0 => omega); (case qz => simpa using hwsl); (case qs => with_unfolding_all rfl); (case qt => (intro _; with_unfolding_all rfl)); k_whole); intro D9 q9 h9 hq9 F9 N9 l9; (try k_sweep))
  k_with "my item" => ((with_reducible show wpAny _ _ (subscriptTail _ (PySem.Expr.Slice (some _) none none _) (Value.ref _) (Value.ref _)) _ _ _); k_dflt (refine' w_slice_lo ?qF ?qN ?qm ?qq ?qp ?q0 ?qz ?qs ?qt ?_; (case qF => k_asm); (case qN => k_asm); (case qm => k_mem); (case qq => assumption); (case qp => exact IsPart.int _ _); (case q0 => omega); (case qz => simpa using hwsl); (case qs => with_unfolding_all rfl); (case qt => (intro _; with_unfolding_all rfl)); k_whole); intro D9 q9 h9 hq9 F9 N9 l9; (try k_sweep))
  k_with "my len" => (k_dflt (refine' w_len ?qN ?qm ?qq ?qz ?_; (case qN => k_asm); (case qm => k_mem); (case qq => assumption); (case qz => simpa using hwsl); k_whole))
  k_with "my ne" => (k_dflt (refine' w_ne_false ?qN ?qm ?qm2 ?qq ?qq2 ?qo ?qo2 ?qe ?qu ?_; (case qN => k_asm); (case qm => k_mem); (case qm2 => k_mem); (case qq => assumption); (case qq2 => assumption); (case qo => assumption); (case qo2 => assumption); (case qe => rfl); (case qu => ke_room); k_whole))
  k_with "my call" => (k_here; (with_reducible show wpAny _ _ (call (Value.ref _) _) _ _ _); k_dflt (refine' Claim.use (base2_tells _ _ _ _ _ _ _ _ ?kp0 ?kp1 ?kp2 ?kp3) ?k1 ?k2 ?k3 ?k4 ?k5 ?kK ?kd ?ku ?_; (case k1 => k_asm); (case k2 => k_asm); (case k3 => k_asm); (case k4 => k_asm); (case k5 => k_asm); (case kK => first | exact rfl | assumption); (case kd => ktr_room); (case ku => ktr_units); (case kp0 => exact hf); (case kp1 => exact hF); (case kp2 => exact hn47); (case kp3 => omega); k_whole); intro t9 h9 tk9 F9 N9; (try dsimp only); (try k_fold))
  k_with "my join" => ((with_reducible show wpAny _ _ (call (Value.builtin "str.join") [Value.str _ _, Value.ref _]) _ _ _); k_dflt (refine' w_join (ws := (splitL 46 name).take (c.lead + 1)) ?qy ?qN ?qm ?qq ?qz ?_; (case qy => exact lit_dot); (case qN => k_asm); (case qm => k_mem); (case qq => (rw [List.map_take, ← hk1]; assumption)); (case qz => omega); k_whole); intro t9 k9)
  k_with "my call" => (k_here; (with_reducible show wpAny _ _ (call (Value.ref _) _) _ _ _); k_dflt (refine' Claim.use (peeled2_tells _ _ _ _ _ _ _ _ _ ?kp0 ?kp1 ?kp2 ?kp3 ?kp4) ?k1 ?k2 ?k3 ?k4 ?k5 ?kK ?kd ?ku ?_; (case k1 => k_asm); (case k2 => k_asm); (case k3 => k_asm); (case k4 => k_asm); (case k5 => k_asm); (case kK => first | exact rfl | assumption); (case kd => ktr_room); (case ku => ktr_units); (case kp0 => exact hdrop); (case kp1 => omega); (case kp2 => omega); (case kp3 => exact hnn); (case kp4 => exact hdet); k_whole); intro q9 D9 c9 h9 tk9 hq9 F9 N9 l9; (try dsimp only); (try k_fold))
  k_with "my call" => (k_here; (with_reducible show wpAny _ _ (call (Value.ref _) _) _ _ _); k_dflt (refine' Claim.use (taken2_tells _ _ _ _ f fold (splitL 46 name) c.lead _ ?kp0 hF ?kp1 ?kp2 ?kp3) ?k1 ?k2 ?k3 ?k4 ?k5 ?kK ?kd ?ku ?_; (case k1 => k_asm); (case k2 => k_asm); (case k3 => k_asm); (case k4 => k_asm); (case k5 => k_asm); (case kK => first | exact rfl | assumption); (case kd => ktr_room); (case ku => ktr_units); (case kp0 => (rw [joinL_split]; exact hf)); (case kp1 => exact hplain); (case kp2 => exact hld); (case kp3 => omega); k_whole); intro q9 D9 c9 h9 tk9 hq9 F9 N9 l9; (try dsimp only); (try k_fold))
  have hplain : Plain (splitL 46 name) := fun w hw => ⟨splitL_mem hw, fun q => hn47 (hwmem w hw 47 q)⟩
  unfold Claim
  intro news dp un gd cn cs a ccd cl outer A₀ base h₀ L m s Q E B F X N Tp hk hdp hun hret
  refine wpAny_call ?_
  k_dflt cell_enter
  k_steps
  unfold Stop
  rename Fr _ _ _ _ => lF
  rename News _ _ _ _ => lN
  have hpos : 0 < (splitL 46 name).length := List.length_pos_iff.mpr (splitL_ne 46 name)
  with_unfolding_all refine' my_while2 (σ := LSt) LPs [Str.ofString "lead"] (LInv (splitL 46 name)) (fun c => Lead (splitL 46 name) c.lead) (fun c => (splitL 46 name).length - c.lead) ⟨0, _⟩ lF lN ?hm ?hp ?turn ?done ?hE
  case hE => passes_own
  case hm =>
    intro p hp
    simp only [LPs, List.mem_cons, List.not_mem_nil, or_false] at hp
    rcases hp with rfl
    rfl
  case hp => exact ⟨hpos, fun i hi => absurd hi (Nat.not_lt_zero i)⟩
  case turn =>
    intro c u h tk hp F1 N1
    clear lF lN
    obtain ⟨p1, p2⟩ := hp
    obtain ⟨wl, hwl⟩ : ∃ wl, (splitL 46 name)[c.lead]? = some wl := ⟨_, List.getElem?_eq_getElem p1⟩
    have hget : ((splitL 46 name).map S)[(c.lead : Int).toNat]? = some (S wl) := by
      rw [List.getElem?_map, Int.toNat_natCast, hwl]; rfl
    dsimp only [LPs, kstB] at F1
    (with_reducible show wpAny _ _ _ _ _ _)
    k_fold
    k_steps
    · unfold Stop
      rename Fr _ _ _ _ => F9
      refine' ksw_end ⟨c.lead + 1, _⟩ F9 (by assumption) (fun p hp => hp) trivial ?ym ?yr ?yp ?yl
      case ym =>
        intro p hp
        simp only [LPs, List.mem_cons, List.not_mem_nil, or_false] at hp
        rcases hp with rfl
        rfl
      case yr =>
        intro z h2 h3
        have h4 : z ≠ Str.ofString "lead" := fun e => h2 _ (.head _) e
        simp only [if_neg h4, h3]
        rfl
      case yp =>
        have hb : (S wl == Str.ofString "") = true := by assumption
        have hlt : (c.lead : Int) < (((splitL 46 name).map S).length : Int) - 1 := by assumption
        rw [List.length_map] at hlt
        refine ⟨by show c.lead + 1 < _; omega, fun i hi => ?_⟩
        rcases Nat.lt_succ_iff_lt_or_eq.mp hi with q | rfl
        · exact p2 i q
        · rw [hwl, S_inj ((beq_iff_eq.mp hb).trans lit_empty)]
      case yl =>
        show (splitL 46 name).length - (c.lead + 1) < (splitL 46 name).length - c.lead
        omega
    · exact WDone.intro (u := u) ⟨c.lead, _⟩ F1 N1 (lead_word p1 p2 hwl (by assumption))
    · exact WDone.intro (u := u) ⟨c.lead, _⟩ F1 N1 (lead_end p1 p2 (by assumption))
  case done =>
    intro c u h tk hld F1 N1
    clear lF lN
    have hk1 : ((c.lead : Int) + 1).toNat = c.lead + 1 := by omega
    have hjl : (joinL 46 ((splitL 46 name).take (c.lead + 1))).length ≤ 400 := by
      have := joinL_take_len (c := 46) (splitL 46 name) (c.lead + 1)
      rw [joinL_split] at this
      omega
    have hokT : Oks (takenS fold (splitL 46 name) c.lead) := oks_taken (fun x hx => hcp x (by rw [hl, hf]; exact List.mem_append_left _ (List.mem_append_left _ hx))) fun w hw x hx => hcp x (by
      rw [hl, hf]
      exact List.mem_append_left _ (List.mem_append_right _ (hwmem w hw x hx)))
    have hleft : Txt.slice (S f) none (some (((S f).length : Int) - ((S name).length : Int))) = S fold := by
      have hlen : f.length = fold.length + name.length := by rw [hf, List.length_append]
      rw [S_len, S_len, show ((f.length : Int) - (name.length : Int)) = ((fold.length : Nat) : Int) by omega, slice_ns (by omega), hf, List.take_left' rfl]
    have hjS : (S (joinL 46 ((splitL 46 name).take (c.lead + 1)))).length ≤ 1000 := by rw [S_len]; omega
    dsimp only [LPs, kstB] at F1
    dsimp only
    (with_reducible show wpAny _ _ _ _ _ _)
    (try k_fold)
    k_steps
    unfold Stop
    k_dflt (refine LCg.ListComp_U (F₀ := by k_asm) (by with_unfolding_all rfl) (by decide) (by rfl) (by decide) (by rfl) ?_)
    k_steps
    unfold Stop
    k_dflt (refine' my_comp (fun x => Str.ofString "." ++ x) ?zh ?zF ?zN ?zm ?zq ?zz ?zturn ?zfin)
    case zh => rfl
    case zF => k_asm
    case zN => k_asm
    case zm => k_mem
    case zq => assumption
    case zz =>
      rw [List.length_drop, List.length_map]
      omega
    case zturn =>
      intro g9 k9 t9 I9 oI9 C9 oC9 D9 m9 ys9 h9 tk9 E9 hk9 hC9 hx9 F9 N9 off9 ne9
      have hkl : k9.length ≤ 1000 := by
        obtain ⟨wx, hwx, rfl⟩ := List.mem_map.mp (List.mem_of_mem_drop hk9)
        rw [S_len]
        have := word_le (c := 46) hwx
        rw [joinL_split] at this
        omega
      k_steps
      refine' LCg.CompEnd.intro (by assumption) (by assumption) _ (fun p hp => hp) off9 (.inr ⟨_, by k_mem, rfl, _, rfl⟩) ⟨rfl, _, rfl⟩
    case zfin =>
      intro g9 q9 hq9
      unfold LCg.FinE
      intro D9 h9 tk9 F9 N9 o9
      have hql : q9.length ≤ 1000000 := by
        rw [hq9.len, List.length_map, List.length_drop, List.length_map]
        omega
      dsimp only
      (try k_fold)
      k_steps
      unfold Stop
      have hfin : takenS fold (splitL 46 name) c.lead = (Txt.slice (S f) none (some (((S f).length : Int) - ((S name).length : Int))) ++ S (joinL 46 ((splitL 46 name).take (c.lead + 1)))) :: q9.map (·.1) := by
        rw [hq9.eq, hk1]
        exact taken_is hleft
      k_dflt (refine' w_eq_true ?xN ?xm ?xm2 ?xq ⟨rfl⟩ ?xo ?xo2 ?xe ?xu ?_)
      case xN => k_asm
      case xm => k_mem
      case xm2 => k_mem
      case xq => assumption
      case xu => ke_room
      case xo => exact hokT
      case xo2 =>
        have := hokT
        rw [hfin] at this
        exact this
      case xe => exact hfin
      k_steps
      all_goals exact hret _ _ (by assumption) (News.drop (by assumption) (by kcj_all))
end Mine
end
section
open PySem PySem.W PySem.Calls PyProof.Rows PyProof.V PySem.Spec
set_option maxRecDepth 100000
namespace Mine
section
variable {prog : Program} {w : World} {A : Around} {E : Value → Shared → Prop} {s : Shared} {env : Env} {h₀ : Heap} {x : Str} {body : List Stmt} {Q : Flow → Shared → Prop}
def LEnd {σ : Type} (h₀ : Heap) (L : Addr) (led : List (Addr × Obj)) (ps : σ → List (Str × Value)) (P : σ → Prop) (s₁ s₂ : Shared) : Prop :=
  ∃ h' tk m' c, s₂ = { s₁ with heap := h', toks := tk } ∧ Fr h₀ L h' m' ∧ News h₀ L h' led ∧ (∀ p ∈ ps c, m' p.1 = some p.2) ∧ P c
def LPost {σ : Type} (h₀ : Heap) (L : Addr) (led : List (Addr × Obj)) (ps : σ → List (Str × Value)) (P : σ → Prop) (s₁ : Shared) (Q : Flow → Shared → Prop) (f : Flow) (s₂ : Shared) : Prop :=
  match f with
  | .ret v => Q (.ret v) s₂
  | .brk => Q .next s₂
  | _ => LEnd h₀ L led ps P s₁ s₂
theorem LEnd.intro {σ : Type} {L : Addr} {led : List (Addr × Obj)} {ps : σ → List (Str × Value)} {P : σ → Prop} {s₁ : Shared} {h' : Heap} {tk : Nat} {m' : Str → Option Value} {news' : List (Addr × Obj)} (c : σ)
    (F : Fr h₀ L h' m') (N : News h₀ L h' news') (hn : ∀ p ∈ led, p ∈ news') (hm : ∀ p ∈ ps c, m' p.1 = some p.2) (hp : P c) : LEnd h₀ L led ps P s₁ { s₁ with heap := h', toks := tk } :=
  ⟨h', tk, m', c, rfl, F, fun p hp => N p (hn p hp), hm, hp⟩
theorem list_loop {σ : Type} {l : Addr} {vs : List Value} {ns : List Int} {nn : Nat} {m₀ : Str → Option Value} {news : List (Addr × Obj)} (ps : σ → List (Str × Value)) (P : Nat → σ → Prop) (c₀ : σ)
    (hh : A.handled = none) (hl : (l, listOf vs.toArray nn) ∈ news) (hi : IntsAre vs ns) (F : Fr h₀ env.locals s.heap m₀) (N : News h₀ env.locals s.heap news) (hk : ∀ p ∈ ps c₀, m₀ p.1 = some p.2) (hp : P 0 c₀)
    (turn : ∀ (c : σ) (i : Nat) n t u h tk own, i < ns.length → n ∈ ns → P i c → Fr h₀ env.locals h (fun y => if y = x then some (.int n t) else kstB u (ps c) y) → News h₀ env.locals h (news ++ own) →
      wpAny (model prog w) A (execs body env) (LPost h₀ env.locals (news ++ own) ps (P (i + 1)) { s with heap := h, toks := tk } Q) E { s with heap := h, toks := tk })
    (done : ∀ (c : σ) u h tk, P ns.length c → Fr h₀ env.locals h (kstB u (ps c)) → News h₀ env.locals h news → Q .next { s with heap := h, toks := tk }) :
    wpAny (model prog w) A (pyIter (.ref l)) (fun it s₂ => LoopAtV prog w A h₀ env x body Q E it s₂) E s := by
  refine iter_invNL (fun i m nx => nx = news ∧ ∃ c, (∀ p ∈ ps c, m p.1 = some p.2) ∧ P i c) hh hl hi F N ⟨rfl, c₀, hk, hp⟩ ?_ ?_
  · rintro i n t m₁ nx h tk own hn _ hoff _ ⟨rfl, c, hm, hp'⟩ F₁ N₁
    have hlt : i < ns.length := (List.getElem?_eq_some_iff.mp hn).1
    refine wpAny_mono (turn c i n t m₁ h tk own hlt (List.mem_of_getElem? hn) hp' (fr_pts1 hm F₁) N₁) (fun f s₂ q => ?_) fun _ _ e => e
    have fin : LEnd h₀ env.locals (nx ++ own) ps (P (i + 1)) { s with heap := h, toks := tk } s₂ → InvEndN h₀ env.locals (fun m' nx' => (l, listOf vs.toArray nn) ∈ nx' ∧ nx' = nx ∧ ∃ c, (∀ p ∈ ps c, m' p.1 = some p.2) ∧ P (i + 1) c) own (nx.map (·.1)) { s with heap := h, toks := tk } s₂ := by
      rintro ⟨h', tk', m', c', e, F', N', hm2, hp2⟩
      exact ⟨h', tk', m', nx ++ own, nx, e, F', N', fun p hp => List.mem_append_left _ hp, fun p hp => List.mem_append_right _ hp, rfl, hl, rfl, c', hm2, hp2⟩
    cases f with
    | ret v => exact q
    | brk => exact q
    | next => exact fin q
    | cont => exact fin q
  · rintro m₁ nx h tk _ ⟨rfl, c, hm, hp'⟩ F₁ N₁
    exact done c m₁ h tk hp' (fr_pts hm F₁) N₁
end
section
variable {prog : Program} {w : World} {A : Around} {E : Value → Shared → Prop} {s : Shared} {h₀ : Heap} {L D : Addr} {news : List (Addr × Obj)} {Q : Value → Shared → Prop}
def Sign (v : Value) : Prop := ∃ ch t, v = .str (S [ch]) t ∧ ch < 1114112
theorem w_menu {value slice : Expr} {l : List Value} {n : Nat} {k : Int} {u : Tok} (N : News h₀ L s.heap news) (hD : (D, ({ cls := .type "tuple", data := .seq l.toArray n } : Obj)) ∈ news) (hs : ∀ v ∈ l, Sign v) (h0 : 0 ≤ k) (h1 : k < l.length) (hf : k < 2 ^ 63)
    (h : ∀ ch t, ch < 1114112 → Q (.str (S [ch]) t) s)
    (hsub : subscripted slice false (.ref D) (.int k u) = operate [.ref D, .int k u] (getItem (.ref D) (.int k u))) :
    wpAny (model prog w) A (subscriptTail value slice (.ref D) (.int k u)) Q E s := by
  have hlt : k.toNat < l.length := by omega
  obtain ⟨ch, t, e, hc⟩ := hs l[k.toNat] (List.getElem_mem hlt)
  refine item_tupleT (l := l) (j := k.toNat) (x := .str (S [ch]) t) (N.isTup hD) (by omega) hf (StrLaws.seqIndex_nonneg h0 h1) (by rw [List.getElem?_eq_getElem hlt, e]) (h ch t hc) hsub
end
theorem fdiv_le {n : Int} (h0 : 0 ≤ n) (h1 : n < 1000000) : 0 ≤ Int.fdiv n 10 ∧ Int.fdiv n 10 < 100000 := by
  rw [Int.fdiv_eq_ediv_of_nonneg _ (by decide)]
  omega
theorem fmod_le {n : Int} : 0 ≤ Int.fmod n 10 ∧ Int.fmod n 10 < 10 := by
  rw [Int.fmod_eq_emod_of_nonneg _ (by decide)]
  omega
theorem cell_le {ns : List Int} {n : Int} (h : n ∈ ns.map (fun k' => k'.fmod (10 ^ Int.toNat 6))) : 0 ≤ n ∧ n < 1000000 := by
  obtain ⟨k, _, rfl⟩ := List.mem_map.mp h
  rw [show (10 : Int) ^ Int.toNat 6 = 1000000 by decide, Int.fmod_eq_emod_of_nonneg _ (by decide)]
  omega
theorem lit_tail : Str.ofString "a..b:.c" = S [97, 46, 46, 98, 58, 46, 99] := by decide +kernel
theorem sign_lit {x : Str} {t : Tok} {ch : Nat} (h : x = S [ch]) (hc : ch < 1114112) : Sign (.str x t) := ⟨ch, t, by rw [h], hc⟩
structure XSt where
  x : List Nat
  t : Tok
def XPs (c : XSt) : List (Str × Value) := [(Str.ofString "text", .str (S c.x) c.t)]
def XInv (i : Nat) (c : XSt) : Prop := c.x.length ≤ i ∧ ∀ ch ∈ c.x, ch < 1114112
structure YSt where
  t : Tok
def YPs (X : Str) (c : YSt) : List (Str × Value) := [(Str.ofString "text", .str X c.t)]
end Mine
end
section
open PySem PySem.W PySem.Calls PyProof.Rows
set_option maxRecDepth 100000
namespace Mine
open PySem.Spec
local macro_rules | `(tactic| walk_at "call ref") => `(tactic| k_extra "my call")
local macro_rules | `(tactic| walk_at "pyIter ref") => `(tactic| (k_here; (with_reducible show wpAny _ _ (pyIter (Value.ref _)) (fun it s₂ => LoopAtV _ _ _ _ _ _ _ _ _ it s₂) _ _); refine stopMark ?_))
local macro_rules | `(tactic| walk_at "binaryOp Add ref ref") => `(tactic| (k_here; (with_reducible show wpAny _ _ (binaryOp _ (Value.ref _) (Value.ref _)) _ _ _); k_dflt (refine' add_strs1 ?qF ?qN ?qa ?qb ?qz ?_; (case qF => k_asm); (case qN => k_asm); (case qa => k_mem); (case qb => k_mem); (case qz => assumption)); intro D9 h9 F9 N9 l9; (try k_sweep)))
local macro_rules | `(tactic| walk_at "TurnPost") => `(tactic| dsimp only [TurnPost])
local macro_rules | `(tactic| walk_at "subscriptTail") => `(tactic| (k_here; (with_reducible show wpAny _ _ (subscriptTail _ _ (Value.ref _) _) _ _ _); k_extra "my item"))
local macro_rules | `(tactic| walk_at "LPost") => `(tactic| dsimp only [LPost])

theorem holds2_tells (w : World) (mean : ExcName → Option Value) (mg mb : Str → Option Value) (l : List Nat) (Y : Str) (T : Tok) (hY : Y = S l) (hV : l.length ≤ 400) (hcp : ∀ c ∈ l, c < 1114112) :
    Claim PySem.Challenge.rw_ij0110_01.row.prog w (hd.heap_39 w.params) hd.view_39 (looseW hd.view_39 []) mean mg mb 165 [.str Y T] 4 100 (RetBool true) := by
  subst hY
  exact holds_tells w mean mg mb l T hV hcp
theorem lit_a : Str.ofString "a" = S [97] := by decide +kernel
theorem lit_b : Str.ofString "b" = S [98] := by decide +kernel
set_option maxHeartbeats 8000000 in
theorem law_holds : PySem.Challenge.rw_ij0110_01.Holds := hd (by
  k_go0
  all_goals try k_fold
  k_with_none
  k_with "my item" => ((with_reducible show wpAny _ _ (subscriptTail (PySem.Expr.Tuple _ _ _) _ (Value.ref _) (Value.int _ _)) _ _ _); k_dflt (refine' w_menu ?qN ?qm ?qs ?q0 ?q1 ?qf ?_ ?qu; (case qN => k_asm); (case qm => k_mem); (case qs => (intro v hv; simp only [List.mem_cons, List.not_mem_nil, or_false] at hv; (rcases hv with rfl | rfl | rfl | rfl | rfl | rfl | rfl | rfl | rfl | rfl) <;> first | exact sign_lit lit_dot (by decide) | exact sign_lit lit_slash (by decide) | exact sign_lit lit_a (by decide) | exact sign_lit lit_b (by decide) | exact sign_lit lit_colon (by decide) | exact sign_lit lit_nl (by decide) | exact sign_lit rfl (by omega))); (case q0 => exact fmod_le.1); (case q1 => exact fmod_le.2); (case qf => exact Int.lt_trans fmod_le.2 (by decide)); (case qu => with_unfolding_all rfl); k_whole); intro ch9 t9 hch9; (have hs9 : (S [ch9]).length ≤ 1 := Nat.le_refl _))
  k_with "my call" => (k_here; (with_reducible show wpAny _ _ (call (Value.ref _) [Value.str _ _]) _ _ _); refine stopMark ?_)
  k_steps
  unfold Stop
  rename IntsAre _ _ => iL
  rename Fr _ _ _ _ => lF
  rename News _ _ _ _ => lN
  with_unfolding_all refine' list_loop (σ := XSt) XPs XInv ⟨[], _⟩ ?hh ?hl iL lF lN ?hm ?hp ?turn ?done
  case hh => rfl
  case hl => k_mem
  case hm =>
    intro p hp
    simp only [XPs, List.mem_cons, List.not_mem_nil, or_false] at hp
    rcases hp with rfl
    rfl
  case hp => exact ⟨Nat.le_refl _, fun ch h => nomatch h⟩
  case turn =>
    intro c i n t u h tk own hi hmem hp F1 N1
    clear lF lN
    have hcl := cell_le hmem
    have hfd := fdiv_le hcl.1 hcl.2
    have hi6 : i < 6 := by
      rw [List.length_map, List.length_take] at hi
      omega
    have hx : (S c.x).length ≤ 1000 := by
      rw [S_len]
      have := hp.1
      omega
    simp only [List.cons_append, List.nil_append] at N1
    dsimp only [XPs, kstB] at F1
    (with_reducible show wpAny _ _ _ _ _ _)
    k_fold
    k_steps
    all_goals (
      refine' LEnd.intro ⟨c.x ++ [ch9], _⟩ (by assumption) (by assumption) ?yn ?ym ?yp
      case yn =>
        simp only [List.cons_append, List.nil_append]
        kcj_all
      case ym =>
        intro p hp'
        simp only [XPs, List.mem_cons, List.not_mem_nil, or_false] at hp'
        rw [← S_app] at hp'
        rcases hp' with rfl
        rfl
      case yp =>
        refine ⟨?_, fun ch hch => ?_⟩
        · show (c.x ++ [ch9]).length ≤ i + 1
          rw [List.length_append]
          have := hp.1
          simp only [List.length_cons, List.length_nil]
          omega
        · rcases List.mem_append.mp hch with q | q
          · exact hp.2 ch q
          · rw [List.mem_singleton.mp q]
            exact hch9)
  case done =>
    intro c u h tk hp F1 N1
    clear lF lN
    have hxl : c.x.length ≤ 6 := by
      have := hp.1
      rw [List.length_map, List.length_take] at this
      omega
    have hx : (S c.x).length ≤ 1000 := by rw [S_len]; omega
    dsimp only [XPs, kstB] at F1
    dsimp only
    (with_reducible show wpAny _ _ _ _ _ _)
    (try k_fold)
    k_steps
    unfold Stop
    have hX : S c.x ++ Str.ofString "a..b:.c" = S (c.x ++ [97, 46, 46, 98, 58, 46, 99]) := by rw [lit_tail, S_app]
    have htl : (Str.ofString "a..b:.c").length = 7 := by rw [lit_tail]; rfl
    have hsx : (S c.x).length = c.x.length := S_len _
    have hxs : (c.x ++ [97, 46, 46, 98, 58, 46, 99]).length = c.x.length + 7 := by rw [List.length_append]; rfl
    have hXl : (S c.x ++ Str.ofString "a..b:.c").length ≤ 1000 := by rw [hX, S_len, hxs]; omega
    have hxc : ∀ ch ∈ c.x ++ [97, 46, 46, 98, 58, 46, 99], ch < 1114112 := by
      intro ch hch
      rcases List.mem_append.mp hch with q | q
      · exact hp.2 ch q
      · simp only [List.mem_cons, List.not_mem_nil, or_false] at q
        omega
    rename IsRange _ _ _ _ _ _ _ _ => rgX
    rename Fr _ _ _ _ => lF
    rename News _ _ _ _ => lN
    with_unfolding_all refine' range_loop (σ := YSt) (fun _ => []) (YPs (S c.x ++ Str.ofString "a..b:.c")) (fun _ _ => True) ⟨_⟩ ?hh rgX ?hs (rangeSize_nat _ _) lF lN ?hl ?hm ?hp ?turn ?done
    case hh => rfl
    case hs => exact small_one (by omega) (by omega) (by omega) (by omega)
    case hl => exact fun p hp => nomatch hp
    case hm =>
      intro p hp
      simp only [YPs, List.mem_cons, List.not_mem_nil, or_false] at hp
      rcases hp with rfl
      rfl
    case hp => trivial
    case turn =>
      intro c9 i t9 u h tk I oI hi _ hne F1 N1
      clear lF lN
      have hi7 : i ≤ (c.x ++ [97, 46, 46, 98, 58, 46, 99]).length := by omega
      have hlo : Txt.slice (S c.x ++ Str.ofString "a..b:.c") none (some (0 + (i : Int))) = S ((c.x ++ [97, 46, 46, 98, 58, 46, 99]).take i) := by
        rw [hX, Int.zero_add, slice_ns hi7]
      have hhi : Txt.slice (S c.x ++ Str.ofString "a..b:.c") (some (0 + (i : Int))) none = S ((c.x ++ [97, 46, 46, 98, 58, 46, 99]).drop i) := by
        rw [hX, Int.zero_add, slice_sn hi7]
      have h400 : (c.x ++ [97, 46, 46, 98, 58, 46, 99]).length ≤ 400 := by omega
      dsimp only [YPs, kstB] at F1
      (with_reducible show wpAny _ _ _ _ _ _)
      k_fold
      k_steps
      unfold Stop
      (k_dflt (refine' Claim.use (holds2_tells _ _ _ _ _ _ _ ?kp0 ?kp1 ?kp2) ?k1 ?k2 ?k3 ?k4 ?k5 ?kK ?kd ?ku ?_; (case k1 => k_asm); (case k2 => k_asm); (case k3 => k_asm); (case k4 => k_asm); (case k5 => k_asm); (case kK => first | exact rfl | assumption); (case kd => ktr_room); (case ku => ktr_units); (case kp0 => exact hlo); (case kp1 => (rw [List.length_take]; omega)); (case kp2 => exact fun ch hch => hxc ch (List.mem_of_mem_take hch)); k_whole))
      intro h9 tk9 F9 N9
      (try dsimp only)
      (try k_fold)
      k_steps
      unfold Stop
      (k_dflt (refine' Claim.use (holds2_tells _ _ _ _ _ _ _ ?kp0 ?kp1 ?kp2) ?k1 ?k2 ?k3 ?k4 ?k5 ?kK ?kd ?ku ?_; (case k1 => k_asm); (case k2 => k_asm); (case k3 => k_asm); (case k4 => k_asm); (case k5 => k_asm); (case kK => first | exact rfl | assumption); (case kd => ktr_room); (case ku => ktr_units); (case kp0 => exact hhi); (case kp1 => (rw [List.length_drop]; omega)); (case kp2 => exact fun ch hch => hxc ch (List.mem_of_mem_drop hch)); k_whole))
      intro h9 tk9 F9 N9
      (try dsimp only)
      (try k_fold)
      k_steps

      rename Fr _ _ _ _ => F8
      rename News _ _ _ _ => N8
      refine' TurnEnd.intro (c := c9) F8 N8 (by k_mem) (by intro p hp; cases hp) (by intro p hp; cases hp) ?ym trivial
      intro p hp
      simp only [YPs, List.mem_cons, List.not_mem_nil, or_false] at hp
      rcases hp with rfl
      rfl
    case done =>
      intro c9 u h tk _ F1 N1
      clear lF lN
      dsimp only [YPs, kstB] at F1
      dsimp only
      (with_reducible show wpAny _ _ _ _ _ _)
      (try k_fold)
      k_steps)
end Mine
end
theorem PySem.Challenge.cw_ij0110_01_holds : PySem.Challenge.rw_ij0110_01.Holds := by
  exact Mine.law_holds
#print axioms PySem.Challenge.cw_ij0110_01_holds
