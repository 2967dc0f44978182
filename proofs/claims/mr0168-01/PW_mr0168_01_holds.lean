import PyProof.Rows.All
import Wide.All
import OpenK.AllK
import Wide.FinOn
import PySem.Challenge.RW_mr0168_01
open PySem PySem.W PyProof.Rows
set_option Elab.async false
set_option maxRecDepth 100000
set_option maxHeartbeats 8000000

/-! part Hd -/
namespace Mine
open_top hd for PySem.Challenge.rw_mr0168_01
end Mine

/-! part Base -/
namespace Mine
open PySem.Calls PySem.Spec

noncomputable abbrev Led := List (Addr × Obj)

/-- what a call of the def at f does, from any caller: it hands back v and leaves a ledger, as Out says -/
noncomputable def Does (w : World) (f : Addr) (vs : List Value) (news : Led) (dN uN : Nat) (Out : Value → Led → Prop) : Prop :=
  ∀ (mean : ExcName → Option Value) (mg mb : Str → Option Value) (dp un : Nat) (gd : Option (List Code)) (cn : Str) (cs : Scope) (a : Addr) (ccd : Value) (cl : List (Str × Addr)) (outer : List Env) (A₀ : Around) (base h₀ : Heap) (L : Addr) (m : Str → Option Value) (s : Shared) (Q E : Value → Shared → Prop),
    Below A₀ base outer h₀ → Fr h₀ L s.heap m → (Mine.hd.heap_39 w.params).In h₀ → News h₀ L s.heap news → Top Mine.hd.view_39 (looseW Mine.hd.view_39 [Str.ofString "normpath_path", Str.ofString "normpath_posixpath"]) mean mg mb h₀ → cs.kind = .function →
    dp + dN < recursionLimit → un + uN < cLine →
    (∀ (v : Value) (news' : Led) (h' : Heap) (tk' : Nat), Fr h₀ L h' m → News h₀ L h' news' → Out v news' → Q v { s with heap := h', toks := tk' }) →
    wpAny (model PySem.Challenge.rw_mr0168_01.row.prog w) (ktrTop dp un gd cn cs L a ccd cl outer) (call (.ref f) vs) Q E s


theorem does_use {w : World} {f : Addr} {vs : List Value} {news : Led} {dN uN : Nat} {Out : Value → Led → Prop} {mean : ExcName → Option Value} {mg mb : Str → Option Value} {dp un : Nat} {gd : Option (List Code)} {cn : Str} {cs : Scope} {a : Addr} {ccd : Value} {cl : List (Str × Addr)} {outer : List Env} {A₀ : Around} {base h₀ : Heap} {L : Addr} {m : Str → Option Value} {s : Shared} {Q E : Value → Shared → Prop}
    (B : Below A₀ base outer h₀) (F : Fr h₀ L s.heap m) (X : (Mine.hd.heap_39 w.params).In h₀) (N : News h₀ L s.heap news) (D : Does w f vs news dN uN Out) (T : Top Mine.hd.view_39 (looseW Mine.hd.view_39 [Str.ofString "normpath_path", Str.ofString "normpath_posixpath"]) mean mg mb h₀) (hk : cs.kind = .function)
    (hd : dp + dN < recursionLimit) (hu : un + uN < cLine)
    (ret : ∀ (v : Value) (news' : Led) (h' : Heap) (tk' : Nat), Fr h₀ L h' m → News h₀ L h' news' → Out v news' → Q v { s with heap := h', toks := tk' }) :
    wpAny (model PySem.Challenge.rw_mr0168_01.row.prog w) (ktrTop dp un gd cn cs L a ccd cl outer) (call (.ref f) vs) Q E s :=
  D _ _ _ _ _ _ _ _ _ _ _ _ _ _ _ _ _ _ _ _ B F X N T hk hd hu ret

theorem drop0 {news : Led} : ∀ p ∈ news, p ∈ news := fun _ h => h
theorem drop1 {q : Addr × Obj} {news news' : Led} (h : ∀ p ∈ news, p ∈ news') : ∀ p ∈ news, p ∈ q :: news' := fun p hp => .tail _ (h p hp)
end Mine

open Mine
open PySem.Calls PySem.Spec
local macro_rules | `(tactic| walk_at "call ref") => `(tactic| (k_here; (with_reducible show wpAny _ _ (call (Value.ref _) _) _ _ _); k_dflt (refine' does_use ?k1 ?k2 ?k3 ?k4 ?kD ?k5 ?kK ?kd ?ku ?_; (case k1 | k2 | k3 | k4 | k5 => k_asm); (case kK => first | exact rfl | assumption); (case kD => walk_at "mine D"); (case kd => ktr_room); (case ku => ktr_units)); walk_at "mine out"; (try dsimp only); (try k_fold)))
local macro_rules | `(tactic| walk_at "mine out") => `(tactic| (intro v9 nw9 h9 tk9 F9 N9 O9; obtain ⟨⟨t9, e9⟩, e9n⟩ := O9; subst e9; subst e9n))

/-! part F1 -/
namespace Mine
open PySem.Calls PySem.Spec

noncomputable def lawPath (n : Int) : Str :=
  [Str.ofString "", Str.ofString "/", Str.ofString "//"].getD ((n.fdiv 2).fmod 3).toNat Str.empty ++
    Txt.join (Str.ofString "/")
      [[Str.ofString "a", Str.ofString "b", Str.ofString "..", Str.ofString ".", Str.ofString "", Str.ofString "ab"].getD ((n.fdiv 6).fmod 6).toNat Str.empty,
       [Str.ofString "a", Str.ofString "b", Str.ofString "..", Str.ofString ".", Str.ofString "", Str.ofString "ab"].getD ((n.fdiv 36).fmod 6).toNat Str.empty,
       [Str.ofString "a", Str.ofString "b", Str.ofString "..", Str.ofString ".", Str.ofString "", Str.ofString "ab"].getD ((n.fdiv 216).fmod 6).toNat Str.empty]

theorem getD_short {k : Nat} : ∀ {L : List Str} (_ : ∀ x ∈ L, x.length ≤ k) (i : Nat), (L.getD i Str.empty).length ≤ k
  | [], _, _ => Nat.zero_le _
  | x :: _, h, 0 => h x (.head _)
  | _ :: r, h, i + 1 => getD_short (L := r) (fun y hy => h y (.tail _ hy)) i

theorem txt_join (sep : Str) (l : List Str) : Txt.join sep l = Str.join sep l := eq_of_beq (join_plain_closes sep l)
theorem join_len3 {a b c : Str} (ha : a.length ≤ 2) (hb : b.length ≤ 2) (hc : c.length ≤ 2) : (Txt.join (Str.ofString "/") [a, b, c]).length ≤ 9 := by
  have h := StrLaws.join_length_le (Str.ofString "/") [a, b, c]
  rw [txt_join]
  have hs1 : (Str.ofString "/").length = 1 := by decide +kernel
  simp only [List.map_cons, List.map_nil, List.sum_cons, List.sum_nil, List.length_cons, List.length_nil, hs1] at h
  omega

theorem d_law_path (w : World) (n : Int) (t : Tok) (news : Led) : Does w 191 [.int n t] news 1 8 (fun v news' => (∃ t', v = .str (lawPath n) t') ∧ news = news') := by
  w_top off
  unfold Does
  k_fill
  intro mean mg mb dp un gd cn cs a ccd cl outer A₀ base h₀ L m s Q E B F X N T hk hd hu hret
  refine wpAny_call ?_
  k_dflt cell_enter
  k_with "table" => skip
  have h1 : ∀ i, ([Str.ofString "a", Str.ofString "b", Str.ofString "..", Str.ofString ".", Str.ofString "", Str.ofString "ab"].getD i Str.empty).length ≤ 2 := getD_short (by decide +kernel)
  have h2 : ∀ i, ([Str.ofString "", Str.ofString "/", Str.ofString "//"].getD i Str.empty).length ≤ 2 := getD_short (by decide +kernel)
  k_steps
  have e1 := h1 ((n.fdiv 6).fmod 6).toNat
  have e2 := h1 ((n.fdiv 36).fmod 6).toNat
  have e3 := h1 ((n.fdiv 216).fmod 6).toNat
  have e4 := h2 ((n.fdiv 2).fmod 3).toNat
  clear h1 h2
  refine join_listC (News.isList (by k_asm) (by k_mem)) (by repeat constructor) (by decide +kernel) ?_ ?_
  · simp only [List.map_cons, List.map_nil, List.sum_cons, List.sum_nil, List.length_cons, List.length_nil]
    omega
  intro t9 k9
  dsimp only
  have hj := join_len3 e1 e2 e3
  k_steps
  exact hret _ _ _ _ (by k_asm) (cb_drop (by assumption) (fun p hp => by repeat (first | exact hp | apply List.Mem.tail))) ⟨⟨_, rfl⟩, rfl⟩
end Mine

/-! part Sub -/
namespace Mine
open PySem.Calls PySem.Spec

theorem kind_isn : builtinKind "issubclass.nested" = none := by decide +kernel
theorem plain_isn : plainId "issubclass.nested" = true := by decide +kernel
theorem args_isn (a b c : Value) : argsOk "issubclass.nested" ⟨[a, b, c], []⟩ := by unfold argsOk; kernel_rfl
theorem ty_str : typeOf (.type "str") = pure (.type "type") := by kernel_rfl
theorem sub_str : isSubtype (.type "str") (.type "str") = pure true := by rw [isSubtype_type]; kernel_rfl

section
variable {prog : Program} {w : World} {A : Around} {E : Value → Shared → Prop}

theorem isn_str {s : Shared} {k : Value} {dep : Int} {tk : Tok} {Q : Fin → Shared → Prop} (hk : k = .int dep tk) (hq : Q (.done (.ret (.bool true))) s) :
    wpAny (model prog w) A (Builtin.«issubclass.nested» ⟨[.type "str", .type "str", k], []⟩) Q E s := by
  subst hk
  have hm := ty_str
  have hself := sub_str
  repeat (any_goals (first | assumption | (rw [hm]) | (rw [hself]) | wp_step))

theorem isn_meets (dep : Int) (tk : Tok) : Meets (Builtin.«issubclass.nested» ⟨[.type "str", .type "str", .int dep tk], []⟩) (fun _ R s => R (.ok (.ret (.bool true))) s) :=
  fun _ _ _ _ _ hs => isn_str rfl hs

theorem isn_tuple {tp : Addr} {vs cs : List Value} {tk : Tok} {s : Shared} {Q : Fin → Shared → Prop}
    (htp : s.heap.get? tp = some { cls := .type "tuple", data := .seq vs.toArray }) (hv : vs = Value.type "str" :: cs)
    (hq : Q (.done (.ret (.bool true))) s) : wpAny (model prog w) A (Builtin.«issubclass.nested» ⟨[.type "str", .ref tp, .int 0 tk], []⟩) Q E s := by
  obtain ⟨h, g, d, t, os⟩ := s
  have hT2 : (⟨h, g, d, t, os⟩ : Shared).TypeIs (.ref tp) "tuple" := ⟨_, htp, rfl⟩
  have f1 := F.isi_sub_tuple
  repeat (any_goals (first | assumption | wp_step))
  refine wpAny_arrayLoop ?_
  simp only [Option.getD_some, List.toList_toArray]
  subst hv
  rw [List.forIn_cons]
  refine wpAny_bind (wpAny_bind (call_function_meets kind_isn plain_isn F.entry_issubclass_nested (args_isn _ _ _) (isn_meets _ _) ?_))
  show wpAny _ _ (truthy (.bool true) >>= _) _ _ _
  refine wpAny_bind (m := truthy (.bool true)) (wpAny_pure ?_)
  refine wpAny_bind (wpAny_pure (wpAny_pure (wpAny_pure ?_)))
  repeat (any_goals (first | assumption | wp_step))

theorem call_sub_str {s : Shared} {D : Addr} {cs : List Value} {Q : Value → Shared → Prop} (htp : s.heap.get? D = some { cls := .type "tuple", data := .seq (Value.type "str" :: cs).toArray }) (h : Q (.bool true) s) :
    wpAny (model prog w) A (call (.builtin "issubclass") [.type "str", .ref D]) Q E s :=
  call_issubclass (S := fun _ R s => s.heap.get? D = some { cls := .type "tuple", data := .seq (Value.type "str" :: cs).toArray } ∧ R (.ok (.ret (.bool true))) s)
    (fun _ _ _ _ _ hs => issubclass_outer (isn_tuple hs.1 rfl hs.2)) ⟨htp, h⟩
end
end Mine

/-! part F2 -/
namespace Mine
open PySem.Calls PySem.Spec

theorem d_fspath (w : World) (x : Str) (t : Tok) (news : Led) : Does w 94 [.str x t] news 1 8 (fun v news' => (∃ t', v = .str (x) t') ∧ news = news') := by
  w_top off
  unfold Does
  k_fill
  intro mean mg mb dp un gd cn cs a ccd cl outer A₀ base h₀ L m s Q E B F X N T hk hd hu hret
  refine wpAny_call ?_
  k_dflt cell_enter
  (rename Fr _ _ _ _ => F0)
  replace F0 : Fr _ _ _ (fun y => List.lookup y [(Str.ofString "path", .str x t)]) := F0
  k_steps
  refine call_sub_str (News.get (by k_asm) (by k_mem)) ?_
  k_steps
  all_goals exact hret _ _ _ _ (by k_asm) (cb_drop (by assumption) (by repeat (first | exact drop0 | refine drop1 ?_))) ⟨⟨_, rfl⟩, rfl⟩

theorem d_get_sep (w : World) (x : Str) (t : Tok) (news : Led) : Does w 163 [.str x t] news 1 8 (fun v news' => (∃ t', v = .str (Str.ofString "/") t') ∧ news = news') := by
  w_top off
  unfold Does
  k_fill
  intro mean mg mb dp un gd cn cs a ccd cl outer A₀ base h₀ L m s Q E B F X N T hk hd hu hret
  refine wpAny_call ?_
  k_dflt cell_enter
  (rename Fr _ _ _ _ => F0)
  replace F0 : Fr _ _ _ (fun y => List.lookup y [(Str.ofString "path", .str x t)]) := F0
  k_steps
  all_goals exact hret _ _ _ _ (by k_asm) (cb_drop (by assumption) (by repeat (first | exact drop0 | refine drop1 ?_))) ⟨⟨_, rfl⟩, rfl⟩
end Mine
local macro_rules | `(tactic| walk_at "mine D") => `(tactic| (with_reducible refine d_fspath _ _ _ _))
local macro_rules | `(tactic| walk_at "mine D") => `(tactic| (with_reducible refine d_get_sep _ _ _ _))
namespace Mine
open PySem.Calls PySem.Spec

noncomputable def initF (x : Str) : Str :=
  if (Txt.slice x none (some 1) != Str.ofString "/") = true then Str.ofString ""
  else if (Txt.slice x (some 1) (some 2) != Str.ofString "/") = true ∨ (Txt.slice x (some 2) (some 3) == Str.ofString "/") = true then Str.ofString "/"
  else Txt.slice x none (some 2)
noncomputable def restF (x : Str) : Str :=
  if (Txt.slice x none (some 1) != Str.ofString "/") = true then x
  else if (Txt.slice x (some 1) (some 2) != Str.ofString "/") = true ∨ (Txt.slice x (some 2) (some 3) == Str.ofString "/") = true then Txt.slice x (some 1) none
  else Txt.slice x (some 2) none
section
variable {x : Str}
theorem initF_a (h : (Txt.slice x none (some 1) != Str.ofString "/") = true) : Str.ofString "" = initF x ∧ x = restF x := by
  unfold initF restF; rw [if_pos h, if_pos h]; exact ⟨rfl, rfl⟩
theorem initF_b (h : (Txt.slice x none (some 1) != Str.ofString "/") = false) (h2 : (Txt.slice x (some 1) (some 2) != Str.ofString "/") = true) : Str.ofString "/" = initF x ∧ Txt.slice x (some 1) none = restF x := by
  unfold initF restF; rw [h, h2]; simp
theorem initF_c (h : (Txt.slice x none (some 1) != Str.ofString "/") = false) (h2 : (Txt.slice x (some 1) (some 2) != Str.ofString "/") = false) (h3 : (Txt.slice x (some 2) (some 3) == Str.ofString "/") = true) : Str.ofString "/" = initF x ∧ Txt.slice x (some 1) none = restF x := by
  unfold initF restF; rw [h, h2, h3]; simp
theorem initF_d (h : (Txt.slice x none (some 1) != Str.ofString "/") = false) (h2 : (Txt.slice x (some 1) (some 2) != Str.ofString "/") = false) (h3 : (Txt.slice x (some 2) (some 3) == Str.ofString "/") = false) : Txt.slice x none (some 2) = initF x ∧ Txt.slice x (some 2) none = restF x := by
  unfold initF restF; rw [h, h2, h3]; simp
end
noncomputable abbrev tup3 (a b c : Value) : Obj := { cls := .type "tuple", data := .seq #[a, b, c] }
noncomputable def SplitOut (x : Str) (news : Led) (v : Value) (news' : Led) : Prop :=
  ∃ D t1 t2 t3, v = .ref D ∧ (D, tup3 (.str (Str.ofString "") t1) (.str (initF x) t2) (.str (restF x) t3)) :: news = news' ∧ ∀ p ∈ news, p.1 < D
theorem splitOut_of {x a b : Str} {news : Led} {D : Addr} {t1 t2 t3 : Tok} (h : a = initF x ∧ b = restF x) (hl : ∀ p ∈ news, p.1 < D) :
    SplitOut x news (.ref D) ((D, tup3 (.str (Str.ofString "") t1) (.str a t2) (.str b t3)) :: news) := by
  obtain ⟨rfl, rfl⟩ := h
  exact ⟨D, t1, t2, t3, rfl, rfl, hl⟩
theorem d_splitroot (w : World) (x : Str) (t : Tok) (news : Led) (hx : x.length ≤ 100) : Does w 170 [.str x t] news 2 16 (SplitOut x news) := by
  w_top off
  unfold Does
  k_fill
  intro mean mg mb dp un gd cn cs a ccd cl outer A₀ base h₀ L m s Q E B F X N T hk hd hu hret
  refine wpAny_call ?_
  k_dflt cell_enter
  (rename Fr _ _ _ _ => F0)
  replace F0 : Fr _ _ _ (fun y => List.lookup y [(Str.ofString "p", .str x t)]) := F0
  k_steps
  all_goals exact hret _ _ _ _ (by k_asm) (by assumption) (splitOut_of (by first | exact initF_a (x := x) (by with_reducible assumption) | exact initF_b (x := x) (by with_reducible assumption) (by with_reducible assumption) | exact initF_c (x := x) (by with_reducible assumption) (by with_reducible assumption) (by with_reducible assumption) | exact initF_d (x := x) (by with_reducible assumption) (by with_reducible assumption) (by with_reducible assumption)) (by assumption))

noncomputable abbrev headF (x : Str) : Str := Txt.slice x none (some (Txt.rfind x (Str.ofString "/") + 1))
noncomputable def dirF (x : Str) : Str :=
  if ((headF x).length : Int) ≠ 0 ∧ (headF x != Txt.mul (Str.ofString "/") ((headF x).length : Int)) = true then Txt.rstripChars (headF x) (Str.ofString "/") else headF x
section
variable {x : Str}
theorem dirF_a (h : ((headF x).length : Int) ≠ 0) (h2 : (headF x != Txt.mul (Str.ofString "/") ((headF x).length : Int)) = true) : Txt.rstripChars (headF x) (Str.ofString "/") = dirF x := by
  unfold dirF; rw [if_pos ⟨h, h2⟩]
theorem dirF_b (h2 : (headF x != Txt.mul (Str.ofString "/") ((headF x).length : Int)) = false) : headF x = dirF x := by
  unfold dirF; rw [if_neg (fun h => by rw [h2] at h; exact absurd h.2 (by decide))]
theorem dirF_c (h : ((headF x).length : Int) = 0) : headF x = dirF x := by
  unfold dirF; rw [if_neg (fun h' => h'.1 h)]
end
theorem str_is {a b : Str} {t : Tok} (h : a = b) : ∃ t', Value.str a t = .str b t' := ⟨t, by rw [h]⟩
theorem d_dirname (w : World) (x : Str) (t : Tok) (news : Led) (hx : x.length ≤ 100) : Does w 177 [.str x t] news 2 16 (fun v news' => (∃ t', v = .str (dirF x) t') ∧ news = news') := by
  w_top off
  unfold Does
  k_fill
  intro mean mg mb dp un gd cn cs a ccd cl outer A₀ base h₀ L m s Q E B F X N T hk hd hu hret
  refine wpAny_call ?_
  k_dflt cell_enter
  (rename Fr _ _ _ _ => F0)
  replace F0 : Fr _ _ _ (fun y => List.lookup y [(Str.ofString "p", .str x t)]) := F0
  k_steps
  all_goals exact hret _ _ _ _ (by k_asm) (by assumption) ⟨str_is (by first | with_reducible exact dirF_a (x := x) (by with_reducible assumption) (by with_reducible assumption) | with_reducible exact dirF_b (x := x) (by with_reducible assumption) | with_reducible exact dirF_c (x := x) (by with_reducible assumption)), rfl⟩
end Mine

/-! part LR -/
namespace Mine
open PySem.Calls PySem.Spec

section
variable {prog : Program} {w : World} {A : Around} {E : Value → Shared → Prop} {s : Shared} {h₀ : Heap} {L D : Addr} {m : Str → Option Value} {news news' : Led} {n : Nat} {cs p : List Value} {x y : Value}

theorem truthy_led {Q : Bool → Shared → Prop} (N : News h₀ L s.heap news) (hm : (D, listOf cs.toArray n) ∈ news) (hfit : cs.length ≤ 1000)
    (h : Q (!cs.isEmpty) { s with toks := s.toks + 1 + 1 }) : wpAny (model prog w) A (truthy (.ref D)) Q E s :=
  kgr_truthy N hm rfl rfl (by omega) h
theorem truthy_snoc {Q : Bool → Shared → Prop} (N : News h₀ L s.heap news) (hm : (D, listOf (p ++ [y]).toArray n) ∈ news) (hfit : p.length ≤ 1000)
    (h : Q true { s with toks := s.toks + 1 + 1 }) : wpAny (model prog w) A (truthy (.ref D)) Q E s :=
  kgr_truthy N hm rfl rfl (by simp; omega) (by rw [show (p ++ [y]).isEmpty = false by cases p <;> rfl]; exact h)
theorem append_led {Q : Value → Shared → Prop} (F : Fr h₀ L s.heap m) (N : News h₀ L s.heap news) (U : Upd D (listOf cs.toArray n) (listOf (cs ++ [x]).toArray (n + 1)) news news') (hfit : cs.length ≤ 1000)
    (h : ∀ h', Fr h₀ L h' m → News h₀ L h' news' → Q .none { s with heap := h' }) : wpAny (model prog w) A (call (.builtin "list.append") [.ref D, x]) Q E s :=
  append_K F N (by rw [show cs.toArray.push x = (cs ++ [x]).toArray by simp]; exact U) h (by rw [sizeLine_eq]; simp; omega)
theorem pop_led {Q : Value → Shared → Prop} (F : Fr h₀ L s.heap m) (N : News h₀ L s.heap news) (U : Upd D (listOf (p ++ [y]).toArray n) (listOf p.toArray (n + 1)) news news') (hfit : p.length ≤ 1000)
    (h : ∀ h', Fr h₀ L h' m → News h₀ L h' news' → Q y { s with heap := h' }) : wpAny (model prog w) A (call (.builtin "list.pop") [.ref D]) Q E s :=
  kl_pop F N (its := (p ++ [y]).toArray) (p := p) (y := y) (by exact kpa_last y p) U (by rw [sizeLine_eq]; simp; omega) h
theorem last_led {value slice : PySem.Expr} {u : Tok} {Q : Value → Shared → Prop} (N : News h₀ L s.heap news) (hm : (D, listOf (p ++ [y]).toArray n) ∈ news) (h : Q y s)
    (hs : subscripted slice false (.ref D) (.int (-1) u) = operate [.ref D, .int (-1) u] (getItem (.ref D) (.int (-1) u)) := by with_unfolding_all rfl) :
    wpAny (model prog w) A (subscriptTail value slice (.ref D) (.int (-1) u)) Q E s := by
  have hl : s.heap.IsList D (p ++ [y]).toArray := ⟨_, (N _ hm).1, rfl, n, rfl⟩
  have e : (-1 + ((p ++ [y]).toArray.size : Int)).toNat = p.length := by simp; omega
  exact tail_any hl.typeIs slot_list_getitem.lookup (wpAny_getItem_list_neg hl (by omega) (by simp; omega) (by omega) (by rw [e]; simp) h) hs
end
section
variable {prog : Program} {w : World} {A : Around} {E : Value → Shared → Prop} {s : Shared} {h₀ : Heap} {L a b : Addr} {m : Str → Option Value} {news : Led} {n k : Nat} {xs ys : List Value}
theorem add_led {Q : Value → Shared → Prop} (F : Fr h₀ L s.heap m) (N : News h₀ L s.heap news) (ha : (a, listOf xs.toArray n) ∈ news) (hb : (b, listOf ys.toArray k) ∈ news) (hsz : xs.length + ys.length ≤ 1000)
    (h : ∀ l' h', Fr h₀ L h' m → News h₀ L h' ((l', listOf (xs ++ ys).toArray 0) :: news) → (∀ p ∈ news, p.1 < l') → Q (.ref l') { s with heap := h' }) :
    wpAny (model prog w) A (binaryOp .Add (.ref a) (.ref b)) Q E s :=
  add_lists (vs := xs) (ws := ys) (hsz := by rw [sizeLine_eq]; omega) F N (News.isList N ha) (News.isList N hb) fun h' F' N' => h _ h' F' N' fun p hp => Heap.lt_size (N p hp).1
theorem add_strs {xt yt : List Str} {Q : Value → Shared → Prop} (F : Fr h₀ L s.heap m) (N : News h₀ L s.heap news) (ha : (a, listOf xs.toArray n) ∈ news) (hx : StrsAre xs xt) (hb : (b, listOf ys.toArray k) ∈ news) (hy : StrsAre ys yt) (hsz : xt.length + yt.length ≤ 1000)
    (h : ∀ l' h' zs, StrsAre zs (xt ++ yt) → Fr h₀ L h' m → News h₀ L h' ((l', listOf zs.toArray 0) :: news) → (∀ p ∈ news, p.1 < l') → Q (.ref l') { s with heap := h' }) :
    wpAny (model prog w) A (binaryOp .Add (.ref a) (.ref b)) Q E s :=
  add_led F N ha hb (by rw [hx.length, hy.length]; exact hsz) fun l' h' F' N' hl => h l' h' _ (StrsAre.append' hx hy) F' N' hl
end
theorem strs_snoc {cs : List Value} {ws : List Str} (h : StrsAre cs ws) : (cs = [] ∧ ws = []) ∨ ∃ p y t ws', cs = p ++ [.str y t] ∧ ws = ws' ++ [y] ∧ StrsAre p ws' := by
  induction h with
  | nil => exact .inl ⟨rfl, rfl⟩
  | cons y t r ih =>
    rcases ih with ⟨rfl, rfl⟩ | ⟨p, y', t', ws', rfl, rfl, hp⟩
    · exact .inr ⟨[], y, t, [], rfl, rfl, .nil⟩
    · exact .inr ⟨.str y t :: p, y', t', y :: ws', rfl, rfl, .cons y t hp⟩
end Mine

section
local macro_rules | `(tactic| walk_at "mine out") => `(tactic| (intro v9 nw9 h9 tk9 F9 N9 O9; (replace O9 : SplitOut _ _ _ _ := O9); obtain ⟨D9, t91, t92, t93, e9, e9n, l9⟩ := O9; subst e9; subst e9n))
local macro_rules | `(tactic| walk_at "truthy ref") => `(tactic| (k_here; k_dflt (refine truthy_snoc (by k_asm) (by k_mem) (by omega) ?_)))
local macro_rules | `(tactic| walk_at "call builtin:list.append") => `(tactic| (k_here; k_dflt (refine append_led (by k_asm) (by k_asm) (by k_upd) (by first | omega | (simp; omega)) ?_); intro h' F' N'; (try k_sweep)))
local macro_rules | `(tactic| walk_at "call builtin:list.pop") => `(tactic| (k_here; k_dflt (refine pop_led (by k_asm) (by k_asm) (by k_upd) (by omega) ?_); intro h' F' N'; (try k_sweep)))
local macro_rules | `(tactic| walk_at "subscriptTail") => `(tactic| (k_here; (with_reducible show wpAny _ _ (subscriptTail _ _ (Value.ref _) (Value.int _ _)) _ _ _); with_unfolding_all refine last_led (by k_asm) (by k_mem) ?_))
local macro_rules | `(tactic| walk_at "mine D") => `(tactic| ((with_reducible refine d_splitroot _ _ _ _ ?_); omega))
local macro_rules | `(tactic| k_all) => `(tactic| assumption)

/-! part F3 -/
namespace Mine
open PySem.Calls PySem.Spec

theorem restF_len (x : Str) : (restF x).length ≤ x.length := by
  unfold restF; split
  · exact Nat.le_refl _
  · split <;> exact Txt.slice_le _ _ _
theorem initF_len (x : Str) : (initF x).length ≤ x.length + 1 := by
  unfold initF; split
  · exact Nat.zero_le _
  · split
    · rw [show (Str.ofString "/").length = 1 by decide +kernel]; omega
    · exact Nat.le_succ_of_le (Txt.slice_le _ _ _)
theorem split_count (x y : Str) : (Txt.split x y).length ≤ x.length + 2 := by
  unfold Txt.split
  split
  · simp
  · split
    · simp
    · rw [length_partsBetween]
      have := StrLaws.occ_length_le x y 0 x.length (x.length + 1)
      omega
theorem led_ne {lN : Addr} {news own : Led} {o : Obj} {rest : Led} (h : AllLt lN news) (ho : OwnOff own (((lN, o) :: rest).map (·.1))) : ∀ p ∈ news ++ own, p.1 ≠ lN := by
  intro p hp
  rcases List.mem_append.mp hp with hp | hp
  · exact Nat.ne_of_lt (ktn_ltOf h p hp)
  · exact ho p hp lN (.head _)
theorem fr_same {g h : Heap} {L : Addr} {x : Str} {v : Value} {m₀ m₁ : Str → Option Value} (e : ∀ z, z ≠ x → m₁ z = m₀ z) (F : Fr g L h (fun y => if y = x then some v else m₁ y)) : Fr g L h (fun y => if y = x then some v else m₀ y) := by
  have : (fun y => if y = x then some v else m₁ y) = (fun y => if y = x then some v else m₀ y) := by
    funext y; by_cases hy : y = x
    · simp [hy]
    · simp [hy, e y hy]
  rw [← this]; exact F
theorem fr_out {g h : Heap} {L : Addr} {x : Str} {m₀ m₁ : Str → Option Value} (e : ∀ z, z ≠ x → m₁ z = m₀ z) (F : Fr g L h m₁) : Fr g L h (fun y => if y = x then m₁ x else m₀ y) := by
  have : m₁ = (fun y => if y = x then m₁ x else m₀ y) := by
    funext y; by_cases hy : y = x
    · simp [hy]
    · simp [hy, e y hy]
  rw [← this]; exact F
/-- one piece taken into the pieces kept so far -/
noncomputable def stepN (ini : Str) (acc : List Str) (c : Str) : List Str :=
  if c.length = 0 ∨ (c == Str.ofString ".") = true then acc
  else if (c != Str.ofString "..") = true ∨ (ini.length = 0 ∧ acc = []) ∨ acc.getLast? = some (Str.ofString "..") then acc ++ [c]
  else acc.dropLast
theorem stepN_len1 (ini : Str) (acc : List Str) (c : Str) : (stepN ini acc c).length ≤ acc.length + 1 := by
  unfold stepN; split
  · omega
  · split <;> simp <;> omega
theorem stepN_len (ini : Str) : ∀ (l acc : List Str), (l.foldl (stepN ini) acc).length ≤ acc.length + l.length
  | [], _ => Nat.le_refl _
  | c :: l, acc => by
    have h1 := stepN_len ini l (stepN ini acc c)
    have h2 := stepN_len1 ini acc c
    simp only [List.foldl_cons, List.length_cons]; omega
section
variable {ini c y : Str} {acc : List Str}
theorem stepN_skip1 (h : (c.length : Int) = 0) : stepN ini acc c = acc := by
  unfold stepN; rw [if_pos (.inl (by omega))]
theorem stepN_skip2 (h : (c == Str.ofString ".") = true) : stepN ini acc c = acc := by
  unfold stepN; rw [if_pos (.inr h)]
theorem stepN_app1 (h1 : (c.length : Int) ≠ 0) (h2 : (c == Str.ofString ".") = false) (h3 : (c != Str.ofString "..") = true) : stepN ini acc c = acc ++ [c] := by
  unfold stepN; rw [if_neg (by rw [h2]; simp; omega), if_pos (.inl h3)]
theorem stepN_app2 (h1 : (c.length : Int) ≠ 0) (h2 : (c == Str.ofString ".") = false) (h4 : (ini.length : Int) = 0) : stepN ini [] c = [c] := by
  unfold stepN; rw [if_neg (by rw [h2]; simp; omega), if_pos (.inr (.inl ⟨by omega, rfl⟩))]; rfl
theorem stepN_app3 (h1 : (c.length : Int) ≠ 0) (h2 : (c == Str.ofString ".") = false) (h4 : (y == Str.ofString "..") = true) : stepN ini (acc ++ [y]) c = acc ++ [y] ++ [c] := by
  unfold stepN; rw [if_neg (by rw [h2]; simp; omega), if_pos (.inr (.inr (by rw [eq_of_beq h4]; simp)))]
theorem stepN_pop (h1 : (c.length : Int) ≠ 0) (h2 : (c == Str.ofString ".") = false) (h3 : (c != Str.ofString "..") = false) (h4 : (y == Str.ofString "..") = false) : stepN ini (acc ++ [y]) c = acc := by
  have h5 : y ≠ Str.ofString ".." := fun e => by rw [e] at h4; simp at h4
  unfold stepN; rw [if_neg (by rw [h2]; simp; omega), if_neg (by rw [h3]; simp [h5])]; simp
theorem stepN_none (h1 : (c.length : Int) ≠ 0) (h2 : (c == Str.ofString ".") = false) (h3 : (c != Str.ofString "..") = false) (h4 : (ini.length : Int) ≠ 0) : stepN ini [] c = [] := by
  unfold stepN; rw [if_neg (by rw [h2]; simp; omega), if_neg (by rw [h3]; simp; omega)]; simp
end
noncomputable def compsF (x : Str) : List Str := (Txt.split (restF x) (Str.ofString "/")).foldl (stepN (initF x)) []
noncomputable def normF (x : Str) : Str :=
  if x.length = 0 then Str.ofString "." else
  let r := initF x ++ Txt.join (Str.ofString "/") (compsF x)
  if r.length = 0 then Str.ofString "." else r


noncomputable def JN (x : Str) (ws : List Str) (m₀ : Str → Option Value) (lN : Addr) (rest : Led) (i : Nat) (m : Str → Option Value) (nx : Led) : Prop :=
  ∃ cs n, nx = (lN, listOf cs.toArray n) :: rest ∧ StrsAre cs ((ws.take i).foldl (stepN (initF x)) []) ∧ ∀ z, z ≠ Str.ofString "comp" → m z = m₀ z
theorem normF_a {x : Str} (h : (x.length : Int) = 0) : Str.ofString "." = normF x := by
  unfold normF; rw [if_pos (by omega)]
theorem normF_b {x : Str} {cf : List Str} (h : (x.length : Int) ≠ 0) (e : compsF x = cf) (h2 : ((initF x ++ Txt.join (Str.ofString "/") cf).length : Int) ≠ 0) : initF x ++ Txt.join (Str.ofString "/") cf = normF x := by
  subst e; unfold normF; rw [if_neg (by omega)]; dsimp only; rw [if_neg (by omega)]
theorem normF_c {x : Str} {cf : List Str} (h : (x.length : Int) ≠ 0) (e : compsF x = cf) (h2 : ((initF x ++ Txt.join (Str.ofString "/") cf).length : Int) = 0) : Str.ofString "." = normF x := by
  subst e; unfold normF; rw [if_neg (by omega)]; dsimp only; rw [if_pos (by omega)]
theorem stepN_mem {ini : Str} {acc : List Str} {c a : Str} (h : a ∈ stepN ini acc c) : a ∈ acc ∨ a = c := by
  unfold stepN at h; split at h
  · exact .inl h
  · split at h
    · rcases List.mem_append.mp h with h | h
      · exact .inl h
      · exact .inr (List.mem_singleton.mp h)
    · exact .inl (List.dropLast_subset _ h)
theorem foldN_mem (ini : Str) : ∀ (l acc : List Str) (a : Str), a ∈ l.foldl (stepN ini) acc → a ∈ acc ∨ a ∈ l
  | [], _, _, h => .inl h
  | c :: l, acc, a, h => by
    rcases foldN_mem ini l _ a h with h | h
    · rcases stepN_mem h with h | h
      · exact .inl h
      · exact .inr (h ▸ .head _)
    · exact .inr (.tail _ h)
theorem sum_le (k : Nat) : ∀ l : List Str, (∀ a ∈ l, a.length ≤ k) → (l.map (fun x => x.length)).sum ≤ k * l.length
  | [], _ => Nat.zero_le _
  | a :: l, h => by
    have h1 := sum_le k l (fun b hb => h b (.tail _ hb))
    have h2 := h a (.head _)
    simp only [List.map_cons, List.sum_cons, List.length_cons, Nat.mul_add, Nat.mul_one]; omega
theorem compsF_sum (ini : Str) (l acc : List Str) (hl : ∀ a ∈ l, a.length ≤ 100) (ha : ∀ a ∈ acc, a.length ≤ 100) : ((l.foldl (stepN ini) acc).map (fun x => x.length)).sum ≤ 100 * (acc.length + l.length) := by
  refine Nat.le_trans (sum_le 100 _ fun a h => ?_) (Nat.mul_le_mul_left _ (stepN_len ini l acc))
  rcases foldN_mem ini l acc a h with h | h
  · exact ha a h
  · exact hl a h
theorem join_len_of (sep : Str) (cf : List Str) (h : (cf.map (fun x => x.length)).sum ≤ 10200 ∧ cf.length ≤ 102) (hs : sep.length = 1 := by decide +kernel) : (Txt.join sep cf).length ≤ 20000 := by
  rw [txt_join]
  refine Nat.le_trans (StrLaws.join_length_le _ _) ?_
  rw [hs]; omega
theorem jn_end {x : Str} {ws acc : List Str} {m₀ m' : Str → Option Value} {lN D L : Addr} {oD : Obj} {rest own : Led} {i n' tk : Nat} {g h' : Heap} {s₁ : Shared} {cs' : List Value} {o : Obj}
    (hD : (D, oD) ∈ (lN, listOf cs'.toArray n') :: rest) (F : Fr g L h' m') (N : News g L h' ((lN, listOf cs'.toArray n') :: (rest ++ own))) (hoff : OwnOff own (((lN, o) :: rest).map (·.1)))
    (hst : (ws.take (i + 1)).foldl (stepN (initF x)) [] = acc) (hcs : StrsAre cs' acc) (hm : ∀ z, z ≠ Str.ofString "comp" → m' z = m₀ z) :
    InvEndG g L (fun m' nx => (D, oD) ∈ nx ∧ JN x ws m₀ lN rest (i + 1) m' nx) own s₁ { s₁ with heap := h', toks := tk } :=
  InvEndG.intro (nx := (lN, listOf cs'.toArray n') :: rest) F N ⟨hD, cs', n', rfl, by rw [hst]; exact hcs, hm⟩ hoff
    (fun p hp => by rcases List.mem_cons.mp hp with rfl | hp; exact .head _; exact .tail _ (List.mem_append.mpr (.inl hp))) (fun p hp => .tail _ (List.mem_append.mpr (.inr hp)))
theorem d_normpath (w : World) (x : Str) (t : Tok) (news : Led) (hx : x.length ≤ 100) : Does w 184 [.str x t] news 3 24 (fun v news' => (∃ t', v = .str (normF x) t') ∧ news = news') := by
  w_top off
  unfold Does
  k_fill
  intro mean mg mb dp un gd cn cs a ccd cl outer A₀ base h₀ L m s Q E B F X N T hk hd hu hret
  refine wpAny_call ?_
  k_dflt cell_enter
  (rename Fr _ _ _ _ => F0)
  replace F0 : Fr _ _ _ (fun y => List.lookup y [(Str.ofString "path", .str x t)]) := F0
  k_steps
  rotate_left
  · exact hret _ _ _ _ (by k_asm) (by k_asm) ⟨str_is (normF_a (by with_reducible assumption)), rfl⟩
  refine KSpl.split1 (by k_asm) (by k_asm) (by decide) ?_ (by rw [sizeLine_eq]; have := restF_len x; omega)
  intro D l h' k' e' a' F' N' l1
  k_lt l1
  have hsh : ∀ a ∈ l.map (·.1), a.length ≤ 100 := fun a ha => Nat.le_trans (part_short (e' ▸ ha)) (by have := restF_len x; omega)
  have hct : (l.map (·.1)).length ≤ 102 := by rw [e']; have := split_count (restF x) (Str.ofString "/"); have := restF_len x; omega
  generalize hws : l.map (·.1) = ws at *
  generalize hvs : strValues l = vs at *
  k_steps
  with_unfolding_all refine For_invVF (by k_asm) (by exact rfl) (by exact rfl) ?_
  walk1
  (rename Fr _ _ _ _ => F1)
  (rename News _ _ _ _ => N1)
  (rename (_ ∧ _ ∧ _) => l2)
  refine kdl_iter (JN x ws _ _ _) rfl (by k_mem) F1 N1 ⟨[], 0, rfl, .nil, fun _ _ => rfl⟩ ?_ ?_
  · intro i v m₁ nx h tk own hv hoff hmem hJ F2 N2
    obtain ⟨cs, n, rfl, hcs, hm⟩ := hJ
    have F3 := fr_same hm F2
    have hini : (initF x).length ≤ 101 := Nat.le_trans (initF_len x) (by omega)
    clear F2 F1 N1
    obtain ⟨c, tc, rfl, hc⟩ := StrsAre.item a' i v hv
    have hcl : c.length ≤ 100 := hsh c (List.mem_of_getElem? hc)
    have hlen := stepN_len (initF x) (ws.take i) []
    rw [← hcs.length] at hlen
    have htk : (ws.take i).length ≤ 102 := by rw [List.length_take]; omega
    simp only [List.length_nil, Nat.zero_add] at hlen
    have hst : (ws.take (i + 1)).foldl (stepN (initF x)) [] = stepN (initF x) ((ws.take i).foldl (stepN (initF x)) []) c := by
      rw [List.take_add_one, hc]; simp
    generalize (ws.take i).foldl (stepN (initF x)) [] = acc at *
    have hne := led_ne l2.2.2 hoff
    simp only [List.cons_append] at N2
    rcases strs_snoc hcs with ⟨rfl, rfl⟩ | ⟨p, y, ty, acc', rfl, rfl, hp⟩
    · k_steps
      all_goals (refine' jn_end ?jD ?jF ?jN hoff hst ?_ ?jm; (case jF => k_asm); (case jN => assumption); (case jD => k_mem); (case jm => exact fun z hz => if_neg hz))
      all_goals first
        | (rw [stepN_skip1 (by with_reducible assumption)]; exact hcs)
        | (rw [stepN_skip2 (by with_reducible assumption)]; exact hcs)
        | (rw [stepN_app1 (by with_reducible assumption) (by with_reducible assumption) (by with_reducible assumption)]; exact StrsAre.append' hcs (.cons _ _ .nil))
        | (rw [stepN_app2 (by with_reducible assumption) (by with_reducible assumption) (by with_reducible assumption)]; exact StrsAre.append' hcs (.cons _ _ .nil))
        | (rw [stepN_app3 (by with_reducible assumption) (by with_reducible assumption) (by with_reducible assumption)]; exact StrsAre.append' hcs (.cons _ _ .nil))
        | (rw [stepN_pop (by with_reducible assumption) (by with_reducible assumption) (by with_reducible assumption) (by with_reducible assumption)]; exact hp)
        | (rw [stepN_none (by with_reducible assumption) (by with_reducible assumption) (by with_reducible assumption) (by with_reducible assumption)]; exact hcs)
    · have hpl : p.length ≤ 102 := by simp at hlen; omega
      k_steps
      all_goals (refine' jn_end ?jD ?jF ?jN hoff hst ?_ ?jm; (case jF => k_asm); (case jN => assumption); (case jD => k_mem); (case jm => exact fun z hz => if_neg hz))
      all_goals first
        | (rw [stepN_skip1 (by with_reducible assumption)]; exact hcs)
        | (rw [stepN_skip2 (by with_reducible assumption)]; exact hcs)
        | (rw [stepN_app1 (by with_reducible assumption) (by with_reducible assumption) (by with_reducible assumption)]; exact StrsAre.append' hcs (.cons _ _ .nil))
        | (rw [stepN_app2 (by with_reducible assumption) (by with_reducible assumption) (by with_reducible assumption)]; exact StrsAre.append' hcs (.cons _ _ .nil))
        | (rw [stepN_app3 (by with_reducible assumption) (by with_reducible assumption) (by with_reducible assumption)]; exact StrsAre.append' hcs (.cons _ _ .nil))
        | (rw [stepN_pop (by with_reducible assumption) (by with_reducible assumption) (by with_reducible assumption) (by with_reducible assumption)]; exact hp)
        | (rw [stepN_none (by with_reducible assumption) (by with_reducible assumption) (by with_reducible assumption) (by with_reducible assumption)]; exact hcs)
  · intro m₁ nx h tk hJ F2 N2
    obtain ⟨cs, n, rfl, hcs, hm⟩ := hJ
    have F3 := fr_out hm F2
    clear F2 F1 N1 hm
    rw [a'.length, List.take_length] at hcs
    have hsum : ((ws.foldl (stepN (initF x)) []).map (fun x => x.length)).sum ≤ 10200 ∧ (ws.foldl (stepN (initF x)) []).length ≤ 102 := by
      have h1 := compsF_sum (initF x) ws [] hsh (by intro a ha; cases ha)
      have h2 := stepN_len (initF x) ws []
      simp only [List.length_nil, Nat.zero_add] at h1 h2
      exact ⟨Nat.le_trans h1 (by omega), by omega⟩
    have hini : (initF x).length ≤ 101 := Nat.le_trans (initF_len x) (by omega)
    have hx0 : (x.length : Int) ≠ 0 := by assumption
    have hcf : ws.foldl (stepN (initF x)) [] = compsF x := by rw [e']; rfl
    rw [hcf] at hcs hsum
    clear hcf a' e' hsh hct hws hvs l1 l2
    generalize hcf : compsF x = cf at *
    k_steps
    refine join_listC (News.isList (by k_asm) (by k_mem)) hcs (by decide +kernel) (by omega) ?_
    intro t9 k9
    have hjl := join_len_of (Str.ofString "/") cf hsum
    dsimp only
    generalize hjj : Txt.join (Str.ofString "/") cf = jj at *
    k_steps
    · subst hjj
      exact hret _ _ _ _ (by k_asm) (cb_drop (by assumption) (by repeat (first | exact drop0 | refine drop1 ?_))) ⟨str_is (normF_b hx0 hcf (by with_reducible assumption)), rfl⟩
    · subst hjj
      exact hret _ _ _ _ (by k_asm) (cb_drop (by assumption) (by repeat (first | exact drop0 | refine drop1 ?_))) ⟨str_is (normF_c hx0 hcf (by with_reducible assumption)), rfl⟩
end Mine
local macro_rules | `(tactic| walk_at "mine D") => `(tactic| ((with_reducible refine d_dirname _ _ _ _ ?_); omega))

/-! part F6 -/
namespace Mine
open PySem.Calls PySem.Spec

noncomputable def aboveN : Nat → Str → List Str
  | 0, _ => []
  | n + 1, p => if (dirF p != p) = true then dirF p :: aboveN n (dirF p) else []
noncomputable def stopsN : Nat → Str → Bool
  | 0, p => dirF p == p
  | n + 1, p => dirF p == p || stopsN n (dirF p)
theorem dirF_len (x : Str) : (dirF x).length ≤ x.length := by
  unfold dirF; split
  · exact Nat.le_trans (len_rstripChars _ _) (Txt.slice_le _ _ _)
  · exact Txt.slice_le _ _ _
noncomputable def mapA (p : Str) (tp : Tok) (l : Addr) (y : Str) : Option Value := if y = Str.ofString "path" then some (.str p tp) else if y = Str.ofString "told" then some (.ref l) else none
theorem mapA_start {x : Str} {t : Tok} {l : Addr} : (fun y => if y = Str.ofString "told" then some (Value.ref l) else List.lookup y [(Str.ofString "path", Value.str x t)]) = mapA x t l := by
  funext y; unfold mapA
  by_cases h : y = Str.ofString "path"
  · subst h; rfl
  · rw [if_neg h]; have hb : (y == Str.ofString "path") = false := by simpa using h
    simp only [List.lookup, hb]
theorem mapA_next {p p' : Str} {tp tp' : Tok} {l : Addr} : (fun y => if y = Str.ofString "path" then some (Value.str p' tp') else mapA p tp l y) = mapA p' tp' l := by
  funext y; unfold mapA
  by_cases h : y = Str.ofString "path"
  · rw [if_pos h, if_pos h]
  · rw [if_neg h, if_neg h, if_neg h]
theorem stops_more {n : Nat} {p : Str} (h : stopsN n p = true) (hne : (dirF p != p) = true) : ∃ n', n = n' + 1 ∧ stopsN n' (dirF p) = true := by
  have hb : (dirF p == p) = false := by simpa [bne] using hne
  cases n with
  | zero => unfold stopsN at h; rw [hb] at h; cases h
  | succ n => unfold stopsN at h; rw [hb, Bool.false_or] at h; exact ⟨n, rfl, h⟩
theorem above_more {n : Nat} {p : Str} (hne : (dirF p != p) = true) : aboveN (n + 1) p = dirF p :: aboveN n (dirF p) := by
  rw [aboveN, if_pos hne]
theorem above_done {n : Nat} {p : Str} (hne : (dirF p != p) = false) : aboveN n p = [] := by
  cases n with
  | zero => rfl
  | succ n => rw [aboveN, if_neg (by rw [hne]; decide)]
noncomputable def JA (fu : Nat) (x : Str) (l : Addr) (rest : Led) (n : Nat) (m : Str → Option Value) (nx : Led) : Prop :=
  ∃ p tp cs k acc, m = mapA p tp l ∧ nx = (l, listOf cs.toArray k) :: rest ∧ StrsAre cs acc ∧ acc ++ aboveN n p = aboveN fu x ∧ stopsN n p = true ∧ p.length ≤ x.length ∧ acc.length + n = fu

theorem d_law_above (w : World) (fu : Nat) (x : Str) (t : Tok) (news : Led) (hx : x.length ≤ 100) (hs : stopsN fu x = true) (hN : fu ≤ 500) :
    Does w 198 [.str x t] news 3 24 (fun v news' => ∃ D cs k, v = .ref D ∧ (D, listOf cs.toArray k) :: news = news' ∧ StrsAre cs (aboveN fu x) ∧ ∀ p ∈ news, p.1 < D) := by
  w_top off
  unfold Does
  k_fill
  intro mean mg mb dp un gd cn cs a ccd cl outer A₀ base h₀ L m s Q E B F X N T hk hd hu hret
  refine wpAny_call ?_
  k_dflt cell_enter
  (rename Fr _ _ _ _ => F0)
  replace F0 : Fr _ _ _ (fun y => List.lookup y [(Str.ofString "path", .str x t)]) := F0
  iterate 8 (first | walk1 | (dsimp only; walk1))
  (rename Fr _ _ _ _ => F1)
  (rename News _ _ _ _ => N1)
  (rename (∀ p ∈ news, _) => l2)
  refine While_inv (JA fu x _ news) F1 N1 ⟨x, t, [], 0, [], ?_, rfl, .nil, rfl, hs, Nat.le_refl _, by simp⟩ ?_
  · exact mapA_start
  intro n m₁ nx h₁ tk₁ F2 N2 hJ
  obtain ⟨p, tp, cs, k, acc, rfl, rfl, hcs, hacc, hst, hp, hnn⟩ := hJ
  clear F1 N1
  have hlt : ∀ q ∈ news, q.1 ≠ _ := fun q hq => Nat.ne_of_lt (l2 q hq)
  have hcl : cs.length ≤ 500 := by rw [hcs.length]; omega
  have hpl : p.length ≤ 100 := Nat.le_trans hp hx
  have hdl := dirF_len p
  dsimp only
  generalize hR : WhileStep _ _ _ _ _ = R
  k_steps
  · subst hR
    have hne : (dirF p != p) = true := by assumption
    obtain ⟨n', rfl, hst'⟩ : ∃ n', n = n' + 1 ∧ stopsN n' (dirF p) = true := stops_more hst hne
    rw [above_more hne] at hacc
    refine WhileStep.intro (n' := n') (by k_asm) (by assumption) (by omega) ⟨dirF p, _, _, _, acc ++ [dirF p], mapA_next, rfl, StrsAre.append' hcs (.cons _ _ .nil), by rw [List.append_assoc]; exact hacc, hst', by omega, by simp; omega⟩

  · have he : (dirF p != p) = false := by assumption
    rw [above_done he, List.append_nil] at hacc
    subst hacc
    exact hret _ _ _ _ (by k_asm) (by assumption) ⟨_, _, _, rfl, rfl, hcs, l2⟩
end Mine

/-! part F4 -/
namespace Mine
open PySem.Calls PySem.Spec

theorem d_splitrootP (w : World) (x : Str) (t : Tok) (news : Led) (hx : x.length ≤ 100) : Does w 115 [.str x t] news 1 8 (SplitOut x news) := by
  w_top off
  unfold Does
  k_fill
  intro mean mg mb dp un gd cn cs a ccd cl outer A₀ base h₀ L m s Q E B F X N T hk hd hu hret
  refine wpAny_call ?_
  k_dflt cell_enter
  (rename Fr _ _ _ _ => F0)
  replace F0 : Fr _ _ _ (fun y => List.lookup y [(Str.ofString "p", .str x t)]) := F0
  k_steps
  all_goals exact hret _ _ _ _ (by k_asm) (by assumption) (splitOut_of (by first | exact initF_a (x := x) (by with_reducible assumption) | exact initF_b (x := x) (by with_reducible assumption) (by with_reducible assumption) | exact initF_c (x := x) (by with_reducible assumption) (by with_reducible assumption) (by with_reducible assumption) | exact initF_d (x := x) (by with_reducible assumption) (by with_reducible assumption) (by with_reducible assumption)) (by assumption))
end Mine
local macro_rules | `(tactic| walk_at "mine D") => `(tactic| ((with_reducible refine d_splitrootP _ _ _ _ ?_); omega))
namespace Mine
open PySem.Calls PySem.Spec
theorem d_normpathP (w : World) (x : Str) (t : Tok) (news : Led) (hx : x.length ≤ 100) : Does w 122 [.str x t] news 2 16 (fun v news' => (∃ t', v = .str (normF x) t') ∧ news = news') := by
  w_top off
  unfold Does
  k_fill
  intro mean mg mb dp un gd cn cs a ccd cl outer A₀ base h₀ L m s Q E B F X N T hk hd hu hret
  refine wpAny_call ?_
  k_dflt cell_enter
  (rename Fr _ _ _ _ => F0)
  replace F0 : Fr _ _ _ (fun y => List.lookup y [(Str.ofString "path", .str x t)]) := F0
  k_steps
  rotate_left
  · exact hret _ _ _ _ (by k_asm) (by k_asm) ⟨str_is (normF_a (by with_reducible assumption)), rfl⟩
  refine KSpl.split1 (by k_asm) (by k_asm) (by decide) ?_ (by rw [sizeLine_eq]; have := restF_len x; omega)
  intro D l h' k' e' a' F' N' l1
  k_lt l1
  have hsh : ∀ a ∈ l.map (·.1), a.length ≤ 100 := fun a ha => Nat.le_trans (part_short (e' ▸ ha)) (by have := restF_len x; omega)
  have hct : (l.map (·.1)).length ≤ 102 := by rw [e']; have := split_count (restF x) (Str.ofString "/"); have := restF_len x; omega
  generalize hws : l.map (·.1) = ws at *
  generalize hvs : strValues l = vs at *
  k_steps
  with_unfolding_all refine For_invVF (by k_asm) (by exact rfl) (by exact rfl) ?_
  walk1
  (rename Fr _ _ _ _ => F1)
  (rename News _ _ _ _ => N1)
  (rename (_ ∧ _ ∧ _) => l2)
  refine kdl_iter (JN x ws _ _ _) rfl (by k_mem) F1 N1 ⟨[], 0, rfl, .nil, fun _ _ => rfl⟩ ?_ ?_
  · intro i v m₁ nx h tk own hv hoff hmem hJ F2 N2
    obtain ⟨cs, n, rfl, hcs, hm⟩ := hJ
    have F3 := fr_same hm F2
    have hini : (initF x).length ≤ 101 := Nat.le_trans (initF_len x) (by omega)
    clear F2 F1 N1
    obtain ⟨c, tc, rfl, hc⟩ := StrsAre.item a' i v hv
    have hcl : c.length ≤ 100 := hsh c (List.mem_of_getElem? hc)
    have hlen := stepN_len (initF x) (ws.take i) []
    rw [← hcs.length] at hlen
    have htk : (ws.take i).length ≤ 102 := by rw [List.length_take]; omega
    simp only [List.length_nil, Nat.zero_add] at hlen
    have hst : (ws.take (i + 1)).foldl (stepN (initF x)) [] = stepN (initF x) ((ws.take i).foldl (stepN (initF x)) []) c := by
      rw [List.take_add_one, hc]; simp
    generalize (ws.take i).foldl (stepN (initF x)) [] = acc at *
    have hne := led_ne l2.2.2 hoff
    simp only [List.cons_append] at N2
    rcases strs_snoc hcs with ⟨rfl, rfl⟩ | ⟨p, y, ty, acc', rfl, rfl, hp⟩
    · k_steps
      all_goals (refine' jn_end ?jD ?jF ?jN hoff hst ?_ ?jm; (case jF => k_asm); (case jN => assumption); (case jD => k_mem); (case jm => exact fun z hz => if_neg hz))
      all_goals first
        | (rw [stepN_skip1 (by with_reducible assumption)]; exact hcs)
        | (rw [stepN_skip2 (by with_reducible assumption)]; exact hcs)
        | (rw [stepN_app1 (by with_reducible assumption) (by with_reducible assumption) (by with_reducible assumption)]; exact StrsAre.append' hcs (.cons _ _ .nil))
        | (rw [stepN_app2 (by with_reducible assumption) (by with_reducible assumption) (by with_reducible assumption)]; exact StrsAre.append' hcs (.cons _ _ .nil))
        | (rw [stepN_app3 (by with_reducible assumption) (by with_reducible assumption) (by with_reducible assumption)]; exact StrsAre.append' hcs (.cons _ _ .nil))
        | (rw [stepN_pop (by with_reducible assumption) (by with_reducible assumption) (by with_reducible assumption) (by with_reducible assumption)]; exact hp)
        | (rw [stepN_none (by with_reducible assumption) (by with_reducible assumption) (by with_reducible assumption) (by with_reducible assumption)]; exact hcs)
    · have hpl : p.length ≤ 102 := by simp at hlen; omega
      k_steps
      all_goals (refine' jn_end ?jD ?jF ?jN hoff hst ?_ ?jm; (case jF => k_asm); (case jN => assumption); (case jD => k_mem); (case jm => exact fun z hz => if_neg hz))
      all_goals first
        | (rw [stepN_skip1 (by with_reducible assumption)]; exact hcs)
        | (rw [stepN_skip2 (by with_reducible assumption)]; exact hcs)
        | (rw [stepN_app1 (by with_reducible assumption) (by with_reducible assumption) (by with_reducible assumption)]; exact StrsAre.append' hcs (.cons _ _ .nil))
        | (rw [stepN_app2 (by with_reducible assumption) (by with_reducible assumption) (by with_reducible assumption)]; exact StrsAre.append' hcs (.cons _ _ .nil))
        | (rw [stepN_app3 (by with_reducible assumption) (by with_reducible assumption) (by with_reducible assumption)]; exact StrsAre.append' hcs (.cons _ _ .nil))
        | (rw [stepN_pop (by with_reducible assumption) (by with_reducible assumption) (by with_reducible assumption) (by with_reducible assumption)]; exact hp)
        | (rw [stepN_none (by with_reducible assumption) (by with_reducible assumption) (by with_reducible assumption) (by with_reducible assumption)]; exact hcs)
  · intro m₁ nx h tk hJ F2 N2
    obtain ⟨cs, n, rfl, hcs, hm⟩ := hJ
    have F3 := fr_out hm F2
    clear F2 F1 N1 hm
    rw [a'.length, List.take_length] at hcs
    have hsum : ((ws.foldl (stepN (initF x)) []).map (fun x => x.length)).sum ≤ 10200 ∧ (ws.foldl (stepN (initF x)) []).length ≤ 102 := by
      have h1 := compsF_sum (initF x) ws [] hsh (by intro a ha; cases ha)
      have h2 := stepN_len (initF x) ws []
      simp only [List.length_nil, Nat.zero_add] at h1 h2
      exact ⟨Nat.le_trans h1 (by omega), by omega⟩
    have hini : (initF x).length ≤ 101 := Nat.le_trans (initF_len x) (by omega)
    have hx0 : (x.length : Int) ≠ 0 := by assumption
    have hcf : ws.foldl (stepN (initF x)) [] = compsF x := by rw [e']; rfl
    rw [hcf] at hcs hsum
    clear hcf a' e' hsh hct hws hvs l1 l2
    generalize hcf : compsF x = cf at *
    k_steps
    refine join_listC (News.isList (by k_asm) (by k_mem)) hcs (by decide +kernel) (by omega) ?_
    intro t9 k9
    have hjl := join_len_of (Str.ofString "/") cf hsum
    dsimp only
    generalize hjj : Txt.join (Str.ofString "/") cf = jj at *
    k_steps
    · subst hjj
      exact hret _ _ _ _ (by k_asm) (cb_drop (by assumption) (by repeat (first | exact drop0 | refine drop1 ?_))) ⟨str_is (normF_b hx0 hcf (by with_reducible assumption)), rfl⟩
    · subst hjj
      exact hret _ _ _ _ (by k_asm) (cb_drop (by assumption) (by repeat (first | exact drop0 | refine drop1 ?_))) ⟨str_is (normF_c hx0 hcf (by with_reducible assumption)), rfl⟩
end Mine

end

/-! part F5 -/
namespace Mine
open PySem.Calls PySem.Spec

theorem d_kind (w : World) (n x : Str) (tn t : Tok) (news : Led) : Does w 101 [.str n tn, .str x t] news 1 8 (fun v news' => (∃ t', v = .str (Str.ofString "") t') ∧ news = news') := by
  w_top off
  unfold Does
  k_fill
  intro mean mg mb dp un gd cn cs a ccd cl outer A₀ base h₀ L m s Q E B F X N T hk hd hu hret
  refine wpAny_call ?_
  k_dflt cell_enter
  (rename Fr _ _ _ _ => F0)
  replace F0 : Fr _ _ _ (fun y => List.lookup y [(Str.ofString "x", .str x t), (Str.ofString "name", .str n tn)]) := F0
  k_steps
  all_goals exact hret _ _ _ _ (by k_asm) (cb_drop (by assumption) (by repeat (first | exact drop0 | refine drop1 ?_))) ⟨⟨_, rfl⟩, rfl⟩
end Mine
local macro_rules | `(tactic| walk_at "mine D") => `(tactic| (with_reducible refine d_kind _ _ _ _ _ _))
local macro_rules | `(tactic| walk_at "mine D") => `(tactic| ((with_reducible refine d_normpathP _ _ _ _ ?_); omega))
local macro_rules | `(tactic| k_room) => `(tactic| ktr_room)
namespace Mine
open PySem.Calls PySem.Spec

theorem d_normpathS (w : World) (x : Str) (t : Tok) (news : Led) (hx : x.length ≤ 100) : Does w 129 [.str x t] news 4 40 (fun v news' => (∃ t', v = .str (normF x) t') ∧ news = news') := by
  w_top off
  unfold Does
  k_fill
  intro mean mg mb dp un gd cn cs a ccd cl outer A₀ base h₀ L m s Q E B F X N T hk hd hu hret
  refine wpAny_call ?_
  k_dflt (refine' kp_both ?k1 ?k2 ?k3 ?k4 ?k5 ?kA ?kF ?kK ?k6 ?k7 ?k8 ?kV ?kX ?kQ ?kM ?kN ?kD ?kR ?kP ?kS ?kT ?kB ?_ ?c2 ?c3 ?c4 ?c5; (case kA => exact rfl); (case kF => exact rfl); (case kK => assumption); (case k1 => k_asm); (case k2 => k_asm); (case k3 => k_asm); (case k4 => k_asm); (case k5 => k_asm); (case k6 => k_is); (case k7 => k_is); (case k8 => ktr_room); (case kV => kp_lit); (case kX => kp_lit); (case kQ => exact rfl); (case kM => exact rfl); (case kN => exact rfl); (case kD => kp_flats); (case kR => exact rfl); (case kP => exact rfl); (case kS => exact fun _ => rfl); (case kT => exact fun _ _ => rfl); (case kB => exact fun _ _ => locs rfl); (case c5 => decide); (case c2 => exact rfl); (case c3 => exact rfl); (case c4 => exact rfl); k_whole; intro C' D' o' g' L' h' tk' l1 l2 lo' hs' fs' FG' F' N' B' X' T'; (try k_lt l1); (try k_lt2 l2); (try dsimp only); (try k_fold))
  k_steps
  all_goals exact hret _ _ _ _ (by k_asm) (cb_drop (by assumption) (by repeat (first | exact drop0 | refine drop1 ?_))) ⟨⟨_, rfl⟩, rfl⟩
end Mine

/-! part CR -/
namespace Mine
open PySem.Calls PySem.Spec PyProof.Rows.LCg PyProof.Rows.LCt

theorem compEnd_mono {h₀ : Heap} {L I C D : Addr} {m : Str → Option Value} {s₁ s₂ : Shared} {oI oC oD : Obj} {S : Led → Prop} {rest rest' : Value → Led → Prop} {y : Value}
    (k : ∀ news', rest y news' → rest' y news') (h : CompEnd h₀ L m s₁ I oI C oC D oD S rest y s₂) : CompEnd h₀ L m s₁ I oI C oC D oD S rest' y s₂ := by
  obtain ⟨h', tk, news', e, F, N, o, hS, r⟩ := h
  exact ⟨h', tk, news', e, F, N, o, hS, k _ r⟩

section
variable {prog : Program} {w : World} {A : Around} {s : Shared} {h₀ : Heap} {L : Addr} {m : Str → Option Value} {env : Env} {ct elt : Expr} {x : Str} {scope : Scope} {cl : List (Str × Addr)} {S : Led → Prop} {P : Nat → Value → Prop} {Fin : List Value → Led → Prop} {n : Nat}

noncomputable def TurnT (prog : Program) (w : World) (A : Around) (h₀ : Heap) (L : Addr) (m : Str → Option Value) (env : Env) (ct elt : Expr) (x : Str) (scope : Scope) (cl : List (Str × Addr)) (s : Shared) (S : Led → Prop) (P : Nat → Value → Prop) (J : Nat → List Value → Led → Prop) (i : Nat) (ys : List Value) (news : Led) : Prop :=
  ∀ v I oI C oC D m₂ h tk (E' : Value → Shared → Prop) (R1 : Value → Shared → Prop) (R2 : Shared → Prop), P i v → NsObj oC m₂ → m₂ x = some v → Fr h₀ L h m → News h₀ L h ((I, oI) :: (C, oC) :: (D, lst ys) :: news) → Off3 I C D news → ((@Ne Nat I C) ∧ (@Ne Nat I D) ∧ (@Ne Nat C D)) →
      (∀ y h' tk' news', Fr h₀ L h' m → News h₀ L h' ((I, oI) :: (C, oC) :: (D, lst ys) :: news') → Off3 I C D news' → S news' → J (i + 1) (ys ++ [y]) news' → R1 y { s with heap := h', toks := tk' }) →
      (∀ h' tk' news', Fr h₀ L h' m → News h₀ L h' ((I, oI) :: (C, oC) :: (D, lst ys) :: news') → Off3 I C D news' → S news' → J (i + 1) ys news' → R2 { s with heap := h', toks := tk' }) →
      wpAny (model prog w) A (isTrue ct (compEnvC scope cl C env) (eval ct (compEnvC scope cl C env))) (fun ok s' => if ok = true then wpAny (model prog w) A (eval elt (compEnvC scope cl C env)) R1 E' s' else R2 s') E' { s with heap := h, toks := tk }

theorem restT_inv (J : Nat → List Value → Led → Prop) (turn : ∀ i ys news, i < n → J i ys news → TurnT prog w A h₀ L m env ct elt x scope cl s S P J i ys news) (fin : ∀ ys news, J n ys news → Fin ys news) :
    ∀ (k i : Nat) (ys : List Value) (news : Led), i + k = n → J i ys news → CompRestT prog w A h₀ L m env ct elt x scope cl s S P Fin k i ys news
  | 0, i, ys, news, e, hJ => by
    obtain rfl : i = n := by omega
    exact CompRestT.zero (fin _ _ hJ)
  | k + 1, i, ys, news, e, hJ => by
    refine CompRestT.succ fun v I oI C oC D m₂ h tk E' h1 h2 h3 h4 h5 h6 h7 => ?_
    refine wpAny_mono (turn i ys news (by omega) hJ v I oI C oC D m₂ h tk E' (CompEnd h₀ L m { s with heap := h, toks := tk } I oI C oC D (lst ys) S (fun y news' => J (i + 1) (ys ++ [y]) news')) (fun s' => CompEnd h₀ L m { s with heap := h, toks := tk } I oI C oC D (lst ys) S (fun _ news' => J (i + 1) ys news') Value.none s') h1 h2 h3 h4 h5 h6 h7
      (fun y h' tk' news' F' N' o' S' J' => ⟨h', tk', news', rfl, F', N', o', S', J'⟩) (fun h' tk' news' F' N' o' S' J' => ⟨h', tk', news', rfl, F', N', o', S', J'⟩)) (fun ok s' q => ?_) fun _ _ e => e
    cases ok with
    | true =>
      simp only [if_true] at q ⊢
      exact wpAny_mono q (fun y s'' r => compEnd_mono (fun news' hJ' => restT_inv J turn fin k (i + 1) _ news' (by omega) hJ') r) fun _ _ e => e
    | false =>
      simp only [Bool.false_eq_true, if_false] at q ⊢
      exact compEnd_mono (fun news' hJ' => restT_inv J turn fin k (i + 1) _ news' (by omega) hJ') q

noncomputable def TurnU (prog : Program) (w : World) (A : Around) (h₀ : Heap) (L : Addr) (m : Str → Option Value) (env : Env) (elt : Expr) (x : Str) (scope : Scope) (cl : List (Str × Addr)) (s : Shared) (S : Led → Prop) (P : Nat → Value → Prop) (J : Nat → List Value → Led → Prop) (i : Nat) (ys : List Value) (news : Led) : Prop :=
  ∀ v I oI C oC D m₂ h tk (E' : Value → Shared → Prop) (R1 : Value → Shared → Prop), P i v → NsObj oC m₂ → m₂ x = some v → Fr h₀ L h m → News h₀ L h ((I, oI) :: (C, oC) :: (D, lst ys) :: news) → Off3 I C D news → ((@Ne Nat I C) ∧ (@Ne Nat I D) ∧ (@Ne Nat C D)) →
      (∀ y h' tk' news', Fr h₀ L h' m → News h₀ L h' ((I, oI) :: (C, oC) :: (D, lst ys) :: news') → Off3 I C D news' → S news' → J (i + 1) (ys ++ [y]) news' → R1 y { s with heap := h', toks := tk' }) →
      wpAny (model prog w) A (eval elt (compEnvC scope cl C env)) R1 E' { s with heap := h, toks := tk }

theorem restU_inv (J : Nat → List Value → Led → Prop) (turn : ∀ i ys news, i < n → J i ys news → TurnU prog w A h₀ L m env elt x scope cl s S P J i ys news) (fin : ∀ ys news, J n ys news → Fin ys news) :
    ∀ (k i : Nat) (ys : List Value) (news : Led), i + k = n → J i ys news → CompRest prog w A h₀ L m env elt x scope cl s S P Fin k i ys news
  | 0, i, ys, news, e, hJ => by
    obtain rfl : i = n := by omega
    exact CompRest.zero (fin _ _ hJ)
  | k + 1, i, ys, news, e, hJ => by
    refine CompRest.succ fun v I oI C oC D m₂ h tk E' h1 h2 h3 h4 h5 h6 h7 => ?_
    refine wpAny_mono (turn i ys news (by omega) hJ v I oI C oC D m₂ h tk E' (CompEnd h₀ L m { s with heap := h, toks := tk } I oI C oC D (lst ys) S (fun y news' => J (i + 1) (ys ++ [y]) news')) h1 h2 h3 h4 h5 h6 h7
      (fun y h' tk' news' F' N' o' S' J' => ⟨h', tk', news', rfl, F', N', o', S', J'⟩)) (fun y s' q => ?_) fun _ _ e => e
    exact compEnd_mono (fun news' hJ' => restU_inv J turn fin k (i + 1) _ news' (by omega) hJ') q
end
end Mine

/-! part ES -/
namespace Mine
open PySem.Calls PySem.Spec PySem.SeqAt

theorem reads_of_strs {h : Heap} {a : Addr} {vs : List Value} {ns : List Str} (hl : h.IsList a vs.toArray) (hi : StrsAre vs ns) : Reads h (.ref a) (.list (ns.map PyData.str)) [a] := by
  obtain ⟨o, ho, hc, n, hd⟩ := hl
  exact Reads.list ho hc hd (by simpa using StrsAre.reads h hi)
theorem canLayAll0_strs : ∀ ns : List Str, (∀ x ∈ ns, PyData.strOk x = true) → PyData.canLayAll0 (ns.map PyData.str) = true
  | [], _ => by simp [PyData.canLayAll0]
  | n :: r, h => by simp [PyData.canLayAll0, PyData.canLay0, h n (.head _), canLayAll0_strs r fun x hx => h x (.tail _ hx)]
theorem depthAll_strs : ∀ ns : List Str, PyData.depthAll (ns.map PyData.str) ≤ 1
  | [] => by simp [PyData.depthAll]
  | n :: r => by
    have := depthAll_strs r
    simp only [List.map_cons, PyData.depthAll, PyData.depth]
    omega
theorem shaped_strs (ns : List Str) (h : ∀ x ∈ ns, PyData.strOk x = true) : shaped (.list (ns.map PyData.str)) = true := by
  have h1 := depthAll_strs ns
  have h2 : PyData.depth (.list (ns.map PyData.str)) ≤ 64 := by simp only [PyData.depth]; omega
  show (PyData.canLay0 (.list (ns.map PyData.str)) && decide (PyData.depth (.list (ns.map PyData.str)) ≤ 64)) = true
  rw [Bool.and_eq_true]
  exact ⟨by simp only [PyData.canLay0]; exact canLayAll0_strs ns h, decide_eq_true h2⟩
theorem noMix_strs : ∀ ns ms : List Str, noMixAll (ns.map PyData.str) (ms.map PyData.str) = true
  | [], [] => by simp [noMixAll]
  | [], _ :: _ => by simp [noMixAll]
  | _ :: _, [] => by simp [noMixAll]
  | _ :: r, _ :: q => by simp [noMixAll, noMix, noMix_strs r q]
theorem same_strs : ∀ ns ms : List Str, PySem.Spec.sameAll (ns.map PyData.str) (ms.map PyData.str) = (ns == ms)
  | [], [] => by simp [PySem.Spec.sameAll]
  | [], _ :: _ => by simp [PySem.Spec.sameAll]
  | _ :: _, [] => by simp [PySem.Spec.sameAll]
  | n :: r, k :: q => by
    simp only [List.map_cons, PySem.Spec.sameAll, PySem.Spec.same, same_strs r q]
    rfl
section
variable {prog : Program} {w : World} {A : Around} {E : Value → Shared → Prop} {s : Shared}
theorem eq_strsK {a b : Addr} {vs us : List Value} {ns ms : List Str} {Q : Value → Shared → Prop} (hl : s.heap.IsList a vs.toArray) (hi : StrsAre vs ns) (hl' : s.heap.IsList b us.toArray) (hi' : StrsAre us ms)
    (ok : ∀ x ∈ ns, PyData.strOk x = true) (ok' : ∀ x ∈ ms, PyData.strOk x = true) (hu : A.units + 64 < cLine)
    (h : Q (.bool (ns == ms)) s) : wpAny (model prog w) A (compareOp .Eq (.ref a) (.ref b)) Q E s :=
  eq_dataH_same (reads_of_strs hl hi) (reads_of_strs hl' hi') (shaped_strs ns ok) (shaped_strs ms ok') hu (by simp only [noMix]; exact noMix_strs ns ms) (by simp only [PySem.Spec.same]; rw [same_strs]; exact h)
theorem ne_strsK {a b : Addr} {vs us : List Value} {ns ms : List Str} {Q : Value → Shared → Prop} (hl : s.heap.IsList a vs.toArray) (hi : StrsAre vs ns) (hl' : s.heap.IsList b us.toArray) (hi' : StrsAre us ms)
    (ok : ∀ x ∈ ns, PyData.strOk x = true) (ok' : ∀ x ∈ ms, PyData.strOk x = true) (hu : A.units + 64 < cLine)
    (h : Q (.bool (!(ns == ms))) s) : wpAny (model prog w) A (compareOp .NotEq (.ref a) (.ref b)) Q E s :=
  ne_dataH_same (reads_of_strs hl hi) (reads_of_strs hl' hi') (shaped_strs ns ok) (shaped_strs ms ok') hu (by simp only [noMix]; exact noMix_strs ns ms) (by simp only [PySem.Spec.same]; rw [same_strs]; exact h)
end
end Mine
local macro_rules | `(tactic| k_all) => `(tactic| assumption)
local macro_rules | `(tactic| k_ne) => `(tactic| first | assumption | exact Ne.symm (by assumption) | (refine neN ?_; (try dsimp only); omega))
local macro_rules | `(tactic| walk_at "eval ListComp") => `(tactic| (k_here; (with_reducible show wpAny _ _ (eval (Expr.ListComp _ [Comprehension.mk _ _ [_] _] _ _) _) _ _ _); k_dflt (refine LCt.ListComp_T (F₀ := by k_asm) (by with_unfolding_all rfl) (by decide) (by rfl) (by decide) (by rfl) ?_); generalize hR9 : LCt.CompSrcT _ _ _ _ _ _ _ _ _ _ _ _ _ = R9))

/-! part F7 -/
namespace Mine
open PySem.Calls PySem.Spec
local macro_rules | `(tactic| walk_at "mine D") => `(tactic| ((with_reducible show Does _ 198 _ _ _ _ _); refine d_law_above _ _ _ _ _ (by omega) (by assumption) (by assumption)))
local macro_rules | `(tactic| walk_at "mine out") => `(tactic| (intro v9 nw9 h9 tk9 F9 N9 O9; obtain ⟨D9, cs9, k9, e9, e9n, hs9, l9⟩ := O9; subst e9; subst e9n))

noncomputable def topF (y : Str) : Bool := Txt.stripChars y (Str.ofString "/") != Str.ofString ""
noncomputable def inF (A : List Str) (c : Str) : Bool := A.any fun x => x == c
noncomputable def dueF (fu : Nat) (x : Str) (wt : List Str) : Int :=
  if (wt.filter (inF ((aboveN fu x).filter topF)) == []) = false ∨ ((Txt.slice x none (some 2) == Str.ofString "//") = true ∧ (wt.any fun y => y == Str.ofString "/") = true) then 1 else 0
theorem int_is {a b : Int} {t : Tok} (h : a = b) : ∃ t', Value.int a t = .int b t' := ⟨t, by rw [h]⟩
section
variable {fu : Nat} {x : Str} {wt : List Str}
theorem dueF_a (h : (wt.filter (inF ((aboveN fu x).filter topF)) == []) = false) : 1 = dueF fu x wt := by
  unfold dueF; rw [if_pos (.inl h)]
theorem dueF_b (h : (Txt.slice x none (some 2) == Str.ofString "//") = true) (h2 : (wt.any fun y => y == Str.ofString "/") = true) : 1 = dueF fu x wt := by
  unfold dueF; rw [if_pos (.inr ⟨h, h2⟩)]
theorem dueF_c (h : (wt.filter (inF ((aboveN fu x).filter topF)) == []) = true) (h2 : (wt.any fun y => y == Str.ofString "/") = false) : 0 = dueF fu x wt := by
  unfold dueF; rw [if_neg (by rw [h, h2]; simp)]
theorem dueF_d (h : (wt.filter (inF ((aboveN fu x).filter topF)) == []) = true) (h2 : (Txt.slice x none (some 2) == Str.ofString "//") = false) : 0 = dueF fu x wt := by
  unfold dueF; rw [if_neg (by rw [h, h2]; simp)]
end
theorem above_len {fu : Nat} : ∀ {x : Str}, (aboveN fu x).length ≤ fu := by
  induction fu with
  | zero => intro x; exact Nat.le_refl _
  | succ n ih => intro x; rw [aboveN]; split
                 · exact Nat.succ_le_succ ih
                 · exact Nat.zero_le _
theorem above_short {fu : Nat} : ∀ {x y : Str}, y ∈ aboveN fu x → y.length ≤ x.length := by
  induction fu with
  | zero => intro x y h; cases h
  | succ n ih =>
    intro x y h
    rw [aboveN] at h
    split at h
    · rcases List.mem_cons.mp h with rfl | h
      · exact dirF_len _
      · exact Nat.le_trans (ih h) (dirF_len _)
    · cases h
theorem d_law_due (w : World) (fu : Nat) (x : Str) (t : Tok) (W : Addr) (ws : List Value) (wt : List Str) (kw : Nat) (news : Led) (hx : x.length ≤ 100) (hN : fu ≤ 500) (hs : stopsN fu x = true) (hW : (W, listOf ws.toArray kw) ∈ news) (hws : StrsAre ws wt) (hwl : wt.length ≤ 500) (hok : ∀ y ∈ wt, PyData.strOk y = true) :
    Does w 203 [.str x t, .ref W] news 4 120 (fun v news' => (∃ t', v = .int (dueF fu x wt) t') ∧ news = news') := by
  w_top off
  unfold Does
  k_fill
  intro mean mg mb dp un gd cn cs a ccd cl outer A₀ base h₀ L m s Q E B F X N T hk hd hu hret
  refine wpAny_call ?_
  k_dflt (refine' code_defC ?k1 ?k2 ?k3 ?k4 ?k5 ?kA ?kF ?kK ?k6 ?k7 ?k8 ?k9 ?kB ?kD ?_ ?c2 ?c3 ?c4; (case kA => exact rfl); (case kF => exact rfl); (case kK => assumption); (case k1 => k_asm); (case k2 => k_asm); (case k3 => k_asm); (case k4 => k_asm); (case k5 => k_asm); (case k6 => k_is); (case k7 => k_is); (case k8 => ktr_room); (case k9 => exact BindsTo.of_eq rfl); (case kB => exact rfl); (case kD => decide +kernel); (case c2 => exact rfl); (case c3 => exact rfl); (case c4 => exact rfl); k_whole; intro g' L' h' tk' cells' FG' F' N' Y' B' X' T' l1; k_cells Y'; (try simp only [List.cons_append, List.nil_append] at N'); (try dsimp only); (try k_fold))
  (rename Fr _ _ _ _ => F0)
  replace F0 : Fr _ _ _ (fun y => if y = Str.ofString "straight" then some (.ref W) else if y = Str.ofString "path" then some (.str x t) else none) := F0
  (rename (_ = Data.cell _) => dc)
  replace dc : _ = Data.cell none := dc
  k_steps
  (rename (LCt.CompSrcT _ _ _ _ _ _ _ _ _ _ _ _ _ = _) => hR)
  subst hR
  (rename StrsAre _ (aboveN fu x) => hcs)
  have hcl9 := hcs.length
  have hal : (aboveN fu x).length ≤ 500 := Nat.le_trans above_len hN
  refine LCt.CompSrcT.ledger (by rfl) (by k_asm) (by k_asm) (by k_mem) (by rw [sizeLine_eq, List.size_toArray]; omega) ?_
  intro g9
  refine restT_inv (fun i ys nx => nx = _ ∧ StrsAre ys (((aboveN fu x).take i).filter topF)) ?_ ?_ _ 0 [] _ (Nat.zero_add _) ⟨rfl, .nil⟩
  have hx0 := hx
  · intro i ys nx hi hJ
    obtain ⟨rfl, hys⟩ := hJ
    unfold TurnT
    intro v I oI C oC D m₂ h tk E' R1 R2 hv hC hx F1 N1 off ne r1 r2
    dsimp only
    obtain ⟨c, tc, rfl, hc⟩ := StrsAre.item hcs i v (by simpa using hv)
    have hcl : c.length ≤ 100 := Nat.le_trans (above_short (List.mem_of_getElem? hc)) hx0
    clear F0 N'
    k_steps
    · refine r1 _ _ _ _ (by k_asm) (by assumption) off (.inr ⟨_, .head _, rfl, _, rfl⟩) ⟨rfl, ?_⟩
      have ht : topF c = true := by assumption
      rw [List.take_add_one, hc]
      simp only [Option.toList_some, List.filter_append, List.filter_cons, List.filter_nil, ht, if_true]
      exact StrsAre.append' hys (.cons _ _ .nil)
    · refine r2 _ _ _ (by k_asm) (by assumption) off (.inr ⟨_, .head _, rfl, _, rfl⟩) ⟨rfl, ?_⟩
      have ht : topF c = false := by assumption
      rw [List.take_add_one, hc]
      simp only [Option.toList_some, List.filter_append, List.filter_cons, List.filter_nil, ht, Bool.false_eq_true, if_false, List.append_nil]
      exact hys
  · intro ys nx hJ
    obtain ⟨rfl, hys⟩ := hJ
    rw [List.size_toArray, hcl9, List.take_length] at hys
    unfold LCg.FinE
    intro D h tk F1 N1 o1
    dsimp only
    have hne : ∀ p ∈ news, p.1 ≠ L' + 1 := fun p hp => Nat.ne_of_lt (Nat.lt_succ_of_lt (l1 p hp))
    (rename (∀ p ∈ (_, _) :: news, _) => l9)
    have hlt := ltN (l9 _ (.head _))
    simp only [LCg.Off1] at o1
    obtain ⟨o2, o3, o4⟩ := o1
    have o5 := neN (Ne.symm o3)
    dsimp only at hlt
    clear F0 N'
    k_steps
    (rename (LCt.CompSrcT _ _ _ _ _ _ _ _ _ _ _ _ _ = _) => hR)
    subst hR
    have hwl9 := hws.length
    refine LCt.CompSrcT.ledger (by rfl) (by k_asm) (by k_asm) (.tail _ (.tail _ (.tail _ hW))) (by rw [sizeLine_eq, List.size_toArray]; omega) ?_
    intro g10
    refine restT_inv (fun i ys2 nx => nx = _ ∧ StrsAre ys2 ((wt.take i).filter (inF ((aboveN fu x).filter topF)))) ?_ ?_ _ 0 [] _ (Nat.zero_add _) ⟨rfl, .nil⟩
    · intro i ys2 nx hi hJ
      obtain ⟨rfl, hys2⟩ := hJ
      unfold TurnT
      intro v I oI C oC D2 m₂ h tk E' R1 R2 hv hC hx F1 N1 off ne r1 r2
      dsimp only
      obtain ⟨c, tc, rfl, hc⟩ := StrsAre.item hws i v (by simpa using hv)
      k_steps
      · refine r1 _ _ _ _ (by k_asm) (by assumption) off (.inr ⟨_, .tail _ (.tail _ (.tail _ hW)), rfl, _, rfl⟩) ⟨rfl, ?_⟩
        have ht : inF ((aboveN fu x).filter topF) c = true := by assumption
        rw [List.take_add_one, hc]
        simp only [Option.toList_some, List.filter_append, List.filter_cons, List.filter_nil, ht, if_true]
        exact StrsAre.append' hys2 (.cons _ _ .nil)
      · refine r2 _ _ _ (by k_asm) (by assumption) off (.inr ⟨_, .tail _ (.tail _ (.tail _ hW)), rfl, _, rfl⟩) ⟨rfl, ?_⟩
        have ht : inF ((aboveN fu x).filter topF) c = false := by assumption
        rw [List.take_add_one, hc]
        simp only [Option.toList_some, List.filter_append, List.filter_cons, List.filter_nil, ht, Bool.false_eq_true, if_false, List.append_nil]
        exact hys2
    · intro ys2 nx hJ
      obtain ⟨rfl, hys2⟩ := hJ
      rw [List.size_toArray, hwl9, List.take_length] at hys2
      unfold LCg.FinE
      intro D2 h tk F2 N2 o2
      dsimp only
      k_steps
      refine ne_strsK (News.isList (by k_asm) (by k_mem)) hys2 (News.isList (by k_asm) (by k_mem)) .nil (fun y hy => hok y (List.mem_filter.mp hy).1) (fun _ h => nomatch h) (by ktr_units) ?_
      k_steps
      · refine in_list_strs (News.isList (by k_asm) (.tail _ (.tail _ (.tail _ (.tail _ (.tail _ hW)))))) hws ?_
        k_steps
        · exact hret _ _ _ _ (by k_asm) (cb_drop (by assumption) (by repeat (first | exact drop0 | refine drop1 ?_))) ⟨int_is (dueF_b (by with_reducible assumption) (by with_reducible assumption)), rfl⟩
        · exact hret _ _ _ _ (by k_asm) (cb_drop (by assumption) (by repeat (first | exact drop0 | refine drop1 ?_))) ⟨int_is (dueF_c (by with_reducible assumption) (by with_reducible assumption)), rfl⟩
      · exact hret _ _ _ _ (by k_asm) (cb_drop (by assumption) (by repeat (first | exact drop0 | refine drop1 ?_))) ⟨int_is (dueF_d (by with_reducible assumption) (by with_reducible assumption)), rfl⟩
      · exact hret _ _ _ _ (by k_asm) (cb_drop (by assumption) (by repeat (first | exact drop0 | refine drop1 ?_))) ⟨int_is (dueF_a (by with_reducible assumption)), rfl⟩
end Mine

/-! part LR2 -/
namespace Mine
open PySem.Calls PySem.Spec
section
variable {prog : Program} {w : World} {A : Around} {E : Value → Shared → Prop} {s : Shared} {h₀ : Heap} {L D : Addr} {m : Str → Option Value} {news news' : Led} {n : Nat} {cs : List Value}
theorem truthy_ne {Q : Bool → Shared → Prop} (N : News h₀ L s.heap news) (hm : (D, listOf cs.toArray n) ∈ news) (hne : cs.isEmpty = false) (hfit : cs.length ≤ 1000)
    (h : Q true { s with toks := s.toks + 1 + 1 }) : wpAny (model prog w) A (truthy (.ref D)) Q E s :=
  truthy_led N hm hfit (by rw [hne]; exact h)
end
end Mine

/-! part SetIt -/
namespace Mine
open PySem.Calls PySem.Spec

noncomputable abbrev setNil (led : Bool) : Obj := { cls := .type "set", data := .set #[] 0 (SetTable.fresh 0 0 led) }
noncomputable abbrev setIt (a : Addr) : Obj := { cls := .type "set_iterator", data := .fields #[rawInt 0, rawInt 0, .ref a, rawInt 0, rawInt 0] }
theorem entry_set_iter : entryFor table "set.__iter__" = some Builtin.«frozenset.__iter__» :=
  entryFor_alias (id' := "frozenset.__iter__") (by rw [fastTable_eq_tree]; kernel_rfl) rfl (by rw [PySem.W.Fast.canonicalQ_eq]; decide +kernel) (by rw [fastTable_eq_tree]; kernel_rfl)
theorem slot_setit_next : Slot "set_iterator" "__next__" "set_iterator.__next__" :=
  .of (owner := "set_iterator") (n := "__next__") (by rw [typeLookup_type, builtinLookup_eq_fast]; kernel_rfl) (by decide +kernel) (by decide +kernel) (by decide +kernel)
    (by first | exact .inl (by decide +kernel) | exact .inr (by decide +kernel)) (by rw [isSubtype_type]; kernel_rfl)
theorem entry_setit_next : entryFor table "set_iterator.__next__" = some Builtin.«set_iterator.__next__» := entryFor_of_tree (by kernel_rfl)
theorem args_setit_next (a : Value) : argsOk "set_iterator.__next__" ⟨[a], []⟩ := by unfold argsOk; kernel_rfl

section
variable {prog : Program} {w : World} {A : Around} {E : Value → Shared → Prop} {s : Shared}
theorem state_nil {a : Addr} {led : Bool} {Q : (Array (Int × Value) × Nat × SetTable) → Shared → Prop} (ho : s.heap.get? a = some (setNil led)) (h : Q (#[], 0, SetTable.fresh 0 0 led) s) :
    wpAny (model prog w) A (setState a) Q E s := wpAny_setState_of ho rfl rfl h
theorem byText_any {Q : Bool → Shared → Prop} (h : ∀ b, Q b s) : wpAny (model prog w) A setsByText Q E s := by
  unfold setsByText
  exact wpAny_bind (wpAny_askSetting (wpAny_pure (h _)))
theorem drawn_nil {a : Addr} {led : Bool} {Q : Bool → Shared → Prop} (ho : s.heap.get? a = some (setNil led)) (h : Q false s) :
    wpAny (model prog w) A (setDrawn a) Q E s := by
  unfold setDrawn
  refine wpAny_bind (state_nil ho ?_)
  refine wpAny_bind (byText_any fun b => wpAny_pure ?_)
  cases b <;> exact h
theorem iter_nil {a : Addr} {led : Bool} {Q : Value → Shared → Prop} (ho : s.heap.get? a = some (setNil led)) (hQ : Q (.ref s.heap.objs.size) { s with heap := s.heap.push (setIt a) }) :
    wpAny (model prog w) A (pyIter (.ref a)) Q E s := by
  have hT : s.TypeIs (.ref a) "set" := ⟨_, ho, rfl⟩
  refine wpAny_pyIter_slot hT F.slot_set_iter (wpAny_call_entry F.slot_set_iter hT entry_set_iter ?_ (F.args_set_iter_1 _))
  unfold Builtin.«frozenset.__iter__» Builtin.Frozenset.slot0 slotArgs
  simp only [List.isEmpty_nil, Bool.not_true, Bool.false_eq_true, ↓reduceIte, bind_assoc, List.length_nil, bne_self_eq_false]
  unfold Builtin.Frozenset.addrOf Builtin.Frozenset.sizeOf
  refine wpAny_bind (wpAny_pure ?_)
  try dsimp only
  refine wpAny_bind (wpAny_pure ?_)
  refine wpAny_bind (wpAny_bind (wpAny_setEntries_of ho rfl rfl (wpAny_pure ?_)))
  refine wpAny_bind (drawn_nil ho ?_)
  refine wpAny_bind (wpAny_pure ?_)
  refine wpAny_bind ?_
  unfold setEpoch
  refine wpAny_bind (state_nil ho (wpAny_pure ?_))
  exact wpAny_bind (wpAny_newObj_type (wpAny_pure ⟨_, rfl, "set_iterator", _, ⟨_, Heap.get?_push_size _ rfl, rfl⟩, slot_setit_next.lookup, hQ⟩))
theorem walk_nil {a : Addr} {led : Bool} {Q : Array (Int × Value) → Shared → Prop} (ho : s.heap.get? a = some (setNil led)) (h : Q #[] s) :
    wpAny (model prog w) A (setWalk a) Q E s := by
  unfold setWalk
  refine wpAny_bind (state_nil ho ?_)
  refine wpAny_bind (byText_any fun b => ?_)
  cases b with
  | true =>
    simp only [if_true]
    refine wpAny_bind (wpAny_askSetting ?_)
    exact wpAny_pure h
  | false =>
    simp only [Bool.false_eq_true, if_false]
    split
    · rename_i hc
      exact absurd hc Bool.false_ne_true
    · cases led <;> exact wpAny_bind (wpAny_pure (wpAny_pure h))
theorem setNext_nil {a : Addr} {led : Bool} {Q : Option (Value × Nat) → Shared → Prop} (ho : s.heap.get? a = some (setNil led)) (h : Q none s) :
    wpAny (model prog w) A (setNext a 0 0 0) Q E s := by
  unfold setNext
  refine wpAny_bind (state_nil ho ?_)
  refine wpAny_bind (byText_any fun b => ?_)
  cases b with
  | true =>
    simp only [if_true]
    rw [if_neg (by decide)]
    exact wpAny_bind (walk_nil ho (wpAny_pure h))
  | false =>
    simp only [Bool.false_eq_true, if_false]
    split
    · rename_i hc
      exact absurd hc Bool.false_ne_true
    · cases led <;> exact wpAny_bind (wpAny_pure (wpAny_pure h))
theorem next_nil {a it : Addr} {led : Bool} {Q : Option Value → Shared → Prop} (hh : A.handled = none) (hit : s.heap.get? it = some (setIt a)) (ho : s.heap.get? a = some (setNil led))
    (hQ : ∀ h', Heap.ExtBut it s.heap h' → Q none { s with heap := h' }) : wpAny (model prog w) A (pyNext (.ref it)) Q E s := by
  have hT : s.TypeIs (.ref it) "set_iterator" := ⟨_, hit, rfl⟩
  unfold pyNext
  refine wpAny_bind (wpAny_attempt (wpAny_callSpecial?_slot (name := Str.ofString "__next__") hT slot_setit_next
    (wpAny_call_entry slot_setit_next hT entry_setit_next ?_ (args_setit_next _))))
  unfold Builtin.«set_iterator.__next__» slotArgs
  simp only [List.isEmpty_nil, Bool.not_true, Bool.false_eq_true, ↓reduceIte, List.length_nil, bne_self_eq_false]
  refine wpAny_bind (wpAny_pure ?_)
  unfold fieldsOf
  refine wpAny_bind (wpAny_bind (wpAny_load hit (wpAny_pure ?_)))
  show wpAny _ _ (setEntries a >>= _) _ _ _
  refine wpAny_bind (wpAny_setEntries_of ho rfl rfl ?_)
  rw [if_neg (by decide)]
  show wpAny _ _ (setNext a 0 0 0 >>= _) _ _ _
  refine wpAny_bind (setNext_nil ho ?_)
  show wpAny _ _ (setField (.ref it) 2 Value.none >>= _) _ _ _
  refine wpAny_bind (wpAny_setField hit rfl (by simp) ?_)
  show wpAny _ _ (newExc (.type "StopIteration") [] >>= _) _ _ _
  refine wpAny_bind ?_
  simp only [newExc, newTuple]
  refine wpAny_bind (wpAny_newObj_type ?_ (by size_fits))
  refine wpAny_bind (m := firstArgMember _ _) (wpAny_of_eq (a := Value.none) (by first | rfl | (simp only [firstArgMember]; rfl)) ?_)
  refine wpAny_newObj_type ?_ (by size_fits)
  simp only [raiseNew]
  refine wpAny_bind (wpAny_handled ?_)
  rw [show A.in1.handled = none from hh]
  refine wpAny_bind (wpAny_pure (wpAny_throw ?_))
  refine wpAny_bind (wpAny_isInstance (T := "StopIteration") (b := true) ⟨_, Heap.get?_push_size _ rfl, rfl⟩ isSubtype_stop ?_)
  exact wpAny_pure (hQ _ (((Heap.SameBut.update ..).extBut.push _).push _))
theorem slot_setit_iter : Slot "set_iterator" "__iter__" "set_iterator.__iter__" :=
  .of (owner := "set_iterator") (n := "__iter__") (by rw [typeLookup_type, builtinLookup_eq_fast]; kernel_rfl) (by decide +kernel) (by decide +kernel) (by decide +kernel)
    (by first | exact .inl (by decide +kernel) | exact .inr (by decide +kernel)) (by rw [isSubtype_type]; kernel_rfl)
theorem entry_setit_iter : entryFor table "set_iterator.__iter__" = some Builtin.«dict_keyiterator.__iter__» :=
  entryFor_alias (id' := "dict_keyiterator.__iter__") (by rw [fastTable_eq_tree]; kernel_rfl) rfl (by rw [PySem.W.Fast.canonicalQ_eq]; decide +kernel) (by rw [fastTable_eq_tree]; kernel_rfl)
theorem args_setit_iter (a : Value) : argsOk "set_iterator.__iter__" ⟨[a], []⟩ := by unfold argsOk; kernel_rfl
theorem self_nil {it a : Addr} {Q : Value → Shared → Prop} (hit : s.heap.get? it = some (setIt a)) (h : Q (.ref it) s) : wpAny (model prog w) A (pyIter (.ref it)) Q E s := by
  have hT : s.TypeIs (.ref it) "set_iterator" := ⟨_, hit, rfl⟩
  refine wpAny_pyIter_slot hT slot_setit_iter (wpAny_call_entry slot_setit_iter hT entry_setit_iter ?_ (args_setit_iter _))
  show wpAny _ _ (ret (.ref it)) _ _ s
  exact wpAny_pure ⟨_, rfl, "set_iterator", _, hT, slot_setit_next.lookup, h⟩
theorem walks_nil (hh : A.handled = none) (I a : Addr) (led : Bool) :
    Walks prog w A I [I, a] [I] 0 (fun _ _ => False) (fun _ h => h.get? I = some (setIt a) ∧ h.get? a = some (setNil led)) where
  sub := fun b hb => by simp at hb; simp [hb]
  frame := fun _ _ _ st hk => ⟨hk I (by simp) _ st.1, hk a (by simp) _ st.2⟩
  item := fun i s Q E hi _ _ => absurd hi (Nat.not_lt_zero _)
  done := fun s Q E st hQ => next_nil hh st.1 st.2 fun h' he' => hQ h' s.toks fun b o hb e => he' b o (fun h => hb (by simp [h])) e
  self := fun _ _ _ _ st hQ => self_nil st.1 hQ
theorem loop_nil {env : Env} {h₀ : Heap} {x : Str} {body : List Stmt} {Q : Flow → Shared → Prop} {a : Addr} {led : Bool} {m : Str → Option Value} {news : Led} (hh : A.handled = none) (hm : (a, setNil led) ∈ news) (F : Fr h₀ env.locals s.heap m) (N : News h₀ env.locals s.heap news)
    (done : ∀ h tk, Fr h₀ env.locals h m → News h₀ env.locals h news → Q .next { s with heap := h, toks := tk }) :
    wpAny (model prog w) A (pyIter (.ref a)) (fun it s₂ => LoopAtV prog w A h₀ env x body Q E it s₂) E s := by
  have hol : s.heap.get? a = some (setNil led) := (N _ hm).1
  refine iter_nil hol ?_
  have W := walks_nil (prog := prog) (w := w) hh s.heap.objs.size a led
  refine ⟨_, _, _, 0, _, _, m, news, (fun _ m' nx => m' = m ∧ nx = news), rfl, W, ?_, ?_, ?_, ⟨Heap.get?_push_size _ rfl, Heap.get?_push_of_some _ hol⟩, F.push _, (fun p hp => ⟨Heap.get?_push_of_some _ (N p hp).1, (N p hp).2⟩), ⟨rfl, rfl⟩, ?_, ?_⟩
  · intro hm'
    rcases List.mem_cons.mp hm' with e | hm'
    · exact absurd F.ns.lt (e ▸ Nat.lt_irrefl _)
    · exact (N _ hm).2.1 ((List.mem_singleton.mp hm').symm)
  · intro b hb
    rw [List.mem_singleton.mp hb]
    exact next_is_new F
  · intro p hp hI
    exact absurd (Heap.lt_size (N p hp).1) ((List.mem_singleton.mp hI) ▸ Nat.lt_irrefl _)
  · intro i v m₁ news₁ s₁ own _ hi
    exact absurd hi (Nat.not_lt_zero _)
  · rintro h' tk m' news' F' N' _ ⟨rfl, rfl⟩
    exact done h' tk F' N'
theorem in_nil {h₀ : Heap} {L a : Addr} {led : Bool} {news : Led} {k : Str} {t : Tok} {Q : Value → Shared → Prop} (N : News h₀ L s.heap news) (hm : (a, setNil led) ∈ news) (h : Q (.bool false) { s with toks := s.toks + 1 }) :
    wpAny (model prog w) A (compareOp .In (.str k t) (.ref a)) Q E s := by
  obtain ⟨pre, post, rfl⟩ := List.append_of_mem hm
  exact in_sl1 (knd := PySem.strKind prog w) N (setObjOf_fresh (knd := PySem.strKind prog w) led) (by unfold scanBound; omega) (strKind_is _ _ _ _) rfl h
end
end Mine

/-! part F8 -/
namespace Mine
open PySem.Calls PySem.Spec
local macro_rules | `(tactic| walk_at "compareOp In str ref") => `(tactic| (k_here; k_dflt (refine kdp_in (by k_tabat) ?_); (rename (kdpHas _ _ = false) => hh9); rw [hh9]))
local macro_rules | `(tactic| walk_at "setItem ref str") => `(tactic| (k_here; k_dflt (refine kdp_setItem (by k_asm) (by k_asm) (by k_updF) (by k_asm) (by k_asm) (by omega) ?_); intro h' o' kvs' F' N' hd' hf'; (try dsimp only at N')))
local macro_rules | `(tactic| k_updF) => `(tactic| assumption)
local macro_rules | `(tactic| walk_at "compareOp In str ref") => `(tactic| (k_here; k_dflt (refine in_nil (by k_asm) (by with_reducible assumption) ?_)))

noncomputable abbrev ignD (w : World) (ms ld di : Addr) (t1 t2 t3 : Tok) : Obj := dictOf [⟨PyData.keyHash w.params (Str.ofString "_mods"), .str (Str.ofString "_mods") t1, .ref ms⟩, ⟨PyData.keyHash w.params (Str.ofString "_dirs"), .str (Str.ofString "_dirs") t2, .ref ld⟩, ⟨PyData.keyHash w.params (Str.ofString "_ignore"), .str (Str.ofString "_ignore") t3, .ref di⟩] 3
noncomputable def hitF (f d : Str) : Bool := Txt.startswith f (d ++ Str.ofString "/")
noncomputable def namesF (dt : List Str) (f : Str) : Int := if (dt.any (hitF f)) = true then 1 else 0
theorem namesF_one {dt : List Str} {f d : Str} (hm : d ∈ dt) (h : hitF f d = true) : namesF dt f = 1 := by
  unfold namesF; rw [if_pos (List.any_eq_true.mpr ⟨d, hm, h⟩)]
noncomputable def JD (dt : List Str) (f : Str) (m₀ : Str → Option Value) (news : Led) (i : Nat) (m : Str → Option Value) (nx : Led) : Prop :=
  nx = news ∧ (∀ z, z ≠ Str.ofString "d" → m z = m₀ z) ∧ (dt.take i).any (hitF f) = false
theorem updF_app {d : Addr} {ob : Obj} {news own : Led} {g : Obj → Led} (U : UpdF d ob news g) (ho : ∀ p ∈ own, p.1 ≠ d) : UpdF d ob (news ++ own) (fun o' => g o' ++ own) := by
  induction U with
  | head h => exact UpdF.head fun p hp => (List.mem_append.mp hp).elim (h p) (ho p)
  | tail h _ ih => exact UpdF.tail h ih
theorem d_names (w : World) (x dx ms ld di : Addr) (led : Bool) (ds : List Value) (dt : List Str) (kd : Nat) (t1 t2 t3 : Tok) (ob : Obj) (kvs : List (Str × Value)) (c : List (Str × Int)) (f mn : Str) (tf tm : Tok) (news : Led) (gg : Obj → Led)
    (hx : (x, instObj 152 dx) ∈ news) (hdx : (dx, ignD w ms ld di t1 t2 t3) ∈ news) (hms : (ms, setNil led) ∈ news) (hld : (ld, listOf ds.toArray kd) ∈ news) (hds : StrsAre ds dt)
    (hdi : (di, ob) ∈ news) (U : UpdF di ob news gg) (hdo : ob.IsDictOf (PySem.strKind PySem.Challenge.rw_mr0168_01.row.prog w) kvs) (hfl : PyProof.V.FlatPairs PyData.str kvs (kdpD c)) (hlo : (di == sysModules) = false)
    (hnew : kdpHas c mn = false) (hfn : f.length ≤ 100) (hdl : ∀ d ∈ dt, d.length ≤ 100) (hdn : dt.length ≤ 100) (hcn : c.length ≤ 100) :
    Does w 149 [.ref x, .str f tf, .str mn tm] news 2 100 (fun v news' => ∃ t o' kvs', v = .int (namesF dt f) t ∧ gg o' = news' ∧ o'.IsDictOf (PySem.strKind PySem.Challenge.rw_mr0168_01.row.prog w) kvs' ∧ PyProof.V.FlatPairs PyData.str kvs' (kdpD (kdpPut c mn (namesF dt f)))) := by
  w_top off
  unfold Does
  k_fill
  intro mean mg mb dp un gd cn cs a ccd cl outer A₀ base h₀ L m s Q E B F X N T hk hd hu hret
  refine wpAny_call ?_
  k_dflt cell_enter
  (rename Fr _ _ _ _ => F0)
  replace F0 : Fr _ _ _ (fun y => List.lookup y [(Str.ofString "modulename", .str mn tm), (Str.ofString "filename", .str f tf), (Str.ofString "self", .ref x)]) := F0
  iterate 25 (first | (k_unfold; (try dsimp only)) | walk1 | (dsimp only; walk1))
  with_unfolding_all refine For_invVF (by k_asm) (by exact rfl) (by exact rfl) ?_
  iterate 3 (first | walk1 | (dsimp only; walk1))
  refine loop_nil rfl hms (by k_asm) (by k_asm) ?_
  intro h2 tk2 F2 N2
  dsimp only
  iterate 10 (first | (k_unfold; (try dsimp only)) | walk1 | (dsimp only; walk1))
  with_unfolding_all refine For_invVF (by k_asm) (by exact rfl) (by exact rfl) ?_
  iterate 3 (first | walk1 | (dsimp only; walk1))
  refine kdl_iter (JD dt f _ news) rfl hld F2 N2 ⟨rfl, fun _ _ => rfl, rfl⟩ ?_ ?_
  · intro i v m₁ nx h tk own hv hoff hmem hJ F3 N3
    obtain ⟨rfl, hm, hno⟩ := hJ
    have F4 := fr_same hm F3
    clear F3
    obtain ⟨d, td, rfl, hd9⟩ := StrsAre.item hds i v hv
    have hdl9 : d.length ≤ 100 := hdl d (List.mem_of_getElem? hd9)
    have U2 := updF_app U (fun p hp => hoff p hp di (List.mem_map.mpr ⟨_, hdi, rfl⟩))
    dsimp only
    k_steps
    · have hit : hitF f d = true := by assumption
      have e1 : namesF dt f = 1 := namesF_one (List.mem_of_getElem? hd9) hit
      simp only [e1] at hret
      exact hret _ _ _ _ (by k_asm) (cb_drop (by assumption) (fun p hp => List.mem_append.mpr (.inl hp))) ⟨_, _, _, rfl, rfl, by assumption, by assumption⟩
    · have hit : hitF f d = false := by assumption
      refine InvEndG.intro (nx := nx) (by k_asm) (by assumption) ⟨hld, rfl, fun z hz => if_neg hz, ?_⟩ hoff (fun p hp => List.mem_append.mpr (.inl hp)) (fun p hp => List.mem_append.mpr (.inr hp))
      rw [List.take_add_one, hd9]
      simp only [Option.toList_some, List.any_append, List.any_cons, List.any_nil, hno, hit, Bool.or_false]
  · intro m₁ nx h tk hJ F3 N3
    obtain ⟨rfl, hm, hno⟩ := hJ
    have F4 := fr_out hm F3
    clear F3
    rw [hds.length, List.take_length] at hno
    dsimp only
    k_steps
    have e0 : namesF dt f = 0 := by unfold namesF; rw [hno]; rfl
    simp only [e0] at hret
    exact hret _ _ _ _ (by k_asm) (by assumption) ⟨_, _, _, rfl, rfl, by assumption, by assumption⟩
end Mine

/-! part LR3 -/
namespace Mine
open PySem.Calls PySem.Spec
section
variable {prog : Program} {w : World} {A : Around} {E : Value → Shared → Prop} {s : Shared} {h₀ : Heap} {L D : Addr} {m : Str → Option Value} {news news' : Led} {n : Nat} {cs : List Value}
theorem len_led {Q : Value → Shared → Prop} (N : News h₀ L s.heap news) (hm : (D, listOf cs.toArray n) ∈ news) (hfit : cs.length ≤ 1000)
    (h : Q (.int (cs.length : Nat) (s.toks + 1)) { s with toks := s.toks + 1 + 1 }) : wpAny (model prog w) A (call (.builtin "len") [.ref D]) Q E s :=
  len_list (News.isList N hm) (by rw [List.size_toArray]; omega) (by rw [List.size_toArray]; exact h)
theorem item_led {value slice : PySem.Expr} {k : Int} {u : Tok} {x : Value} {Q : Value → Shared → Prop} (N : News h₀ L s.heap news) (hm : (D, listOf cs.toArray n) ∈ news) (h0 : 0 ≤ k) (hfit : k < 1000) (hx : cs[k.toNat]? = some x) (h : Q x s)
    (hs : subscripted slice false (.ref D) (.int k u) = operate [.ref D, .int k u] (getItem (.ref D) (.int k u)) := by with_unfolding_all rfl) :
    wpAny (model prog w) A (subscriptTail value slice (.ref D) (.int k u)) Q E s :=
  tail_any (News.isList N hm).typeIs slot_list_getitem.lookup (wpAny_getItem_list (News.isList N hm) h0 (by omega) (by simpa using hx) h) hs
end
theorem small_range : ∀ n : Nat, n ≤ 20 → Builtin.Range.small 0 (n : Int) 1 = true ∧ Builtin.Range.rangeSize 0 (n : Int) 1 = (n : Int) := by decide +kernel
end Mine

/-! part Pl -/
namespace Mine
open PySem.Calls PySem.Spec

/-! the plain law: no program in sight -/
noncomputable abbrev S (l : List Nat) : Str := ⟨l.toArray⟩
theorem S_toList (x : Str) : S x.cps.toList = x := by cases x; simp [S]
theorem S_inj {l k : List Nat} (h : S l = S k) : l = k := by have := congrArg (fun x => x.cps.toList) h; simpa [S] using this
theorem sl : Str.ofString "/" = S [47] := by decide +kernel
/-- the pieces of a text, parted at one sign -/
noncomputable def cutL (c : Nat) : List Nat → List (List Nat)
  | [] => [[]]
  | x :: r => if (x == c) = true then [] :: cutL c r else match cutL c r with | h :: t => (x :: h) :: t | [] => [[x]]
theorem cutL_ne (c : Nat) : ∀ l, cutL c l ≠ []
  | [] => by simp [cutL]
  | x :: r => by unfold cutL; split; simp; split <;> simp
theorem cutL_one {c : Nat} : ∀ {l : List Nat}, c ∉ l → cutL c l = [l]
  | [], _ => rfl
  | x :: r, h => by
    have h1 : x ≠ c := fun e => h (e ▸ .head _)
    rw [cutL, if_neg (by simpa using h1), cutL_one (fun e => h (.tail _ e))]
theorem cutL_app {c : Nat} (k : List Nat) : ∀ {l : List Nat}, c ∉ l → cutL c (l ++ c :: k) = l :: cutL c k
  | [], _ => by rw [List.nil_append, cutL, if_pos (by simp)]
  | x :: r, h => by
    have h1 : x ≠ c := fun e => h (e ▸ .head _)
    rw [List.cons_append, cutL, if_neg (by simpa using h1), cutL_app k (fun e => h (.tail _ e))]
theorem cutL_join (c : Nat) : ∀ (p : Str) (ps : List Str), (∀ q ∈ p :: ps, c ∉ q.cps.toList) → cutL c (Str.join (S [c]) (p :: ps)).cps.toList = (p :: ps).map fun q => q.cps.toList
  | p, [], h => cutL_one (h p (.head _))
  | p, q :: r, h => by
    have ih := cutL_join c q r (fun z hz => h z (.tail _ hz))
    have e : (Str.join (S [c]) (p :: q :: r)).cps.toList = p.cps.toList ++ c :: (Str.join (S [c]) (q :: r)).cps.toList := by
      show (p ++ S [c] ++ Str.join (S [c]) (q :: r)).cps.toList = _
      simp [Str.cps_append]
    rw [e, cutL_app _ (h p (.head _)), ih]; rfl
theorem split_ne (x : Str) (c : Nat) : Txt.split x (S [c]) ≠ [] := by
  unfold Txt.split
  split
  · simp
  · split
    · simp
    · rw [StrLaws.partsBetween_eq]
      obtain ⟨p, r, e⟩ := StrLaws.partsFrom_ne x (S [c]).length 0 (Builtin.Str.occurrences x (S [c]) 0 x.length (x.length + 1))
      rw [e]; simp
theorem split_cut (x : Str) (c : Nat) : Txt.split x (S [c]) = (cutL c x.cps.toList).map S := by
  cases hs : Txt.split x (S [c]) with
  | nil => exact absurd hs (split_ne x c)
  | cons p ps =>
    have hj := StrLaws.join_split x (S [c])
    have hf := StrLaws.split_free x c
    rw [show (⟨#[c]⟩ : Str) = S [c] from rfl] at hf
    rw [hs] at hj hf
    have h := cutL_join c p ps hf
    rw [hj] at h
    rw [h, List.map_map]
    have : ∀ l : List Str, l = l.map (S ∘ fun q => q.cps.toList) := fun l => by
      induction l with
      | nil => rfl
      | cons a l ih => rw [List.map_cons, ← ih]; exact congrArg (· :: l) (S_toList a).symm
    exact this _
noncomputable def compsG (x : Str) : List Str := ((cutL 47 (restF x).cps.toList).map S).foldl (stepN (initF x)) []
noncomputable def normG (x : Str) : Str :=
  if x.length = 0 then Str.ofString "." else
  let r := initF x ++ Txt.join (Str.ofString "/") (compsG x)
  if r.length = 0 then Str.ofString "." else r
theorem normF_G (x : Str) : normF x = normG x := by
  have : compsF x = compsG x := by unfold compsF compsG; rw [sl, split_cut]
  unfold normF normG; rw [this]

noncomputable def evenB (n : Int) : Bool := n.fmod 2 == 0
noncomputable def oddB (n : Int) : Bool := n.fmod 2 == 1
noncomputable def outT (ns : List Int) : List Str := [Str.ofString "/", Str.ofString "//b/..", Str.ofString "a/./a//", Str.ofString ""] ++ ((ns.take 6).filter evenB).map lawPath
noncomputable def fileF (n : Int) : Str := normF (lawPath n)
noncomputable def filesT (ns : List Int) : List Str := [Str.ofString "/a/b", Str.ofString "//a", Str.ofString "a/ab", Str.ofString "a/a/b", Str.ofString "a/a", Str.ofString "../a"] ++ ((ns.take 6).filter oddB).map fileF
noncomputable def strI (i : Int) : Str := Str.ofString (toString i)

noncomputable def tab : List (List Nat) := [[46], [47], [97], [98], [46, 46], [47, 47], [47, 97], [47, 98], [97, 98], [47, 47, 97], [47, 47, 98], [47, 97, 98], [97, 47, 97], [97, 47, 98], [98, 47, 97], [98, 47, 98], [46, 46, 47, 97], [46, 46, 47, 98], [47, 47, 97, 98], [47, 97, 47, 97], [47, 97, 47, 98], [47, 98, 47, 97], [47, 98, 47, 98], [97, 47, 97, 98], [97, 98, 47, 97], [97, 98, 47, 98], [98, 47, 97, 98], [46, 46, 47, 46, 46], [46, 46, 47, 97, 98], [47, 47, 97, 47, 97], [47, 47, 97, 47, 98], [47, 47, 98, 47, 97], [47, 47, 98, 47, 98], [47, 97, 47, 97, 98], [47, 97, 98, 47, 97], [47, 97, 98, 47, 98], [47, 98, 47, 97, 98], [97, 47, 97, 47, 97], [97, 47, 97, 47, 98], [97, 47, 98, 47, 97], [97, 47, 98, 47, 98], [97, 98, 47, 97, 98], [98, 47, 97, 47, 97], [98, 47, 97, 47, 98], [98, 47, 98, 47, 97], [98, 47, 98, 47, 98], [46, 46, 47, 97, 47, 97], [46, 46, 47, 97, 47, 98], [46, 46, 47, 98, 47, 97], [46, 46, 47, 98, 47, 98], [47, 47, 97, 47, 97, 98], [47, 47, 97, 98, 47, 97], [47, 47, 97, 98, 47, 98], [47, 47, 98, 47, 97, 98], [47, 97, 47, 97, 47, 97], [47, 97, 47, 97, 47, 98], [47, 97, 47, 98, 47, 97], [47, 97, 47, 98, 47, 98], [47, 97, 98, 47, 97, 98], [47, 98, 47, 97, 47, 97], [47, 98, 47, 97, 47, 98], [47, 98, 47, 98, 47, 97], [47, 98, 47, 98, 47, 98], [97, 47, 97, 47, 97, 98], [97, 47, 97, 98, 47, 97], [97, 47, 97, 98, 47, 98], [97, 47, 98, 47, 97, 98], [97, 98, 47, 97, 47, 97], [97, 98, 47, 97, 47, 98], [97, 98, 47, 98, 47, 97], [97, 98, 47, 98, 47, 98], [98, 47, 97, 47, 97, 98], [98, 47, 97, 98, 47, 97], [98, 47, 97, 98, 47, 98], [98, 47, 98, 47, 97, 98], [46, 46, 47, 46, 46, 47, 97], [46, 46, 47, 46, 46, 47, 98], [46, 46, 47, 97, 47, 97, 98], [46, 46, 47, 97, 98, 47, 97], [46, 46, 47, 97, 98, 47, 98], [46, 46, 47, 98, 47, 97, 98], [47, 47, 97, 47, 97, 47, 97], [47, 47, 97, 47, 97, 47, 98], [47, 47, 97, 47, 98, 47, 97], [47, 47, 97, 47, 98, 47, 98], [47, 47, 97, 98, 47, 97, 98], [47, 47, 98, 47, 97, 47, 97], [47, 47, 98, 47, 97, 47, 98], [47, 47, 98, 47, 98, 47, 97], [47, 47, 98, 47, 98, 47, 98], [47, 97, 47, 97, 47, 97, 98], [47, 97, 47, 97, 98, 47, 97], [47, 97, 47, 97, 98, 47, 98], [47, 97, 47, 98, 47, 97, 98], [47, 97, 98, 47, 97, 47, 97], [47, 97, 98, 47, 97, 47, 98], [47, 97, 98, 47, 98, 47, 97], [47, 97, 98, 47, 98, 47, 98], [47, 98, 47, 97, 47, 97, 98], [47, 98, 47, 97, 98, 47, 97], [47, 98, 47, 97, 98, 47, 98], [47, 98, 47, 98, 47, 97, 98], [97, 47, 97, 98, 47, 97, 98], [97, 98, 47, 97, 47, 97, 98], [97, 98, 47, 97, 98, 47, 97], [97, 98, 47, 97, 98, 47, 98], [97, 98, 47, 98, 47, 97, 98], [98, 47, 97, 98, 47, 97, 98], [46, 46, 47, 46, 46, 47, 46, 46], [46, 46, 47, 46, 46, 47, 97, 98], [46, 46, 47, 97, 98, 47, 97, 98], [47, 47, 97, 47, 97, 47, 97, 98], [47, 47, 97, 47, 97, 98, 47, 97], [47, 47, 97, 47, 97, 98, 47, 98], [47, 47, 97, 47, 98, 47, 97, 98], [47, 47, 97, 98, 47, 97, 47, 97], [47, 47, 97, 98, 47, 97, 47, 98], [47, 47, 97, 98, 47, 98, 47, 97], [47, 47, 97, 98, 47, 98, 47, 98], [47, 47, 98, 47, 97, 47, 97, 98], [47, 47, 98, 47, 97, 98, 47, 97], [47, 47, 98, 47, 97, 98, 47, 98], [47, 47, 98, 47, 98, 47, 97, 98], [47, 97, 47, 97, 98, 47, 97, 98], [47, 97, 98, 47, 97, 47, 97, 98], [47, 97, 98, 47, 97, 98, 47, 97], [47, 97, 98, 47, 97, 98, 47, 98], [47, 97, 98, 47, 98, 47, 97, 98], [47, 98, 47, 97, 98, 47, 97, 98], [97, 98, 47, 97, 98, 47, 97, 98], [47, 47, 97, 47, 97, 98, 47, 97, 98], [47, 47, 97, 98, 47, 97, 47, 97, 98], [47, 47, 97, 98, 47, 97, 98, 47, 97], [47, 47, 97, 98, 47, 97, 98, 47, 98], [47, 47, 97, 98, 47, 98, 47, 97, 98], [47, 47, 98, 47, 97, 98, 47, 97, 98], [47, 97, 98, 47, 97, 98, 47, 97, 98], [47, 47, 97, 98, 47, 97, 98, 47, 97, 98]]
noncomputable def hasL (T : List (List Nat)) (l : List Nat) : Bool := T.any fun k => k == l
theorem hasL_mem {T : List (List Nat)} {l : List Nat} (h : hasL T l = true) : l ∈ T := by
  obtain ⟨k, hk, e⟩ := List.any_eq_true.mp h
  exact eq_of_beq e ▸ hk
noncomputable def piece : Nat → Str
  | 0 => S [97] | 1 => S [98] | 2 => S [46, 46] | 3 => S [46] | 4 => S [] | 5 => S [97, 98] | _ => S []
noncomputable def lead : Nat → Str
  | 0 => S [] | 1 => S [47] | 2 => S [47, 47] | _ => S []
noncomputable def lp (i a b c : Nat) : Str := lead i ++ Txt.join (S [47]) [piece a, piece b, piece c]
theorem piece_is : ∀ i : Nat, i < 6 → [Str.ofString "a", Str.ofString "b", Str.ofString "..", Str.ofString ".", Str.ofString "", Str.ofString "ab"].getD i Str.empty = piece i := by decide +kernel
theorem lead_is : ∀ i : Nat, i < 3 → [Str.ofString "", Str.ofString "/", Str.ofString "//"].getD i Str.empty = lead i := by decide +kernel
theorem fmod_lt (n k : Int) (m : Nat) (hm : (m : Int) = k) (h : 0 < m) : (n.fmod k).toNat < m := by
  subst hm
  have h1 := Int.fmod_lt_of_pos n (b := (m : Int)) (by omega)
  have h2 := Int.fmod_nonneg_of_pos n (b := (m : Int)) (by omega)
  omega
theorem lawPath_lp (n : Int) : ∃ i a b c, i < 3 ∧ a < 6 ∧ b < 6 ∧ c < 6 ∧ lawPath n = lp i a b c := by
  have h0 := fmod_lt (n.fdiv 2) 3 3 rfl (by decide)
  have h1 := fmod_lt (n.fdiv 6) 6 6 rfl (by decide)
  have h2 := fmod_lt (n.fdiv 36) 6 6 rfl (by decide)
  have h3 := fmod_lt (n.fdiv 216) 6 6 rfl (by decide)
  refine ⟨_, _, _, _, h0, h1, h2, h3, ?_⟩
  unfold lawPath lp
  rw [piece_is _ h1, piece_is _ h2, piece_is _ h3, lead_is _ h0, sl]
noncomputable def okN (i a : Nat) : Bool := (List.range 6).all fun b => (List.range 6).all fun c => hasL tab (normG (lp i a b c)).cps.toList
theorem ok_0_0 : okN 0 0 = true := by decide +kernel
theorem ok_0_1 : okN 0 1 = true := by decide +kernel
theorem ok_0_2 : okN 0 2 = true := by decide +kernel
theorem ok_0_3 : okN 0 3 = true := by decide +kernel
theorem ok_0_4 : okN 0 4 = true := by decide +kernel
theorem ok_0_5 : okN 0 5 = true := by decide +kernel
theorem ok_1_0 : okN 1 0 = true := by decide +kernel
theorem ok_1_1 : okN 1 1 = true := by decide +kernel
theorem ok_1_2 : okN 1 2 = true := by decide +kernel
theorem ok_1_3 : okN 1 3 = true := by decide +kernel
theorem ok_1_4 : okN 1 4 = true := by decide +kernel
theorem ok_1_5 : okN 1 5 = true := by decide +kernel
theorem ok_2_0 : okN 2 0 = true := by decide +kernel
theorem ok_2_1 : okN 2 1 = true := by decide +kernel
theorem ok_2_2 : okN 2 2 = true := by decide +kernel
theorem ok_2_3 : okN 2 3 = true := by decide +kernel
theorem ok_2_4 : okN 2 4 = true := by decide +kernel
theorem ok_2_5 : okN 2 5 = true := by decide +kernel
theorem ok_all : ∀ i a : Nat, i < 3 → a < 6 → okN i a = true
  | 0, 0, _, _ => ok_0_0
  | 0, 1, _, _ => ok_0_1
  | 0, 2, _, _ => ok_0_2
  | 0, 3, _, _ => ok_0_3
  | 0, 4, _, _ => ok_0_4
  | 0, 5, _, _ => ok_0_5
  | 1, 0, _, _ => ok_1_0
  | 1, 1, _, _ => ok_1_1
  | 1, 2, _, _ => ok_1_2
  | 1, 3, _, _ => ok_1_3
  | 1, 4, _, _ => ok_1_4
  | 1, 5, _, _ => ok_1_5
  | 2, 0, _, _ => ok_2_0
  | 2, 1, _, _ => ok_2_1
  | 2, 2, _, _ => ok_2_2
  | 2, 3, _, _ => ok_2_3
  | 2, 4, _, _ => ok_2_4
  | 2, 5, _, _ => ok_2_5
  | i + 3, _, h, _ => by omega
  | 0, a + 6, _, h => by omega
  | 1, a + 6, _, h => by omega
  | 2, a + 6, _, h => by omega
theorem fileF_tab (n : Int) : (fileF n).cps.toList ∈ tab := by
  obtain ⟨i, a, b, c, hi, ha, hb, hc, e⟩ := lawPath_lp n
  unfold fileF
  rw [e, normF_G]
  have h := List.all_eq_true.mp (ok_all i a hi ha) b (List.mem_range.mpr hb)
  exact hasL_mem (List.all_eq_true.mp h c (List.mem_range.mpr hc))
theorem filesT_tab {ns : List Int} {f : Str} (h : f ∈ filesT ns) : f.cps.toList ∈ tab := by
  unfold filesT at h
  rcases List.mem_append.mp h with h2 | h
  · clear h; revert h2 f; decide +kernel
  · obtain ⟨n, _, rfl⟩ := List.mem_map.mp h
    exact fileF_tab n
theorem waysT_tab {ns : List Int} {f : Str} (h : f ∈ (outT ns).map normF) : f.cps.toList ∈ tab := by
  obtain ⟨g, hg, rfl⟩ := List.mem_map.mp h
  unfold outT at hg
  rcases List.mem_append.mp hg with h2 | h2
  · clear h hg; revert h2 g; decide +kernel
  · obtain ⟨n, _, rfl⟩ := List.mem_map.mp h2
    exact fileF_tab n
theorem tab_len : ∀ l ∈ tab, l.length ≤ 12 := by decide +kernel
theorem tab_ok : ∀ l ∈ tab, l ≠ [] ∧ (l.all fun c => decide (c < 128)) = true := by decide +kernel
theorem len_toList (x : Str) : x.length = x.cps.toList.length := by simp [Str.length]
theorem filesT_len {ns : List Int} {f : Str} (h : f ∈ filesT ns) : f.length ≤ 12 := by rw [len_toList]; exact tab_len _ (filesT_tab h)
theorem waysT_len {ns : List Int} {f : Str} (h : f ∈ (outT ns).map normF) : f.length ≤ 12 := by rw [len_toList]; exact tab_len _ (waysT_tab h)
theorem waysT_ok {ns : List Int} {f : Str} (h : f ∈ (outT ns).map normF) : PyData.strOk f = true := by
  have h2 := (tab_ok _ (waysT_tab h)).2
  unfold PyData.strOk
  rw [← Array.all_toList]
  refine List.all_eq_true.mpr fun c hc => ?_
  have h3 := List.all_eq_true.mp h2 c hc
  simp only [decide_eq_true_eq] at h3 ⊢
  omega
/-! upwards -/
noncomputable def slashes (l : List Nat) : Bool := l.all fun c => c == 47
noncomputable def dirL (l : List Nat) : List Nat :=
  let h := (l.reverse.dropWhile fun c => c != 47)
  if slashes h = true then h.reverse else (h.dropWhile fun c => c == 47).reverse
noncomputable def tab1 : List (List Nat) := [] :: tab
theorem dir_tab : ∀ l ∈ tab1, (dirF (S l)).cps.toList = dirL l ∧ (Txt.slice (S l) none (some 2) == Str.ofString "//") = (l.take 2 == [47, 47]) := by decide +kernel
theorem dir_in : (tab1.all fun l => hasL tab1 (dirL l)) = true := by decide +kernel
theorem top_tab : ∀ l ∈ tab1, topF (S l) = !slashes l := by decide +kernel
noncomputable def aboveL : Nat → List Nat → List (List Nat)
  | 0, _ => []
  | n + 1, l => if (dirL l != l) = true then dirL l :: aboveL n (dirL l) else []
theorem dirF_S {l : List Nat} (h : l ∈ tab1) : dirF (S l) = S (dirL l) := by rw [← (dir_tab l h).1, S_toList]
theorem dirL_in {l : List Nat} (h : l ∈ tab1) : dirL l ∈ tab1 := hasL_mem (List.all_eq_true.mp dir_in l h)
theorem S_bne (l k : List Nat) : (S l != S k) = (l != k) := by
  by_cases h : l = k
  · subst h; simp
  · have h2 : S l ≠ S k := fun e => h (S_inj e)
    rw [bne_iff_ne.mpr h2, bne_iff_ne.mpr h]
theorem above_L : ∀ (n : Nat) {l : List Nat}, l ∈ tab1 → aboveN n (S l) = (aboveL n l).map S
  | 0, _, _ => rfl
  | n + 1, l, h => by
    unfold aboveN aboveL
    rw [dirF_S h, S_bne, above_L n (dirL_in h)]
    split <;> rfl
theorem aboveL_in : ∀ (n : Nat) {l k : List Nat}, l ∈ tab1 → k ∈ aboveL n l → k ∈ tab1
  | 0, _, _, _, hk => by cases hk
  | n + 1, l, k, h, hk => by
    unfold aboveL at hk
    split at hk
    · rcases List.mem_cons.mp hk with rfl | hk
      · exact dirL_in h
      · exact aboveL_in n (dirL_in h) hk
    · cases hk
noncomputable def stopsL : Nat → List Nat → Bool
  | 0, l => dirL l == l
  | n + 1, l => dirL l == l || stopsL n (dirL l)
theorem S_beq (l k : List Nat) : (S l == S k) = (l == k) := by
  have := S_bne l k
  simpa [bne] using this
theorem stops_L : ∀ (n : Nat) {l : List Nat}, l ∈ tab1 → stopsN n (S l) = stopsL n l
  | 0, l, h => by unfold stopsN stopsL; rw [dirF_S h, S_beq]
  | n + 1, l, h => by unfold stopsN stopsL; rw [dirF_S h, S_beq, stops_L n (dirL_in h)]
theorem stops_tab : (tab.all fun l => stopsL 20 l) = true := by decide +kernel
theorem filesT_stops {ns : List Int} {f : Str} (h : f ∈ filesT ns) : stopsN 20 f = true := by
  have h1 := filesT_tab h
  have := stops_L 20 (l := f.cps.toList) (.tail _ h1)
  rw [S_toList] at this
  rw [this]
  exact List.all_eq_true.mp stops_tab _ h1
/-! what opens a file's name, up to a slash -/
noncomputable def cutsL : List Nat → List (List Nat)
  | [] => []
  | c :: r => if (c == 47) = true then [] :: (cutsL r).map (c :: ·) else (cutsL r).map (c :: ·)
theorem mem_cutsL : ∀ {l d : List Nat}, d ∈ cutsL l ↔ (l.take (d.length + 1) == d ++ [47]) = true
  | [], d => by
    constructor
    · intro h; cases h
    · intro h; have := eq_of_beq h; cases d <;> simp at this
  | c :: r, [] => by
    unfold cutsL
    by_cases hc : c = 47
    · subst hc; simp
    · rw [if_neg (by simpa using hc)]
      simp [hc]
  | c :: r, x :: d => by
    have ih := mem_cutsL (l := r) (d := d)
    have e : ((c :: r).take ((x :: d).length + 1) == x :: d ++ [47]) = true ↔ c = x ∧ (r.take (d.length + 1) == d ++ [47]) = true := by
      simp only [List.length_cons, List.take_succ_cons, List.cons_append, beq_iff_eq, List.cons.injEq]
    rw [e, ← ih, cutsL]
    split
    · simp only [List.mem_cons, List.mem_map, reduceCtorEq, false_or, List.cons.injEq]
      constructor
      · rintro ⟨a, ha, rfl, rfl⟩; exact ⟨rfl, ha⟩
      · rintro ⟨rfl, h⟩; exact ⟨d, h, rfl, rfl⟩
    · simp only [List.mem_map, List.cons.injEq]
      constructor
      · rintro ⟨a, ha, rfl, rfl⟩; exact ⟨rfl, ha⟩
      · rintro ⟨rfl, h⟩; exact ⟨d, h, rfl, rfl⟩
theorem hit_L (l d : List Nat) : hitF (S l) (S d) = true ↔ d ∈ cutsL l := by
  rw [mem_cutsL]
  unfold hitF Txt.startswith
  rw [sl, StrLaws.subAt_eq, Bool.and_eq_true]
  have h1 : (S d ++ S [47]).length = d.length + 1 := by rw [Str.length_append]; simp [Str.length]
  have h2 : (S d ++ S [47]).cps.toList = d ++ [47] := by simp [Str.cps_append]
  have h3 : (S l).length = l.length := by simp [Str.length]
  rw [h1, h2, h3]
  simp only [List.drop_zero, decide_eq_true_eq]
  constructor
  · exact fun h => h.2
  · intro h
    refine ⟨?_, h⟩
    have := congrArg List.length (eq_of_beq h)
    simp at this; omega
noncomputable def upL (l : List Nat) : List (List Nat) := (aboveL 20 l).filter fun k => !slashes k
theorem law_tab : (tab.all fun l => ((cutsL l).all fun d => d == [] || hasL (upL l) d || (d == [47] && l.take 2 == [47, 47])) && ((upL l).all fun d => hasL (cutsL l) d) && (!(l.take 2 == [47, 47]) || hasL (cutsL l) [47])) = true := by decide +kernel
theorem up_S {l : List Nat} (h : l ∈ tab1) : (aboveN 20 (S l)).filter topF = (upL l).map S := by
  rw [above_L 20 h]
  unfold upL
  have : ∀ L : List (List Nat), (∀ k ∈ L, k ∈ tab1) → (L.map S).filter topF = (L.filter fun k => !slashes k).map S := fun L hL => by
    induction L with
    | nil => rfl
    | cons a L ih =>
      rw [List.map_cons, List.filter_cons, List.filter_cons, top_tab a (hL a (.head _)), ih (fun k hk => hL k (.tail _ hk))]
      split <;> rfl
  exact this _ (fun k hk => aboveL_in 20 h hk)
theorem law_one {l : List Nat} (h : l ∈ tab) (wt : List Str) (hne : ∀ y ∈ wt, y ≠ S []) (hs : S [47] ∈ wt) : namesF wt (S l) = dueF 20 (S l) wt := by
  have hl := List.all_eq_true.mp law_tab l h
  rw [Bool.and_eq_true, Bool.and_eq_true] at hl
  obtain ⟨⟨h1, h2⟩, h3⟩ := hl
  have h1 := List.all_eq_true.mp h1
  have h2 := List.all_eq_true.mp h2
  unfold namesF dueF
  rw [up_S (.tail _ h), (dir_tab l (.tail _ h)).2]
  have key : (wt.any (hitF (S l)) = true) ↔ (wt.filter (inF ((upL l).map S)) == []) = false ∨ ((l.take 2 == [47, 47]) = true ∧ (wt.any fun y => y == Str.ofString "/") = true) := by
    have hsl : (wt.any fun y => y == Str.ofString "/") = true := List.any_eq_true.mpr ⟨_, hs, by rw [sl]; exact beq_self_eq_true _⟩
    rw [hsl, List.any_eq_true]
    have hfil : (wt.filter (inF ((upL l).map S)) == []) = false ↔ ∃ y ∈ wt, inF ((upL l).map S) y = true := by
      rw [beq_eq_false_iff_ne, ne_eq, List.filter_eq_nil_iff]
      constructor
      · intro hh
        apply Classical.byContradiction
        intro hc
        exact hh (fun a ha hb => hc ⟨a, ha, hb⟩)
      · rintro ⟨y, hy, hb⟩ hh
        exact hh y hy hb
    have hin : ∀ y : Str, inF ((upL l).map S) y = true ↔ y.cps.toList ∈ upL l := by
      intro y
      unfold inF
      rw [List.any_eq_true]
      constructor
      · rintro ⟨z, hz, e⟩
        obtain ⟨k, hk, rfl⟩ := List.mem_map.mp hz
        rw [← eq_of_beq e]; simpa using hk
      · intro hy
        exact ⟨S y.cps.toList, List.mem_map.mpr ⟨_, hy, rfl⟩, by rw [S_toList]; exact beq_self_eq_true _⟩
    rw [hfil]
    constructor
    · rintro ⟨d, hd, hh⟩
      rw [← S_toList d, hit_L] at hh
      have := h1 _ hh
      simp only [Bool.or_eq_true, Bool.and_eq_true] at this
      rcases this with (e | e) | ⟨_, e⟩
      · exact absurd ((S_toList d).symm.trans (congrArg S (eq_of_beq e))) (hne d hd)
      · exact .inl ⟨d, hd, (hin d).mpr (hasL_mem e)⟩
      · exact .inr ⟨e, rfl⟩
    · rintro (⟨d, hd, hi⟩ | ⟨e, _⟩)
      · refine ⟨d, hd, ?_⟩
        rw [← S_toList d, hit_L]
        exact hasL_mem (h2 _ ((hin d).mp hi))
      · refine ⟨_, hs, ?_⟩
        rw [hit_L]
        rw [e] at h3
        exact hasL_mem (by simpa using h3)
  by_cases hk : wt.any (hitF (S l)) = true
  · rw [if_pos hk, if_pos (key.mp hk)]
  · rw [if_neg hk, if_neg (fun hc => hk (key.mpr hc))]
theorem norm_sl : normF (Str.ofString "/") = S [47] := by decide +kernel
theorem law_is (ns : List Int) {f : Str} (h : f ∈ filesT ns) : namesF ((outT ns).map normF) f = dueF 20 f ((outT ns).map normF) := by
  have := law_one (filesT_tab h) ((outT ns).map normF) (fun y hy e => (tab_ok _ (waysT_tab hy)).1 (by rw [e])) (List.mem_map.mpr ⟨Str.ofString "/", List.mem_append.mpr (.inl (.head _)), norm_sl⟩)
  rwa [S_toList] at this
theorem law_plain (ns : List Int) : (List.map (fun f => strI (namesF (List.map normF (outT ns)) f)) (filesT ns) == List.map (fun f => strI (dueF 20 f (List.map normF (outT ns)))) (filesT ns)) = true := by
  rw [beq_iff_eq]
  exact List.map_congr_left fun f hf => by rw [law_is ns hf]
theorem strI_ok {i : Int} (h : 0 ≤ i ∧ i ≤ 1) : PyData.strOk (strI i) = true := by
  have : i = 0 ∨ i = 1 := by omega
  rcases this with rfl | rfl <;> decide +kernel
end Mine

/-! part Law -/
namespace Mine
open PySem.Calls PySem.Spec
theorem ints_item : ∀ {vs : List Value} {ns : List Int}, IntsAre vs ns → ∀ (i : Nat) (v : Value), vs[i]? = some v → ∃ n t, v = .int n t ∧ ns[i]? = some n
  | _, _, .nil, i, v, h => by simp at h
  | _, _, .cons k t r, 0, v, h => by simp at h; exact ⟨k, t, h.symm, rfl⟩
  | _, _, .cons k t r, i + 1, v, h => by simpa using ints_item r i v (by simpa using h)
theorem lawPath_len (n : Int) : (lawPath n).length ≤ 11 := by
  have h1 : ∀ i, ([Str.ofString "a", Str.ofString "b", Str.ofString "..", Str.ofString ".", Str.ofString "", Str.ofString "ab"].getD i Str.empty).length ≤ 2 := getD_short (by decide +kernel)
  have h2 : ∀ i, ([Str.ofString "", Str.ofString "/", Str.ofString "//"].getD i Str.empty).length ≤ 2 := getD_short (by decide +kernel)
  unfold lawPath
  rw [Str.length_append]
  have := join_len3 (h1 ((n.fdiv 6).fmod 6).toNat) (h1 ((n.fdiv 36).fmod 6).toNat) (h1 ((n.fdiv 216).fmod 6).toNat)
  have := h2 ((n.fdiv 2).fmod 3).toNat
  omega
theorem outT_len {ns : List Int} {y : Str} (h : y ∈ outT ns) : y.length ≤ 11 := by
  unfold outT at h
  rcases List.mem_append.mp h with h2 | h
  · clear h; revert h2 y; decide +kernel
  · obtain ⟨n, _, rfl⟩ := List.mem_map.mp h
    exact lawPath_len n
noncomputable abbrev mkey (i : Nat) : Str := Str.ofString "m" ++ Str.ofString (toString ((0 : Int) + (i : Int)))
noncomputable def cF (wt fs : List Str) : Nat → List (Str × Int)
  | 0 => [(Str.ofString "<string>", 1)]
  | i + 1 => kdpPut (cF wt fs i) (mkey i) (namesF wt (fs.getD i Str.empty))
theorem mkey_ne : ∀ i : Nat, i < 20 → mkey i ≠ Str.ofString "<string>" ∧ ∀ j : Nat, j < i → mkey i ≠ mkey j := by decide +kernel
theorem cF_has (wt fs : List Str) (k : Str) (h0 : k ≠ Str.ofString "<string>") : ∀ i : Nat, (∀ j, j < i → k ≠ mkey j) → kdpHas (cF wt fs i) k = false
  | 0, _ => by unfold cF kdpHas; simp; exact fun e => h0 e.symm
  | i + 1, h => by
    unfold cF
    rw [kdpHas_put, cF_has wt fs k h0 i (fun j hj => h j (by omega))]
    simp only [Bool.or_false, decide_eq_false_iff_not]
    exact h i (by omega)
theorem cF_new (wt fs : List Str) (i : Nat) (h : i < 20) : kdpHas (cF wt fs i) (Str.ofString "m" ++ Str.ofString (toString ((0 : Int) + (i : Int)))) = false :=
  cF_has wt fs _ (mkey_ne i h).1 i (mkey_ne i h).2
theorem cF_len (wt fs : List Str) : ∀ i : Nat, (cF wt fs i).length ≤ i + 1
  | 0 => Nat.le_refl _
  | i + 1 => by unfold cF; exact Nat.le_trans (kdpPut_len _ _ _) (Nat.succ_le_succ (cF_len wt fs i))
theorem updF_off3 {di I C D : Addr} {ob oI oC oD : Obj} {nx : Led} {g : Obj → Led} (U : UpdF di ob nx g) (off : LCg.Off3 I C D nx) (hm : (di, ob) ∈ nx) : UpdF di ob ((I, oI) :: (C, oC) :: (D, oD) :: nx) (fun o' => (I, oI) :: (C, oC) :: (D, oD) :: g o') :=
  let z := off.mem _ hm
  UpdF.tail (Ne.symm z.1) (UpdF.tail (Ne.symm z.2.1) (UpdF.tail (Ne.symm z.2.2) U))
theorem namesF_bd (wt : List Str) (f : Str) : 0 ≤ namesF wt f ∧ namesF wt f ≤ 1 := by unfold namesF; split <;> decide
theorem dueF_bd (fu : Nat) (f : Str) (wt : List Str) : 0 ≤ dueF fu f wt ∧ dueF fu f wt ≤ 1 := by unfold dueF; split <;> decide
theorem keep3 {q : Addr × Obj} {news news' : Led} (h : ∀ p ∈ news, p ∈ news') : ∀ p ∈ q :: news, p ∈ q :: news' := fun p hp => by
  rcases List.mem_cons.mp hp with rfl | hp
  · exact .head _
  · exact .tail _ (h p hp)
end Mine

local macro_rules | `(tactic| walk_at "mine D") => `(tactic| (with_reducible refine d_law_path _ _ _ _))
local macro_rules | `(tactic| walk_at "mine D") => `(tactic| ((with_reducible refine d_normpath _ _ _ _ ?_); omega))
local macro_rules | `(tactic| walk_at "mine D") => `(tactic| ((with_reducible refine d_normpathS _ _ _ _ ?_); omega))
local macro_rules | `(tactic| walk_at "mine D") => `(tactic| ((with_reducible show Does _ 203 _ _ _ _ _); refine d_law_due _ 20 _ _ _ _ _ _ _ (by omega) (by omega) (by with_reducible assumption) (by k_mem) (by with_reducible assumption) (by omega) (by assumption)))
local macro_rules | `(tactic| walk_at "eval ListComp") => `(tactic| (k_here; (with_reducible show wpAny _ _ (eval (Expr.ListComp _ [Comprehension.mk _ _ [] _] _ _) _) _ _ _); k_dflt (refine LCg.ListComp_U (F₀ := by k_asm) (by with_unfolding_all rfl) (by decide) (by rfl) (by decide) (by rfl) ?_); generalize hR9 : LCg.CompSrc _ _ _ _ _ _ _ _ _ _ _ _ = R9))
local macro_rules | `(tactic| walk_at "subscriptTail") => `(tactic| (k_here; (with_reducible show wpAny _ _ (subscriptTail _ _ (Value.ref _) (Value.int _ _)) _ _ _); (rename (_ = some (Value.str _ _)) => hit9); with_unfolding_all refine item_led (by k_asm) (by k_mem) (by omega) (by omega) hit9 ?_))
local macro_rules | `(tactic| walk_at "call builtin:len") => `(tactic| (k_here; k_dflt (refine len_led (by k_asm) (by k_mem) (by omega) ?_)))
local macro_rules | `(tactic| walk_at "call type:range") => `(tactic| (k_here; k_dflt (refine range1_rows (by k_asm) (by k_asm) ?_); intro h9 tk9 t91 u91 v91 hr9 F9 N9 hk9))
local macro_rules | `(tactic| ktr_units) => `(tactic| (have hcL9 := cLine_is; simp only [PyProof.Rows.units_under_make, units_in1, units_deeper, Around.mark_units, units_caller]; omega))
local macro_rules | `(tactic| walk_at "ite") => `(tactic| ((with_reducible show ite True _ _); refine ite_pos trivial ?_))
local macro_rules | `(tactic| walk_at "truthy ref") => `(tactic| (k_here; k_dflt (refine truthy_ne (by k_asm) (by k_mem) (by with_reducible assumption) (by omega) ?_)))
theorem PySem.Challenge.cw_mr0168_01_holds : PySem.Challenge.rw_mr0168_01.Holds :=
  Mine.hd (by
  k_go0
  (all_goals try k_fold)
  (rename List Int => ns)
  (rename IntsAre _ ns => hI)
  (rename (¬ (63 : Int) < _) => hlen)
  (rename (_ = Data.cell _) => c3)
  replace c3 : _ = Data.cell none := c3
  revert c3
  (rename (_ = Data.cell _) => c2)
  replace c2 : _ = Data.cell none := c2
  revert c2
  (rename (_ = Data.cell _) => c1)
  replace c1 : _ = Data.cell none := c1
  intro c2 c3
  try ((rename CellsAre _ _ _ => x1); clear x1)
  try ((rename Dflts _ _ _ _ _ => x1); clear x1)
  try ((rename Heap.CodeRec _ _ _ => x1); clear x1)
  try ((rename ReadsAll _ _ _ _ => x1); clear x1)
  try ((rename Well _ _ _ _ => x1); clear x1)
  try ((rename Reads _ _ _ _ => x1); clear x1)
  try ((rename ReadsAllW _ _ _ _ _ _ => x1); clear x1)
  try ((rename BMod _ _ _ _ _ => x1); clear x1)
  try ((rename TopE _ _ _ _ => x1); clear x1)
  try ((rename TopW _ _ _ => x1); clear x1)
  (rename Fr _ _ _ _ => F0)
  replace F0 : Fr _ _ _ (fun y => if y = Str.ofString "script" then some (.ref _) else none) := F0
  try ((rename Tables _ _ _ _ => x1); clear x1)
  try ((rename Glob _ _ _ _ _ _ _ _ => x1); clear x1)
  try ((rename LooseAre _ _ _ => x1); clear x1)
  have hlen' : ns.length ≤ 63 := by omega
  k_steps
  (rename (LCt.CompSrcT _ _ _ _ _ _ _ _ _ _ _ _ _ = _) => hR)
  subst hR
  (rename IntsAre _ (List.take 6 ns) => hI6)
  have hw6 := hI6.length
  have h6 : (List.take 6 ns).length ≤ 6 := by rw [List.length_take]; omega
  refine LCt.CompSrcT.ledger (by rfl) (by k_asm) (by k_asm) (by k_mem) (by rw [sizeLine_eq, List.size_toArray]; omega) ?_
  intro g9
  refine restT_inv (fun i ys nx => nx = _ ∧ StrsAre ys ((((ns.take 6).take i).filter evenB).map lawPath)) ?_ ?_ _ 0 [] _ (Nat.zero_add _) ⟨rfl, .nil⟩
  · intro i ys nx hi hJ
    obtain ⟨rfl, hys⟩ := hJ
    unfold TurnT
    intro v I oI C oC D m₂ h tk E' R1 R2 hv hC hx F1 N1 off ne r1 r2
    dsimp only
    obtain ⟨c, tc, rfl, hc⟩ := ints_item hI6 i v (by simpa using hv)
    k_steps
    · refine r1 _ _ _ _ (by k_asm) (by assumption) off (.inr ⟨_, .head _, rfl, _, rfl⟩) ⟨rfl, ?_⟩
      have ht : evenB c = true := by unfold evenB; simpa using (by assumption : c.fmod 2 = 0)
      rw [List.take_add_one, hc]
      simp only [Option.toList_some, List.filter_append, List.filter_cons, List.filter_nil, ht, if_true, List.map_append, List.map_cons, List.map_nil]
      exact StrsAre.append' hys (.cons _ _ .nil)
    · refine r2 _ _ _ (by k_asm) (by assumption) off (.inr ⟨_, .head _, rfl, _, rfl⟩) ⟨rfl, ?_⟩
      have ht : evenB c = false := by unfold evenB; simpa using (by assumption : c.fmod 2 ≠ 0)
      rw [List.take_add_one, hc]
      simp only [Option.toList_some, List.filter_append, List.filter_cons, List.filter_nil, ht, Bool.false_eq_true, if_false, List.append_nil]
      exact hys
  · intro ys nx hJ
    obtain ⟨rfl, hys⟩ := hJ
    rw [List.size_toArray, hw6, List.take_length] at hys
    unfold LCg.FinE
    intro D h tk F1 N1 o1
    dsimp only
    refine add_strs F1 N1 (by k_mem) (by repeat constructor) (by k_mem) hys (by rw [List.length_map]; have := List.length_filter_le evenB (List.take 6 ns); simp only [List.length_cons, List.length_nil]; omega) ?_
    intro lo h2 ov ho F2 N2 l2
    replace ho : StrsAre ov (outT ns) := ho
    replace N2 := cb_drop N2 (keep3 (fun p hp => .tail _ (.tail _ (.tail _ hp))))
    replace l2 := l2 _ (.tail _ (.tail _ (.tail _ (.head _))))
    replace l2 := ltN l2
    clear N1 F1 o1 hys
    dsimp only
    k_steps
    (rename (LCt.CompSrcT _ _ _ _ _ _ _ _ _ _ _ _ _ = _) => hR)
    subst hR
    clear hI6 hw6
    (rename IntsAre _ (List.take 6 ns) => hI6)
    have hw6 := hI6.length
    refine LCt.CompSrcT.ledger (by rfl) (by k_asm) (by k_asm) (by k_mem) (by rw [sizeLine_eq, List.size_toArray]; omega) ?_
    intro g10
    refine restT_inv (fun i ys nx => nx = _ ∧ StrsAre ys ((((ns.take 6).take i).filter oddB).map fileF)) ?_ ?_ _ 0 [] _ (Nat.zero_add _) ⟨rfl, .nil⟩
    · intro i ys nx hi hJ
      obtain ⟨rfl, hys⟩ := hJ
      unfold TurnT
      intro v I oI C oC D m₂ h tk E' R1 R2 hv hC hx F1 N1 off ne r1 r2
      dsimp only
      obtain ⟨c, tc, rfl, hc⟩ := ints_item hI6 i v (by simpa using hv)
      have hll := lawPath_len c
      k_steps
      · refine r1 _ _ _ _ (by k_asm) (by assumption) off (.inr ⟨_, .head _, rfl, _, rfl⟩) ⟨rfl, ?_⟩
        have ht : oddB c = true := by unfold oddB; simpa using (by assumption : c.fmod 2 = 1)
        rw [List.take_add_one, hc]
        simp only [Option.toList_some, List.filter_append, List.filter_cons, List.filter_nil, ht, if_true, List.map_append, List.map_cons, List.map_nil]
        exact StrsAre.append' hys (.cons _ _ .nil)
      · refine r2 _ _ _ (by k_asm) (by assumption) off (.inr ⟨_, .head _, rfl, _, rfl⟩) ⟨rfl, ?_⟩
        have ht : oddB c = false := by unfold oddB; simpa using (by assumption : c.fmod 2 ≠ 1)
        rw [List.take_add_one, hc]
        simp only [Option.toList_some, List.filter_append, List.filter_cons, List.filter_nil, ht, Bool.false_eq_true, if_false, List.append_nil]
        exact hys
    · intro ys nx hJ
      obtain ⟨rfl, hys⟩ := hJ
      rw [List.size_toArray, hw6, List.take_length] at hys
      unfold LCg.FinE
      intro D h tk F1 N1 o1
      dsimp only
      refine add_strs F1 N1 (by k_mem) (by repeat constructor) (by k_mem) hys (by rw [List.length_map]; have := List.length_filter_le oddB (List.take 6 ns); simp only [List.length_cons, List.length_nil]; omega) ?_
      intro lf h3 fv hf F3 N3 l3
      replace hf : StrsAre fv (filesT ns) := hf
      replace N3 := cb_drop N3 (keep3 (fun p hp => .tail _ (.tail _ (.tail _ hp))))
      have l4 := ltN (l3 _ (.tail _ (.tail _ (.tail _ (.head _)))))
      have l5 := ltN (l3 _ (.tail _ (.tail _ (.tail _ (.tail _ (.head _))))))
      clear N1 F1 o1 hys l3
      dsimp only at l2 l4 l5
      dsimp only
      k_sweep
      have hol := ho.length
      have hov : ov.isEmpty = false := by cases ov with | nil => cases ho | cons _ _ => rfl
      have hol' : (outT ns).length ≤ 10 := by unfold outT; rw [List.length_append, List.length_map]; have := List.length_filter_le evenB (List.take 6 ns); simp only [List.length_cons, List.length_nil]; omega
      k_steps
      (rename (LCg.CompSrc _ _ _ _ _ _ _ _ _ _ _ _ = _) => hR)
      subst hR
      refine LCg.CompSrc.ledger (by rfl) (by k_asm) (by k_asm) (by k_mem) (by rw [sizeLine_eq, List.size_toArray]; omega) ?_
      intro g11
      refine restU_inv (fun i ys nx => nx = _ ∧ StrsAre ys (((outT ns).take i).map normF)) ?_ ?_ _ 0 [] _ (Nat.zero_add _) ⟨rfl, .nil⟩
      · intro i ys nx hi hJ
        obtain ⟨rfl, hys⟩ := hJ
        unfold TurnU
        intro v I oI C oC D m₂ h tk E' R1 hv hC hx F1 N1 off ne r1
        dsimp only
        obtain ⟨c, tc, rfl, hc⟩ := StrsAre.item ho i v (by simpa using hv)
        have hll : c.length ≤ 11 := outT_len (List.mem_of_getElem? hc)
        k_steps
        refine r1 _ _ _ _ (by k_asm) (by assumption) off (.inr ⟨_, by k_mem, rfl, _, rfl⟩) ⟨rfl, ?_⟩
        rw [List.take_add_one, hc]
        simp only [Option.toList_some, List.map_append, List.map_cons, List.map_nil]
        exact StrsAre.append' hys (.cons _ _ .nil)
      · intro ys nx hJ
        obtain ⟨rfl, hys⟩ := hJ
        rw [List.size_toArray, hol, List.take_length] at hys
        unfold LCg.FinE
        intro D h tk F1 N1 o1
        dsimp only
        simp only [LCg.Off1, and_true] at o1
        obtain ⟨q1, q2, q3, q4, q5, q6, q7, q8, q9⟩ := o1
        k_steps
        (rename (LCg.CompSrc _ _ _ _ _ _ _ _ _ _ _ _ = _) => hR)
        subst hR
        (rename PyProof.V.FlatPairs _ _ _ => hfl)
        replace hfl : PyProof.V.FlatPairs PyData.str _ (kdpD [(Str.ofString "<string>", 1)]) := hfl
        refine LCg.CompSrc.ledger (by rfl) (by k_asm) (by k_asm) (by k_mem) (by rw [sizeLine_eq, List.size_toArray]; omega) ?_
        intro g12
        refine restU_inv (fun i ys nx => nx = _ ∧ StrsAre ys (((outT ns).take i).map normF)) ?_ ?_ _ 0 [] _ (Nat.zero_add _) ⟨rfl, .nil⟩
        · intro i ys2 nx hi hJ
          obtain ⟨rfl, hys2⟩ := hJ
          unfold TurnU
          intro v I oI C oC D2 m₂ h2 tk2 E' R1 hv hC hx F3 N3 off ne r1
          dsimp only
          obtain ⟨c, tc, rfl, hc⟩ := StrsAre.item ho i v (by simpa using hv)
          have hll : c.length ≤ 11 := outT_len (List.mem_of_getElem? hc)
          k_steps
          refine r1 _ _ _ _ (by k_asm) (by assumption) off (.inr ⟨_, by k_mem, rfl, _, rfl⟩) ⟨rfl, ?_⟩
          rw [List.take_add_one, hc]
          simp only [Option.toList_some, List.map_append, List.map_cons, List.map_nil]
          exact StrsAre.append' hys2 (.cons _ _ .nil)
        · intro ys2 nx hJ
          obtain ⟨rfl, hys2⟩ := hJ
          rw [List.size_toArray, hol, List.take_length] at hys2
          unfold LCg.FinE
          intro D2 h2 tk2 F3 N3 o3
          dsimp only
          simp only [LCg.Off1, and_true] at o3
          obtain ⟨z1, z2, z3, z4, z5, z6, z7, z8, z9, z10, z11⟩ := o3
          have hfl9 := hf.length
          have hfl8 : (filesT ns).length ≤ 12 := by unfold filesT; rw [List.length_append, List.length_map]; have := List.length_filter_le oddB (List.take 6 ns); simp only [List.length_cons, List.length_nil]; omega
          k_steps
          (rename (LCg.CompSrc _ _ _ _ _ _ _ _ _ _ _ _ = _) => hR)
          subst hR
          dsimp only
          refine LCg.CompSrc.range (by rfl) (by k_asm) (by k_asm) (by assumption) (small_range _ (by omega)).1 (small_range _ (by omega)).2 (by rw [sizeLine_eq]; omega) ?_
          intro g13
          refine restU_inv (fun i ys nx => ∃ ob kvs, nx = (D2, LCg.lst ys2) :: (_, ob) :: _ ∧ ob.IsDictOf (PySem.strKind PySem.Challenge.rw_mr0168_01.row.prog _) kvs ∧ PyProof.V.FlatPairs PyData.str kvs (kdpD (cF ((outT ns).map normF) (filesT ns) i)) ∧ StrsAre ys (((filesT ns).take i).map fun f => strI (namesF ((outT ns).map normF) f))) ?_ ?_ _ 0 [] _ (Nat.zero_add _) ⟨_, _, rfl, by assumption, hfl, .nil⟩
          · intro i ys3 nx hi hJ
            obtain ⟨ob, kvs9, rfl, hdo, hfo, hys3⟩ := hJ
            unfold TurnU
            intro v I oI C oC D3 m₂ h3 tk3 E' R1 hv hC hx F4 N4 off ne r1
            dsimp only
            obtain ⟨tv, rfl⟩ := hv
            have hi9 : i < (filesT ns).length := by omega
            obtain ⟨tf, hft⟩ := StrsAre.get hf i ((filesT ns)[i]) (List.getElem?_eq_getElem hi9)
            have hft9 : fv[((0 : Int) + (i : Int)).toNat]? = some (Value.str ((filesT ns)[i]) tf) := by rw [show ((0 : Int) + (i : Int)).toNat = i by omega]; exact hft
            clear hft
            have hnew := cF_new ((outT ns).map normF) (filesT ns) i (by omega)
            have hcl9 := cF_len ((outT ns).map normF) (filesT ns) i
            have hfl7 : ((filesT ns)[i]).length ≤ 100 := Nat.le_trans (filesT_len (List.getElem_mem hi9)) (by decide)
            have hwl7 : ∀ d ∈ (outT ns).map normF, d.length ≤ 100 := fun d hd => Nat.le_trans (waysT_len hd) (by decide)
            have hwn7 : ((outT ns).map normF).length ≤ 100 := by rw [List.length_map]; omega
            have off0 := off
            simp only [LCg.Off3, and_true] at off
            iterate 27 (first | (k_unfold; (try dsimp only)) | walk1 | (dsimp only; walk1))
            k_dflt (refine' does_use ?k1 ?k2 ?k3 ?k4 (d_names _ _ _ _ _ _ _ _ _ _ _ _ _ _ _ _ _ _ _ _ _ _ ?n1 ?n2 ?n3 ?n4 ?n5 ?n6 ?n7 ?n8 ?n9 ?n10 ?n11 ?n12 ?n13 ?n14 ?n15) ?k5 ?kK ?kd ?ku ?_; (case k1 => k_asm); (case k2 => k_asm); (case k3 => k_asm); (case k4 => k_asm); (case k5 => k_asm); (case kK => first | exact rfl | assumption); (case kd => ktr_room); (case ku => ktr_units); (case n1 => k_mem); (case n2 => k_mem); (case n3 => k_mem); (case n4 => k_mem); (case n5 => with_reducible assumption); (case n6 => k_mem); (case n8 => k_asm); (case n9 => k_asm); (case n10 => k_asm); (case n11 => with_reducible assumption); (case n12 => omega); (case n13 => assumption); (case n14 => omega); (case n15 => omega))
            case n7 => (refine updF_off3 (UpdF.tail ?b1 (UpdF.head ?b2)) off0 (.tail _ (.head _)); (case b1 => exact Ne.symm z1); (case b2 => (intro p hp; simp only [List.mem_cons, List.not_mem_nil, or_false] at hp; rcases hp with rfl | rfl | rfl | rfl | rfl | rfl | rfl | rfl | rfl | rfl <;> k_ne)))
            intro v9 nw9 h9 tk9 F9 N9 O9
            obtain ⟨t9, o9, kvs8, e9, e9n, hd9, hf9⟩ := O9
            subst e9
            subst e9n
            dsimp only at N9 ⊢
            have hnb := namesF_bd ((outT ns).map normF) ((filesT ns)[i])
            k_steps
            have hgd : (filesT ns).getD i Str.empty = (filesT ns)[i] := by simp [List.getD, hi9]
            refine r1 _ _ _ ((D2, LCg.lst ys2) :: (_, o9) :: _) (by k_asm) N9 off0 trivial ⟨o9, kvs8, rfl, hd9, ?_, ?_⟩
            · show PyProof.V.FlatPairs PyData.str kvs8 (kdpD (kdpPut _ _ (namesF _ ((filesT ns).getD i Str.empty))))
              rw [hgd]; exact hf9
            · rw [List.take_add_one, List.getElem?_eq_getElem hi9]
              simp only [Option.toList_some, List.map_append, List.map_cons, List.map_nil]
              exact StrsAre.append' hys3 (.cons _ _ .nil)
          · intro ys3 nx hJ
            obtain ⟨ob, kvs9, rfl, hdo, hfo, hys3⟩ := hJ
            rw [hfl9, List.take_length] at hys3
            unfold LCg.FinE
            intro D4 h4 tk4 F4 N4 o4
            dsimp only
            k_steps
            (rename (LCg.CompSrc _ _ _ _ _ _ _ _ _ _ _ _ = _) => hR)
            subst hR
            refine LCg.CompSrc.ledger (by rfl) (by k_asm) (by k_asm) (by k_mem) (by rw [sizeLine_eq, List.size_toArray]; omega) ?_
            intro g14
            refine restU_inv (fun i ys nx => nx = _ ∧ StrsAre ys (((filesT ns).take i).map fun f => strI (dueF 20 f ((outT ns).map normF)))) ?_ ?_ _ 0 [] _ (Nat.zero_add _) ⟨rfl, .nil⟩
            · intro i ys5 nx hi hJ
              obtain ⟨rfl, hys5⟩ := hJ
              unfold TurnU
              intro v I oI C oC D5 m₂ h5 tk5 E' R1 hv hC hx F5 N5 off ne r1
              dsimp only
              obtain ⟨c, tc, rfl, hc⟩ := StrsAre.item hf i v (by simpa using hv)
              have hll : c.length ≤ 100 := Nat.le_trans (filesT_len (List.mem_of_getElem? hc)) (by decide)
              have hst : stopsN 20 c = true := filesT_stops (List.mem_of_getElem? hc)
              have hok : ∀ y ∈ (outT ns).map normF, PyData.strOk y = true := fun y hy => waysT_ok hy
              have hwn7 : ((outT ns).map normF).length ≤ 100 := by rw [List.length_map]; omega
              have hdb := dueF_bd 20 c ((outT ns).map normF)
              k_steps
              refine r1 _ _ _ _ (by k_asm) (by assumption) off (.inr ⟨_, by k_mem, rfl, _, rfl⟩) ⟨rfl, ?_⟩
              rw [List.take_add_one, hc]
              simp only [Option.toList_some, List.map_append, List.map_cons, List.map_nil]
              exact StrsAre.append' hys5 (.cons _ _ .nil)
            · intro ys5 nx hJ
              obtain ⟨rfl, hys5⟩ := hJ
              rw [List.size_toArray, hfl9, List.take_length] at hys5
              unfold LCg.FinE
              intro D5 h5 tk5 F5 N5 o5
              dsimp only
              refine eq_strsK (News.isList N5 (by k_mem)) hys3 (News.isList N5 (by k_mem)) hys5 (fun y hy => by obtain ⟨f, _, rfl⟩ := List.mem_map.mp hy; exact strI_ok (namesF_bd _ _)) (fun y hy => by obtain ⟨f, _, rfl⟩ := List.mem_map.mp hy; exact strI_ok (dueF_bd _ _ _)) (by ktr_units) ?_
              rw [law_plain ns]
              k_steps)
